import PyProof.Rows.All
import Wide.All
import OpenK.AllK
import Wide.FinOn
import PySem.Challenge.RW_wr0023_01
open PySem PySem.W PyProof.Rows
set_option Elab.async false
set_option linter.all false
set_option compiler.extract_closed false
set_option maxRecDepth 100000
namespace Mine
set_option maxHeartbeats 8000000 in
open_top hd for PySem.Challenge.rw_wr0023_01
end Mine

section
open PySem PySem.W PyProof.Rows PySem.Calls
namespace Mine

theorem cd_lt {n i k : Nat} (hk : k = n + 1 - i) (hi : i < n) : n + 1 - (i + 1) < k := hk ▸ Nat.sub_lt_sub_left (Nat.lt_succ_of_lt hi) (Nat.lt_succ_self i)
theorem end_eq {n i : Nat} (h1 : i ≤ n) (h2 : ¬ i < n) : i = n := Nat.le_antisymm h1 (Nat.not_lt.mp h2)
/-- the state only grows -/
structure Le (s s' : Shared) : Prop where
  keep : ∀ b o, s.heap.get? b = some o → s'.heap.get? b = some o
  gens : ∀ (i : Nat) (x : GenState), s.gens[i]? = some x → s'.gens[i]? = some x
  bare : ∀ (i : Nat) (x : GenState), s'.gens[i]? = some x → s.gens[i]? = none → x.bare = true
  os : s'.os = s.os
  tk : s.toks ≤ s'.toks

theorem Le.of_same {s s' : Shared} (k : ∀ b o, s.heap.get? b = some o → s'.heap.get? b = some o) (g : s'.gens = s.gens) (os : s'.os = s.os) (ht : s.toks ≤ s'.toks := by first | exact Nat.le_refl _ | exact Nat.le_succ _ | exact Nat.le_add_right _ _ | exact Nat.le_trans (Nat.le_succ _) (Nat.le_succ _) | ((try dsimp only); omega)) : Le s s' :=
  ⟨k, fun _ _ e => g ▸ e, fun _ _ e n => (by rw [g, n] at e; cases e), os, ht⟩
theorem Le.refl (s : Shared) : Le s s := .of_same (fun _ _ e => e) rfl rfl
theorem Le.trans {a b c : Shared} (x : Le a b) (y : Le b c) : Le a c :=
  ⟨fun p o e => y.keep p o (x.keep p o e), fun i g e => y.gens i g (x.gens i g e), fun i g e n => by
    cases h : b.gens[i]? with
    | none => exact y.bare i g e h
    | some z => exact (Option.some.inj ((y.gens i z h).symm.trans e)) ▸ x.bare i z h n, y.os.trans x.os, Nat.le_trans x.tk y.tk⟩
theorem Le.allBare {a b : Shared} (x : Le a b) (h : AllBare a.gens) : AllBare b.gens := by
  intro y hy
  obtain ⟨i, hi, rfl⟩ := Array.mem_iff_getElem.mp hy
  have e : b.gens[i]? = some b.gens[i] := Array.getElem?_eq_getElem hi
  cases q : a.gens[i]? with
  | none => exact x.bare i _ e q
  | some z => exact (Option.some.inj ((x.gens i z q).symm.trans e)) ▸ h z (Array.mem_of_getElem? q)
theorem Le.of_heap {s : Shared} {h' : Heap} {tk : Nat} (k : ∀ b o, s.heap.get? b = some o → h'.get? b = some o) (ht : s.toks ≤ tk := by first | exact Nat.le_refl _ | exact Nat.le_succ _ | exact Nat.le_add_right _ _ | exact Nat.le_trans (Nat.le_succ _) (Nat.le_succ _) | ((try dsimp only); omega)) :
    Le s { s with heap := h', toks := tk } := .of_same k rfl rfl ht
theorem Le.toks {s : Shared} {tk : Nat} (ht : s.toks ≤ tk := by first | exact Nat.le_refl _ | exact Nat.le_succ _ | exact Nat.le_add_right _ _ | exact Nat.le_trans (Nat.le_succ _) (Nat.le_succ _) | ((try dsimp only); omega)) : Le s { s with toks := tk } := .of_same (fun _ _ e => e) rfl rfl ht
theorem Le.push {s : Shared} {o : Obj} {tk : Nat} (ht : s.toks ≤ tk := by first | exact Nat.le_refl _ | exact Nat.le_succ _ | exact Nat.le_add_right _ _ | exact Nat.le_trans (Nat.le_succ _) (Nat.le_succ _) | ((try dsimp only); omega)) : Le s { s with heap := s.heap.push o, toks := tk } := .of_same (fun _ _ e => Heap.get?_push_of_some _ e) rfl rfl ht

theorem Le.fin {s s₃ : Shared} {h' : Heap} {tk : Nat} (l : Le s s₃) (k : ∀ b o, s₃.heap.get? b = some o → h'.get? b = some o) (ht : s.toks ≤ tk) : Le s { s₃ with heap := h', toks := tk } :=
  ⟨fun b o e => k b o (l.keep b o e), l.gens, l.bare, l.os, ht⟩

/-- what the top lays down -/
structure Tp (w : World) (s : Shared) : Prop where
  k : (_root_.Mine.hd.heap_39 w.params).In s.heap
  g : ∃ mg, s.heap.Ns mainGlobals mg
  b : ∃ mb, s.heap.Ns builtinsNs mb ∧ ∀ x : Str, x ≠ "__name__" → mb x = bootBuiltins x
  lim : s.heap.NoLimit
theorem Tp.le {w : World} {s s' : Shared} (T : Tp w s) (l : Le s s') : Tp w s' :=
  ⟨fun a o e => l.keep a o (T.k a o e), (by obtain ⟨mg, h⟩ := T.g; exact ⟨mg, h.keeps l.keep⟩), (by obtain ⟨mb, h, e⟩ := T.b; exact ⟨mb, h.keeps l.keep, e⟩), T.lim.keeps l.keep⟩

/-- room around -/
structure Cx (A : Around) (d : Nat) : Prop where
  hh : A.handled = none
  dep : A.depth + d < recursionLimit
  un : A.units + 20 * d + 20 < cLine
theorem Cx.deeper {A : Around} {d : Nat} (C : Cx A (d + 1)) (env : Env) : Cx (A.deeper env) d :=
  ⟨C.hh, by have := C.dep; show A.depth + 1 + d < _; omega, by have := C.un; show A.units + 3 + 20 * d + 20 < _; omega⟩
theorem Cx.in1 {A : Around} {d : Nat} (C : Cx A (d + 1)) : Cx A.in1 d :=
  ⟨C.hh, by have := C.dep; show A.depth + d < _; omega, by have := C.un; show A.units + 1 + 20 * d + 20 < _; omega⟩
theorem Cx.le {A : Around} {d d' : Nat} (C : Cx A d) (h : d' ≤ d) : Cx A d' :=
  ⟨C.hh, by have := C.dep; omega, by have := C.un; omega⟩
theorem Cx.room {A : Around} {d : Nat} (C : Cx A d) : A.depth < recursionLimit := by have := C.dep; omega
theorem Cx.units {A : Around} {d : Nat} (C : Cx A d) : A.units < cLine := by have := C.un; omega

section
variable {α β : Type} {prog : Program} {w : World} {A : Around} {s₀ s₁ : Shared}

/-- a tree that only makes things: from any state that extends s₀ -/
noncomputable def PT (prog : Program) (w : World) (A : Around) (s₀ : Shared) (t : Sem α) (P : α → Shared → Prop) : Prop :=
  ∀ (s : Shared) (Q : α → Shared → Prop) (E : Value → Shared → Prop), Le s₀ s → (∀ v s', Le s s' → P v s' → Q v s') → wpAny (model prog w) A t Q E s

theorem PT.wk {t : Sem α} {P : α → Shared → Prop} (h : ∀ (s : Shared) (Q : α → Shared → Prop) (E : Value → Shared → Prop), Le s₀ s → (∀ v s', (s.toks ≤ s'.toks → Le s s') → P v s' → Q v s') → wpAny (model prog w) A t Q E s) : PT prog w A s₀ t P :=
  fun s Q E l q => wpAny_with_toks (Nat.le_refl s.toks) (h s _ _ l fun v s' hl p ht => q v s' (hl ht) p)
/-- with a word on what the state's counter has come to -/
theorem wp_tk {t : Sem α} {Q : α → Shared → Prop} {E : Value → Shared → Prop} {s : Shared} (h : wpAny (model prog w) A t (fun v s' => s.toks ≤ s'.toks → Q v s') E s) : wpAny (model prog w) A t Q E s :=
  wpAny_with_toks (Nat.le_refl s.toks) (wpAny_mono h (fun _ _ x => x) fun _ _ x _ => x)
theorem PT.le {t : Sem α} {P : α → Shared → Prop} (h : PT prog w A s₀ t P) (l : Le s₀ s₁) : PT prog w A s₁ t P :=
  fun s Q E l' k => h s Q E (l.trans l') k
theorem PT.mono {t : Sem α} {P P' : α → Shared → Prop} (h : PT prog w A s₀ t P) (i : ∀ v s, Le s₀ s → P v s → P' v s) : PT prog w A s₀ t P' :=
  fun s Q E l k => h s Q E l fun v s' l' p => k v s' l' (i v s' (l.trans l') p)
theorem PT.use {t : Sem α} {P : α → Shared → Prop} {Q : α → Shared → Prop} {E : Value → Shared → Prop} {s : Shared} (h : PT prog w A s t P) (k : ∀ v s', Le s s' → P v s' → Q v s') :
    wpAny (model prog w) A t Q E s := h s Q E (Le.refl s) k
theorem PT.pure {a : α} {P : α → Shared → Prop} (h : ∀ s, Le s₀ s → P a s) : PT prog w A s₀ (Pure.pure a) P :=
  fun s Q E l k => wpAny_pure (k a s (Le.refl s) (h s l))
end

noncomputable def IsI (i : Int) (v : Value) : Prop := ∃ t, v = .int i t
noncomputable def IsS (x : Str) (v : Value) : Prop := ∃ t, v = .str x t
noncomputable def IsB (b : Bool) (v : Value) : Prop := v = .bool b
/-- a word on values alone -/
noncomputable abbrev PV (prog : Program) (w : World) (A : Around) (s₀ : Shared) (t : Sem Value) (p : Value → Prop) : Prop := PT prog w A s₀ t fun v _ => p v

section
variable {prog : Program} {w : World} {A : Around} {s₀ : Shared} {env : Env}

theorem pt_int (i : Int) (k : Nat) (pos : Pos) : PV prog w A s₀ (eval (.Constant (.int i) k pos) env) (IsI i) :=
  fun s Q E _ q => wpAny_Constant_int (q _ _ Le.toks ⟨_, rfl⟩)

theorem pt_binop {l r : Expr} {op : Operator} {pos : Pos} {P1 P2 : Value → Shared → Prop} {R : Value → Shared → Prop}
    (h1 : PT prog w A s₀ (eval l env) P1) (h2 : ∀ a s₁, Le s₀ s₁ → P1 a s₁ → PT prog w A s₁ (eval r env) P2)
    (h3 : ∀ a b s₁ s₂, Le s₀ s₁ → P1 a s₁ → Le s₁ s₂ → P2 b s₂ → PT prog w A s₂ (binaryOp op a b) R) : PT prog w A s₀ (eval (.BinOp l op r pos) env) R :=
  fun s Q E l0 q => wpAny_BinOp (h1 s _ E l0 fun a s₁ l1 p1 => h2 a s₁ (l0.trans l1) p1 s₁ _ E (Le.refl _) fun b s₂ l2 p2 =>
    h3 a b s₁ s₂ (l0.trans l1) p1 l2 p2 s₂ _ E (Le.refl _) fun v s₃ l3 r => q v s₃ ((l1.trans l2).trans l3) r)

theorem pv_binop {l r : Expr} {op : Operator} {pos : Pos} {p1 p2 : Value → Prop} {R : Value → Shared → Prop}
    (h1 : PV prog w A s₀ (eval l env) p1) (h2 : PV prog w A s₀ (eval r env) p2)
    (h3 : ∀ a b s₂, Le s₀ s₂ → p1 a → p2 b → PT prog w A s₂ (binaryOp op a b) R) : PT prog w A s₀ (eval (.BinOp l op r pos) env) R :=
  pt_binop h1 (fun _ _ l _ => h2.le l) fun a b _ s₂ l1 p1 l2 p2 => h3 a b s₂ (l1.trans l2) p1 p2

theorem pv_add_int {l r : Expr} {pos : Pos} {a b : Int} (h1 : PV prog w A s₀ (eval l env) (IsI a)) (h2 : PV prog w A s₀ (eval r env) (IsI b)) :
    PV prog w A s₀ (eval (.BinOp l .Add r pos) env) (IsI (a + b)) :=
  pv_binop h1 h2 fun _ _ _ _ zq0 zq1 => by obtain ⟨_, ha⟩ := zq0; obtain ⟨_, hb⟩ := zq1; subst ha hb; exact fun s Q E _ q => add_int (q _ _ Le.toks ⟨_, rfl⟩)
theorem pv_add_str {l r : Expr} {pos : Pos} {a b : Str} (h1 : PV prog w A s₀ (eval l env) (IsS a)) (h2 : PV prog w A s₀ (eval r env) (IsS b)) (hz : a.length + b.length ≤ sizeLine) :
    PV prog w A s₀ (eval (.BinOp l .Add r pos) env) (IsS (a ++ b)) :=
  pv_binop h1 h2 fun _ _ _ _ zq2 zq3 => by obtain ⟨_, ha⟩ := zq2; obtain ⟨_, hb⟩ := zq3; subst ha hb; exact PT.wk fun s Q E _ q => add_str (fun t tk => q _ _ (fun ht => Le.toks ht) ⟨_, rfl⟩) hz
end
end Mine
end

section
open PySem PySem.W PyProof.Rows PySem.Calls
namespace Mine
noncomputable abbrev Mp := List (Str × Value)
noncomputable def fAd (env : Env) : List Addr := env.locals :: env.cells.map (·.2)

/-- a frame: its names are m's; all that s₀ knows stands -/
structure Fm (s₀ : Shared) (env : Env) (m : Mp) (s : Shared) : Prop where
  le : Le s₀ s
  ns : ∃ ml, s.heap.Ns env.locals ml ∧ ∀ x v, m.lookup x = some v → env.kindOf x = some .local → ml x = some v
  cell : ∀ x c, env.cells.lookup x = some c → ∃ ov, s.heap.IsCell c ov ∧ ∀ v, m.lookup x = some v → env.kindOf x = some .cell → ov = some v
  kind : env.scope.kind = .function
  apart : env.cells.Pairwise fun x y => x.2 ≠ y.2
  off : ∀ x ∈ env.cells, x.2 ≠ env.locals
  newL : s₀.heap.get? env.locals = none
  newC : ∀ x ∈ env.cells, s₀.heap.get? x.2 = none
  there : ∀ a ∈ fAd env, ∃ o, s.heap.get? a = some o

section
variable {prog : Program} {w : World} {A : Around} {s₀ s s' : Shared} {env : Env} {m : Mp}
theorem Fm.grow (F : Fm s₀ env m s) (l : Le s s') : Fm s₀ env m s' where
  le := F.le.trans l
  ns := (by obtain ⟨ml, h, e⟩ := F.ns; exact ⟨ml, h.keeps l.keep, e⟩)
  cell := fun x c hc => (by obtain ⟨ov, ⟨o, ho, hd⟩, e⟩ := F.cell x c hc; exact ⟨ov, ⟨o, l.keep _ _ ho, hd⟩, e⟩)
  kind := F.kind
  apart := F.apart
  off := F.off
  newL := F.newL
  newC := F.newC
  there := fun a ha => (by obtain ⟨o, ho⟩ := F.there a ha; exact ⟨o, l.keep _ _ ho⟩)
theorem Fm.sub (F : Fm s₀ env m s) {m' : Mp} (h : ∀ x v, m'.lookup x = some v → m.lookup x = some v) : Fm s₀ env m' s :=
  { F with
    ns := (by obtain ⟨ml, hn, e⟩ := F.ns; exact ⟨ml, hn, fun x v hx => e x v (h x v hx)⟩)
    cell := fun x c hc => (by obtain ⟨ov, hn, e⟩ := F.cell x c hc; exact ⟨ov, hn, fun v hx => e v (h x v hx)⟩) }

theorem pt_local {x : Str} {pos : Pos} {v : Value} (F : Fm s₀ env m s) (hv : m.lookup x = some v) (hl : env.kindOf x = some .local := by rfl) (hd : (x == ("__debug__" : Str)) = false := by decide) :
    PV prog w A s (eval (.Name x pos) env) (fun u => u = v) := by
  intro s₁ Q E l q
  obtain ⟨ml, hn, e⟩ := (F.grow l).ns
  exact wpAny_Name (wpAny_loadName_local F.kind hl hn (e x v hv hl) (q _ _ (Le.refl _) rfl)) hd
theorem pt_cell {x : Str} {pos : Pos} {v : Value} {c : Addr} (F : Fm s₀ env m s) (hv : m.lookup x = some v) (hl : env.kindOf x = some .cell := by rfl) (hc : env.cells.lookup x = some c := by rfl) (hd : (x == ("__debug__" : Str)) = false := by decide) :
    PV prog w A s (eval (.Name x pos) env) (fun u => u = v) := by
  intro s₁ Q E l q
  obtain ⟨ov, hi, e⟩ := (F.grow l).cell x c hc
  have := e v hv hl
  subst this
  exact wpAny_Name (wpAny_loadName_cell F.kind hl hc hi (q _ _ (Le.refl _) rfl)) hd
/-- a name of an outer frame's, as a cell that stands -/
theorem pt_free {x : Str} {pos : Pos} {v : Value} {c : Addr} (hk : env.scope.kind = .function) (hi : s.heap.IsCell c (some v)) (hl : env.kindOf x = some .free ∨ env.kindOf x = some .cell) (hc : env.cells.lookup x = some c) (hd : (x == ("__debug__" : Str)) = false := by decide) (hcd : (x == ("__classdict__" : Str)) = false := by decide) :
    PV prog w A s (eval (.Name x pos) env) (fun u => u = v) := by
  intro s₁ Q E l q
  obtain ⟨o, ho, hd'⟩ := hi
  have hi' : s₁.heap.IsCell c (some v) := ⟨o, l.keep _ _ ho, hd'⟩
  rcases hl with hl | hl
  · exact wpAny_Name (wpAny_loadName_free hk hl hc hi' (q _ _ (Le.refl _) rfl) hcd) hd
  · exact wpAny_Name (wpAny_loadName_cell hk hl hc hi' (q _ _ (Le.refl _) rfl)) hd
theorem pt_global {x : Str} {pos : Pos} {v : Value} (T : Tp w s) (hk : env.scope.kind = .function) (hv : nsIn (_root_.Mine.hd.heap_39 w.params) mainGlobals x = some (some v)) (hl : env.kindOf x = some .globalImplicit := by rfl) (hg : env.globals = mainGlobals := by rfl) (hd : (x == ("__debug__" : Str)) = false := by decide) :
    PV prog w A s (eval (.Name x pos) env) (fun u => u = v) := by
  intro s₁ Q E l q
  have T' := T.le l
  obtain ⟨mg, hm⟩ := T'.g
  exact Name_function_global hk hl (loadGlobal_global (hg ▸ hm) (mg_of T'.k hm hv) (q _ _ (Le.refl _) rfl)) hd
theorem pt_builtin {x : Str} {pos : Pos} {v : Value} (T : Tp w s) (hk : env.scope.kind = .function) (hm : nsIn (_root_.Mine.hd.heap_39 w.params) mainGlobals x = some none) (hv : bootBuiltins x = some v) (hn : x ≠ "__name__" := by decide) (hl : env.kindOf x = some .globalImplicit := by rfl) (hg : env.globals = mainGlobals := by rfl) (hb : env.builtins = builtinsNs := by rfl) (hd : (x == ("__debug__" : Str)) = false := by decide) :
    PV prog w A s (eval (.Name x pos) env) (fun u => u = v) := by
  intro s₁ Q E l q
  have T' := T.le l
  obtain ⟨mg, hmg⟩ := T'.g
  obtain ⟨mb, hmb, eb⟩ := T'.b
  exact Name_function_global hk hl (loadGlobal_builtin (hg ▸ hmg) (mg_none_of T'.k hmg hm) (hb ▸ hmb) ((eb x hn).trans hv) (q _ _ (Le.refl _) rfl)) hd

/-- what stood beside the frame stands -/
noncomputable def Beside (env : Env) (s s' : Shared) : Prop := ∀ b o, b ∉ fAd env → s.heap.get? b = some o → s'.heap.get? b = some o
theorem Beside.refl : Beside env s s := fun _ _ _ e => e
theorem Beside.trans {s'' : Shared} (x : Beside env s s') (y : Beside env s' s'') : Beside env s s'' := fun b o h e => y b o h (x b o h e)
theorem Beside.of_le (l : Le s s') : Beside env s s' := fun b o _ e => l.keep b o e

theorem lookup_cons_ne {x y : Str} {v : Value} {m : Mp} (h : y ≠ x) : List.lookup y ((x, v) :: m) = m.lookup y := by
  rw [List.lookup_cons]
  have : (y == x) = false := by simpa using h
  simp only [this]
theorem lookup_cons_eq {x : Str} {v : Value} {m : Mp} : List.lookup x ((x, v) :: m) = some v := by
  rw [List.lookup_cons]; simp

theorem lookup_mem {α : Type} {x : Str} {c : α} : ∀ {l : List (Str × α)}, l.lookup x = some c → (x, c) ∈ l
  | [], h => by cases h
  | (y, d) :: r, h => by
    rw [List.lookup_cons] at h
    cases q : x == y with
    | true => rw [q] at h; cases h; rw [beq_iff_eq.mp q]; exact .head _
    | false => rw [q] at h; exact .tail _ (lookup_mem h)

theorem wp_store {x : Str} {v : Value} {Q : Unit → Shared → Prop} {E : Value → Shared → Prop} (F : Fm s₀ env m s) (hx : env.kindOf x = some .local ∨ (env.kindOf x = some .cell ∧ (env.cells.lookup x).isSome = true))
    (h : ∀ s', Fm s₀ env ((x, v) :: m) s' → Beside env s s' → s'.gens = s.gens → Q () s') : wpAny (model prog w) A (storeName env x v) Q E s := by
  obtain ⟨ml, hn, e⟩ := F.ns
  rcases hx with hl | ⟨hl, hc⟩
  · refine wpAny_storeName_local hl hn (fun h' hn' hs => ?_) (by rw [F.kind]; rfl)
    have hb : ∀ b o, b ≠ env.locals → s.heap.get? b = some o → h'.get? b = some o := fun b o hb e => (hs.2 b hb).trans e
    refine h _ ⟨⟨fun b o e => hb b o (fun q => by rw [q, F.newL] at e; cases e) (F.le.keep b o e), F.le.gens, F.le.bare, F.le.os, Nat.le_trans F.le.tk (by first | exact Nat.le_refl _ | exact Nat.le_succ _ | exact Nat.le_add_right _ _ | exact Nat.le_trans (Nat.le_succ _) (Nat.le_succ _) | ((try dsimp only); omega))⟩, ⟨_, hn', fun y u hy hly => ?_⟩, fun y c hy => ?_, F.kind, F.apart, F.off, F.newL, F.newC, fun a ha => ?_⟩ (fun b o hb' e => hb b o (fun q => hb' (by rw [q]; exact .head _)) e) rfl
    · by_cases q : y = x
      · subst q; rw [lookup_cons_eq] at hy; cases hy; simp
      · rw [lookup_cons_ne q] at hy; simp only [q, if_false]; exact e y u hy hly
    · obtain ⟨ov, ⟨o, ho, hd⟩, e'⟩ := F.cell y c hy
      refine ⟨ov, ⟨o, hb c o (F.off _ (lookup_mem hy)) ho, hd⟩, fun u hu hk => ?_⟩
      by_cases q : y = x
      · subst q; rw [hl] at hk; cases hk
      · rw [lookup_cons_ne q] at hu; exact e' u hu hk
    · by_cases q : a = env.locals
      · subst q; obtain ⟨o, _, _, ho, _⟩ := hn'; exact ⟨o, ho⟩
      · obtain ⟨o, ho⟩ := F.there a ha; exact ⟨o, hb a o q ho⟩
  · obtain ⟨c, hc⟩ := Option.isSome_iff_exists.mp hc
    obtain ⟨ov, hi, e'⟩ := F.cell x c hc
    have hcm := lookup_mem hc
    refine wpAny_storeName_cell F.kind hl hc hi fun h' hv hs => ?_
    have hb : ∀ b o, b ≠ c → s.heap.get? b = some o → h'.get? b = some o := fun b o hb e => (hs.2 b hb).trans e
    refine h _ ⟨⟨fun b o e => hb b o (fun q => by have z := F.newC _ hcm; dsimp only at z; rw [q, z] at e; cases e) (F.le.keep b o e), F.le.gens, F.le.bare, F.le.os, Nat.le_trans F.le.tk (by first | exact Nat.le_refl _ | exact Nat.le_succ _ | exact Nat.le_add_right _ _ | exact Nat.le_trans (Nat.le_succ _) (Nat.le_succ _) | ((try dsimp only); omega))⟩, ⟨ml, hn.sameBut hs (Ne.symm (F.off _ hcm)), fun y u hy hly => ?_⟩, fun y d hy => ?_, F.kind, F.apart, F.off, F.newL, F.newC, fun a ha => ?_⟩ (fun b o hb' e => hb b o (fun q => hb' (by rw [q]; exact List.Mem.tail _ (List.mem_map_of_mem (f := (·.2)) hcm))) e) rfl
    · by_cases q : y = x
      · subst q; rw [hl] at hly; cases hly
      · rw [lookup_cons_ne q] at hy; exact e y u hy hly
    · by_cases q : y = x
      · subst q
        rw [hc] at hy; cases hy
        refine ⟨some v, hv, fun u hu _ => ?_⟩
        rw [lookup_cons_eq] at hu; exact hu
      · have hdc : d ≠ c := fun z => q (name_of_addr F.apart (lookup_mem hy) (z ▸ hcm))
        obtain ⟨ov', ⟨o, ho, hd⟩, e''⟩ := F.cell y d hy
        refine ⟨ov', ⟨o, hb d o hdc ho, hd⟩, fun u hu hk => ?_⟩
        rw [lookup_cons_ne q] at hu; exact e'' u hu hk
    · by_cases q : a = c
      · subst q; obtain ⟨o, ho, _⟩ := hv; exact ⟨o, ho⟩
      · obtain ⟨o, ho⟩ := F.there a ha; exact ⟨o, hb a o q ho⟩
end
end Mine
end

section
open PySem PySem.W PyProof.Rows PySem.Calls
namespace Mine
noncomputable def retOf : Flow → Value
  | .ret v => v
  | _ => .none

theorem new_none (h : Heap) (a : Addr) (hz : h.objs.size ≤ a) : h.get? a = none := by
  cases e : h.get? a with
  | none => rfl
  | some o => exact absurd (Heap.lt_size e) (Nat.not_lt.mpr hz)

theorem lookup_nodup {α : Type} : ∀ {l : List (Str × α)}, (l.map (·.1)).Nodup → ∀ {x : Str × α}, x ∈ l → l.lookup x.1 = some x.2
  | [], _, _, h => nomatch h
  | (y, d) :: r, hn, x, h => by
    rw [List.lookup_cons]
    rw [List.map_cons, List.nodup_cons] at hn
    rcases List.mem_cons.mp h with rfl | h
    · simp
    · have : (x.1 == y) = false := by
        have : x.1 ≠ y := fun e => hn.1 (by rw [← e]; exact List.mem_map_of_mem (f := (·.1)) h)
        simpa using this
      rw [this]; exact lookup_nodup hn.2 h

section
variable {prog : Program} {w : World} {A : Around} {s₀ s s' : Shared} {P : Value → Shared → Prop}

theorem pt_enter {d : Nat} {name qual : Str} {params : Arguments} {body : List Stmt} {scope : Scope} {dV kV doc pm cdv ct oc : Value} {an od : Option Addr} {osl : Array (Option Value)} {f : Addr} {vs : List Value} {binds : Mp}
    (C : Cx A (d + 1)) (T : Tp w s₀) (ho : (_root_.Mine.hd.heap_39 w.params).lookup f = some ⟨oc, od, .func (fnOf name qual params body scope dV kV doc pm an cdv ct), osl⟩) (hcd : codeIn (_root_.Mine.hd.heap_39 w.params) cdv qual = true)
    (hbind : ∀ s, BindsTo s (fnOf name qual params body scope dV kV doc pm an cdv ct) ⟨vs, []⟩ binds) (hloc : ∀ y ∈ binds, scope.names.lookup y.1 = some .local)
    (hco : scope.isCoroutine = false) (hgen : scope.isGenerator = false) (hk : scope.kind = .function) (hcell : ∀ x ∈ scope.names, x.2 ≠ .cell)
    (h : ∀ s L s₁, Le s₀ s → Fm s (envOf qual scope L f cdv) binds.reverse s₁ → s₁.gens = s.gens → Cx (A.deeper (envOf qual scope L f cdv)) d →
      wpAny (model prog w) (A.deeper (envOf qual scope L f cdv)) (execs body (envOf qual scope L f cdv)) (fun fl s' => Le s s' ∧ P (retOf fl) s') (fun _ _ => False) s₁) :
    PT prog w A s₀ (call (.ref f) vs) P := by
  intro s Q E l q
  have T' := T.le l
  refine wpAny_call (codeAny_call_def (fd := fnOf name qual params body scope dV kV doc pm an cdv ct) C.room (T'.k _ _ ho) rfl T'.lim (codeRec_of T'.k hcd) rfl (hbind s) hcell hloc (fun h₁ hns hk₁ => ?_) hco hgen hk)
  refine wpAny_mono (h s s.heap.objs.size { s with heap := h₁, toks := s.toks + binds.length } l ⟨Le.of_heap hk₁, ⟨_, hns, fun x v hx _ => hx⟩, fun x c hc => (nomatch hc), hk, List.Pairwise.nil, fun _ hx => (nomatch hx), new_none _ _ (Nat.le_refl _), fun _ hx => (nomatch hx), fun a ha => ?_⟩ rfl (C.deeper _)) (fun fl s' hq => ?_) fun _ _ x => x.elim
  · rcases List.mem_cons.mp ha with rfl | ha
    · obtain ⟨o, _, _, e, _⟩ := hns; exact ⟨o, e⟩
    · cases ha
  · cases fl <;> exact q _ _ hq.1 hq.2

theorem bindL_lookup (kindOf : Str → Option NameKind) : ∀ (binds : Mp) (m : Str → Option Value) (x : Str), kindOf x = some .local → bindL kindOf binds m x = (binds.reverse.lookup x).or (m x)
  | [], m, x, _ => by simp [bindL]
  | (n, v) :: r, m, x, hx => by
    rw [bindL, bindL_lookup kindOf r _ x hx, List.reverse_cons, List.lookup_append, Option.or_assoc]
    congr 1
    by_cases q : x = n
    · subst q; rw [if_pos hx]; simp [List.lookup_cons]
    · have : (x == n) = false := by simpa using q
      by_cases hn : kindOf n = some .local
      · rw [if_pos hn]; simp [List.lookup_cons, this, q]
      · rw [if_neg hn]; simp [List.lookup_cons, this]
theorem bindC_lookup (kindOf : Str → Option NameKind) : ∀ (binds : Mp) (m : Str → Option Value) (x : Str), kindOf x = some .cell → bindC kindOf binds m x = (binds.reverse.lookup x).or (m x)
  | [], m, x, _ => by simp [bindC]
  | (n, v) :: r, m, x, hx => by
    rw [bindC, bindC_lookup kindOf r _ x hx, List.reverse_cons, List.lookup_append, Option.or_assoc]
    congr 1
    by_cases q : x = n
    · subst q; rw [if_neg (by rw [hx]; decide)]; simp [List.lookup_cons]
    · have : (x == n) = false := by simpa using q
      by_cases hn : kindOf n = some .local
      · rw [if_pos hn]; simp [List.lookup_cons, this]
      · rw [if_neg hn]; simp [List.lookup_cons, this, q]

theorem call_cells {R : Result → Shared → Prop} {a : Addr} {o : Obj} {fd : FuncData} {body : List Stmt} {vals : List Value} {binds : List (Str × Value)}
    (hroom : A.depth < recursionLimit) (ho : s.heap.get? a = some o) (hdata : o.data = .func fd) (hlim : s.heap.NoLimit) (hcd : s.heap.CodeRec fd.code fd.qualname)
    (hbody : fd.body = .stmts body) (hbind : bindArgs fd ⟨vals, []⟩ = pure binds) (hclo : fd.closure = [])
    (hkind : ∀ x ∈ binds, fd.scope.names.lookup x.1 = some .local ∨ (fd.scope.names.lookup x.1 = some .cell ∧ ((cellsFrom (s.heap.objs.size + 1) fd.scope.names []).lookup x.1).isSome = true))
    (h : ∀ s₁, InCallC s (callEnvC fd s.heap.objs.size a).locals (bindL (callEnvC fd s.heap.objs.size a).kindOf binds fun _ => none) (callEnvC fd s.heap.objs.size a).cells
        (bindC (callEnvC fd s.heap.objs.size a).kindOf binds fun _ => none) s₁ → s.toks ≤ s₁.toks →
      wpAny (model prog w) (A.deeper (callEnvC fd s.heap.objs.size a)) (execs body (callEnvC fd s.heap.objs.size a)) (fun f s' => R (.ok (.ret (match f with | .ret v => v | _ => .none))) s')
        (fun e s' => wpAny (model prog w) (A.deeper (callEnvC fd s.heap.objs.size a)) (leaving (callEnvC fd s.heap.objs.size a) e) (fun _ s'' => R (.error e) s'') (fun e' s'' => R (.error e') s'') s') s₁)
    (hco : fd.scope.isCoroutine = false := by rfl) (hgen : fd.scope.isGenerator = false := by rfl) (hk : fd.scope.kind = .function := by rfl) :
    codeAny (model prog w) A (.call (.ref a) ⟨vals, []⟩) R s := by
  refine codeAny_call_function hroom ho hdata hco hgen hbody hcd ?_
  rw [hbind, hclo]
  refine wpAny_pure (wp_tk (wpAny_newFunctionEnv_cells hk hkind fun env he s' x ht => ?_))
  subst he
  exact ⟨hlim.keeps x.toInCall.keep, codeAny_func (h s' x ht)⟩

theorem pt_enterC {d : Nat} {name qual : Str} {params : Arguments} {body : List Stmt} {scope : Scope} {dV kV doc pm cdv ct oc : Value} {an od : Option Addr} {osl : Array (Option Value)} {f : Addr} {vs : List Value} {binds : Mp}
    (C : Cx A (d + 1)) (T : Tp w s₀) (ho : (_root_.Mine.hd.heap_39 w.params).lookup f = some ⟨oc, od, .func (fnOf name qual params body scope dV kV doc pm an cdv ct), osl⟩) (hcd : codeIn (_root_.Mine.hd.heap_39 w.params) cdv qual = true)
    (hbind : bindArgs (fnOf name qual params body scope dV kV doc pm an cdv ct) ⟨vs, []⟩ = pure binds)
    (hkind : (binds.all fun y => scope.names.lookup y.1 == some .local || scope.names.lookup y.1 == some .cell) = true)
    (hnd : ((cellsFrom 0 scope.names []).map (·.1)).Nodup) (hco : scope.isCoroutine = false) (hgen : scope.isGenerator = false) (hk : scope.kind = .function)
    (h : ∀ s L s₁, Le s₀ s → Fm s (envOfC qual scope L f cdv) binds.reverse s₁ → s₁.gens = s.gens → Cx (A.deeper (envOfC qual scope L f cdv)) d →
      wpAny (model prog w) (A.deeper (envOfC qual scope L f cdv)) (execs body (envOfC qual scope L f cdv)) (fun fl s' => Le s s' ∧ P (retOf fl) s') (fun _ _ => False) s₁) :
    PT prog w A s₀ (call (.ref f) vs) P := by
  intro s Q E l q
  have T' := T.le l
  refine wpAny_call (call_cells (fd := fnOf name qual params body scope dV kV doc pm an cdv ct) C.room (T'.k _ _ ho) rfl T'.lim (codeRec_of T'.k hcd) rfl hbind rfl (fun x hx => kindsX hkind _ x hx) (fun s₁ X htk => ?_) hco hgen hk)
  obtain ⟨h₁, tk₁, rfl, hk₁⟩ := X.done
  have hL : (callEnvC (fnOf name qual params body scope dV kV doc pm an cdv ct) s.heap.objs.size f).locals = s.heap.objs.size := rfl
  refine wpAny_mono (h s s.heap.objs.size { s with heap := h₁, toks := tk₁ } l ⟨Le.of_heap hk₁ htk, ⟨_, X.toInCall.ns, fun x v hx hl => ?_⟩, fun x c hc => ⟨_, X.cell x c hc, fun v hx hl => ?_⟩, hk, X.apart, fun x hx => ?_, new_none _ _ (Nat.le_refl _), fun x hx => new_none _ _ (Nat.le_of_lt (X.above x.1 x.2 hx)), fun a ha => ?_⟩ rfl (C.deeper _)) (fun fl s' hq => ?_) fun _ _ x => x.elim
  · have e := bindL_lookup (callEnvC (fnOf name qual params body scope dV kV doc pm an cdv ct) s.heap.objs.size f).kindOf binds (fun _ => none) x hl
    rw [e, hx]; rfl
  · have e := bindC_lookup (callEnvC (fnOf name qual params body scope dV kV doc pm an cdv ct) s.heap.objs.size f).kindOf binds (fun _ => none) x hl
    rw [e, hx]; rfl
  · exact Nat.ne_of_gt (X.above x.1 x.2 hx)
  · rcases List.mem_cons.mp ha with rfl | ha
    · obtain ⟨o, _, _, e, _⟩ := X.toInCall.ns; exact ⟨o, e⟩
    · obtain ⟨x, hx, rfl⟩ := List.mem_map.mp ha
      have hn : ((callEnvC (fnOf name qual params body scope dV kV doc pm an cdv ct) s.heap.objs.size f).cells.map (·.1)).Nodup := by
        have := cellsFrom_names scope.names 0 (s.heap.objs.size + 1) [] [] rfl
        show ((cellsFrom (s.heap.objs.size + 1) scope.names []).map (·.1)).Nodup
        rw [← this]; exact hnd
      obtain ⟨o, ho, _⟩ := X.cell x.1 x.2 (lookup_nodup hn hx)
      exact ⟨o, ho⟩
  · cases fl <;> exact q _ _ hq.1 hq.2
end
end Mine
end

section
open PySem PySem.W PyProof.Rows PySem.Calls
namespace Mine
section
variable {prog : Program} {w : World} {A : Around} {s₀ s s' : Shared} {env : Env} {m : Mp} {Q : Flow → Shared → Prop} {E : Value → Shared → Prop}

theorem wp_return {e : Expr} {pos : Pos} {P : Value → Shared → Prop} (h : PT prog w A s (eval e env) P) (k : ∀ v s', Le s s' → P v s' → Q (.ret v) s') :
    wpAny (model prog w) A (exec (.Return (some e) pos) env) Q E s := wpAny_Return_some (h.use k)
/-- the last statement, a return -/
theorem wp_return1 {e : Expr} {pos : Pos} {P : Value → Shared → Prop} {rest : List Stmt} (h : PT prog w A s (eval e env) P) (k : ∀ v s', Le s s' → P v s' → Q (.ret v) s') :
    wpAny (model prog w) A (execs (.Return (some e) pos :: rest) env) Q E s := wpAny_execs_cons (wp_return h k)

theorem wp_assign {x : Str} {px pos : Pos} {value : Expr} {rest : List Stmt} {P : Value → Shared → Prop} (F : Fm s₀ env m s) (h : PT prog w A s (eval value env) P)
    (k : ∀ v s₁, Le s s₁ → P v s₁ → ∀ s₂, Fm s₀ env ((x, v) :: m) s₂ → Beside env s₁ s₂ → s₂.gens = s₁.gens → wpAny (model prog w) A (execs rest env) Q E s₂)
    (hx : env.kindOf x = some .local ∨ (env.kindOf x = some .cell ∧ (env.cells.lookup x).isSome = true) := by first | exact Or.inl rfl | exact Or.inr ⟨rfl, rfl⟩)
    (hs : swapsWith value (some (.Name x px)) pos.line env = pure false := by rfl) :
    wpAny (model prog w) A (execs (.Assign [.Name x px] value pos :: rest) env) Q E s :=
  wpAny_execs_cons (wpAny_Assign_Name (h.use fun v s₁ l p => wp_store (F.grow l) hx fun s₂ F₂ b g => k v s₁ l p s₂ F₂ b g) hs)

/-- behind a statement -/
noncomputable def aft (M : Model) (A : Around) (rest : List Stmt) (env : Env) (Q : Flow → Shared → Prop) (E : Value → Shared → Prop) : Flow → Shared → Prop
  | .next, s' => wpAny M A (execs rest env) Q E s'
  | f, s' => Q f s'

theorem wp_cons {st : Stmt} {rest : List Stmt} (h : wpAny (model prog w) A (exec st env) (aft (model prog w) A rest env Q E) E s) : wpAny (model prog w) A (execs (st :: rest) env) Q E s :=
  wpAny_execs_cons (wpAny_mono h (fun f s' h' => by cases f <;> exact h') fun _ _ e => e)

theorem wp_if {test : Expr} {body orelse rest : List Stmt} {pos : Pos} {P : Bool → Shared → Prop} (h : PT prog w A s (isTrue test env (eval test env)) P)
    (k1 : ∀ s', Le s s' → P true s' → wpAny (model prog w) A (execs body env) (aft (model prog w) A rest env Q E) E s')
    (k2 : ∀ s', Le s s' → P false s' → wpAny (model prog w) A (execs orelse env) (aft (model prog w) A rest env Q E) E s') :
    wpAny (model prog w) A (execs (.If test body orelse pos :: rest) env) Q E s :=
  wp_cons (wpAny_If (h.use fun b s' l p => by cases b <;> simp only [Bool.false_eq_true, if_true, if_false] <;> first | exact k1 s' l p | exact k2 s' l p))

/-- an if without else -/
theorem wp_if1 {test : Expr} {body rest : List Stmt} {pos : Pos} {b : Bool} (h : PT prog w A s (isTrue test env (eval test env)) (fun c _ => c = b))
    (k1 : b = true → ∀ s', Le s s' → wpAny (model prog w) A (execs body env) (aft (model prog w) A rest env Q E) E s')
    (k2 : b = false → ∀ s', Le s s' → wpAny (model prog w) A (execs rest env) Q E s') :
    wpAny (model prog w) A (execs (.If test body [] pos :: rest) env) Q E s :=
  wp_if h (fun s' l e => k1 e.symm s' l) fun s' l e => wpAny_execs_nil (k2 e.symm s' l)
end
end Mine
end

section
open PySem PySem.W PyProof.Rows PySem.Calls
namespace Mine
section
variable {prog : Program} {w : World} {A : Around} {s₀ : Shared} {env : Env} {pos : Pos}

theorem pt_of_name {t : Sem Value} {v : Value} {p : Value → Prop} (h : PV prog w A s₀ t (fun u => u = v)) (hp : p v) : PV prog w A s₀ t p := h.mono fun _ _ _ e => e ▸ hp

theorem args0 {P : List Value → Shared → Prop} (h : ∀ s, Le s₀ s → P [] s) : PT prog w A s₀ (spliced (backTo pos (starEach [] env))) P := PT.pure h
theorem argsC {e : Expr} {rest : List Expr} {P1 : Value → Shared → Prop} {P2 : List Value → Shared → Prop} {R : List Value → Shared → Prop} (he : starEach (e :: rest) env = (false, eval e env) :: starEach rest env)
    (h1 : PT prog w A s₀ (eval e env) P1) (h2 : ∀ v s₁, Le s₀ s₁ → P1 v s₁ → PT prog w A s₁ (spliced (backTo pos (starEach rest env))) P2)
    (h3 : ∀ v s₁ vs s₂, Le s₀ s₁ → P1 v s₁ → Le s₁ s₂ → P2 vs s₂ → R (v :: vs) s₂) : PT prog w A s₀ (spliced (backTo pos (starEach (e :: rest) env))) R := by
  intro s Q E l q
  rw [he]
  refine spliced_cons (h1 s _ E l fun v s₁ l1 p1 => h2 v s₁ (l.trans l1) p1 s₁ _ E (Le.refl _) fun vs s₂ l2 p2 => q _ s₂ (l1.trans l2) (h3 v s₁ vs s₂ (l.trans l1) p1 l2 p2))
theorem args1 {e : Expr} {P : Value → Shared → Prop} (h : PT prog w A s₀ (eval e env) P) (he : starEach (e :: []) env = (false, eval e env) :: starEach [] env := by rfl) :
    PT prog w A s₀ (spliced (backTo pos (starEach [e] env))) (fun vs s => ∃ v, vs = [v] ∧ ∃ s', Le s' s ∧ P v s') :=
  argsC he h (fun _ _ _ _ => args0 (P := fun vs _ => vs = []) fun _ _ => rfl) fun v s₁ vs s₂ _ p1 l e => ⟨v, by rw [e], s₁, l, p1⟩
theorem argv1 {e : Expr} {p : Value → Prop} (h : PV prog w A s₀ (eval e env) p) (he : starEach (e :: []) env = (false, eval e env) :: starEach [] env := by rfl) :
    PT prog w A s₀ (spliced (backTo pos (starEach [e] env))) (fun vs _ => ∃ v, vs = [v] ∧ p v) :=
  (args1 h he).mono fun _ _ _ zq0 => (by obtain ⟨v, e, _, _, p⟩ := zq0; exact ⟨v, e, p⟩)
theorem argv2 {e f : Expr} {p q : Value → Prop} (h : PV prog w A s₀ (eval e env) p) (h2 : PV prog w A s₀ (eval f env) q) (he : starEach (e :: [f]) env = (false, eval e env) :: starEach [f] env := by rfl) (hf : starEach (f :: []) env = (false, eval f env) :: starEach [] env := by rfl) :
    PT prog w A s₀ (spliced (backTo pos (starEach [e, f] env))) (fun vs _ => ∃ v u, vs = [v, u] ∧ p v ∧ q u) :=
  argsC he h (fun _ _ l _ => argv1 (h2.le l) hf) fun v _ vs _ _ p1 _ zq1 => (by obtain ⟨u, e, q1⟩ := zq1; exact ⟨v, u, by rw [e], p1, q1⟩)
theorem argv3 {e f g : Expr} {p q r : Value → Prop} (h : PV prog w A s₀ (eval e env) p) (h2 : PV prog w A s₀ (eval f env) q) (h3 : PV prog w A s₀ (eval g env) r)
    (he : starEach (e :: [f, g]) env = (false, eval e env) :: starEach [f, g] env := by rfl) (hf : starEach (f :: [g]) env = (false, eval f env) :: starEach [g] env := by rfl) (hg : starEach (g :: []) env = (false, eval g env) :: starEach [] env := by rfl) :
    PT prog w A s₀ (spliced (backTo pos (starEach [e, f, g] env))) (fun vs _ => ∃ v u x, vs = [v, u, x] ∧ p v ∧ q u ∧ r x) :=
  argsC he h (fun _ _ l _ => argv2 (h2.le l) (h3.le l) hf hg) fun v _ vs _ _ p1 _ zq2 => (by obtain ⟨u, x, e, q1, r1⟩ := zq2; exact ⟨v, u, x, by rw [e], p1, q1, r1⟩)

theorem pt_callB {x : Str} {p : Pos} {e : Expr} {rest : List Expr} {id : String} {PA : List Value → Shared → Prop} {R : Value → Shared → Prop} (hf : PV prog w A s₀ (eval (.Name x p) env) (fun u => u = .builtin id))
    (ha : PT prog w A s₀ (spliced (backTo pos (starEach (e :: rest) env))) PA) (hc : ∀ vs s', Le s₀ s' → PA vs s' → PT prog w A s' (call (.builtin id) vs) R)
    (he : starEach (e :: rest) env = (false, eval e env) :: starEach rest env := by rfl) (hp : (backTo pos (starEach rest env)).any (·.1) = false := by rfl) :
    PT prog w A s₀ (eval (.Call (.Name x p) (e :: rest) [] pos) env) R := by
  intro s Q E l q
  refine Call_ (hf s _ E l fun f s₁ l1 ef => ?_)
  subst ef
  exact PyProof.Rows.callWith_builtin1 (ha s₁ _ E (l.trans l1) fun vs s₂ l2 p2 => hc vs s₂ ((l.trans l1).trans l2) p2 s₂ _ E (Le.refl _) fun v s₃ l3 r => q v s₃ ((l1.trans l2).trans l3) r) he hp
theorem pt_callT {x : Str} {p : Pos} {e : Expr} {rest : List Expr} {id : String} {PA : List Value → Shared → Prop} {R : Value → Shared → Prop} (hf : PV prog w A s₀ (eval (.Name x p) env) (fun u => u = .type id))
    (ha : PT prog w A s₀ (spliced (backTo pos (starEach (e :: rest) env))) PA) (hc : ∀ vs s', Le s₀ s' → PA vs s' → PT prog w A s' (call (.type id) vs) R)
    (he : starEach (e :: rest) env = (false, eval e env) :: starEach rest env := by rfl) (hp : (backTo pos (starEach rest env)).any (·.1) = false := by rfl) :
    PT prog w A s₀ (eval (.Call (.Name x p) (e :: rest) [] pos) env) R := by
  intro s Q E l q
  refine Call_ (hf s _ E l fun f s₁ l1 ef => ?_)
  subst ef
  exact PyProof.Rows.callWith_type1 (ha s₁ _ E (l.trans l1) fun vs s₂ l2 p2 => hc vs s₂ ((l.trans l1).trans l2) p2 s₂ _ E (Le.refl _) fun v s₃ l3 r => q v s₃ ((l1.trans l2).trans l3) r) he hp
theorem pt_callF {x : Str} {p : Pos} {e : Expr} {rest : List Expr} {f : Addr} {PA : List Value → Shared → Prop} {R : Value → Shared → Prop} (T : Tp w s₀) (hk : keepIn (_root_.Mine.hd.heap_39 w.params) (.ref f) = true) (hf : PV prog w A s₀ (eval (.Name x p) env) (fun u => u = .ref f))
    (ha : PT prog w A s₀ (spliced (backTo pos (starEach (e :: rest) env))) PA) (hc : ∀ vs s', Le s₀ s' → PA vs s' → PT prog w A s' (call (.ref f) vs) R)
    (he : starEach (e :: rest) env = (false, eval e env) :: starEach rest env := by rfl) (hp : (backTo pos (starEach rest env)).any (·.1) = false := by rfl) :
    PT prog w A s₀ (eval (.Call (.Name x p) (e :: rest) [] pos) env) R := by
  intro s Q E l q
  refine Call_ (hf s _ E l fun f s₁ l1 ef => ?_)
  subst ef
  exact callWith_K ((T.le l).le l1).k hk (ha s₁ _ E (l.trans l1) fun vs s₂ l2 p2 => ⟨((T.le ((l.trans l1).trans l2))).k, hc vs s₂ ((l.trans l1).trans l2) p2 s₂ _ E (Le.refl _) fun v s₃ l3 r => q v s₃ ((l1.trans l2).trans l3) r⟩) he hp

/-- a method of a str's, by its rule -/
theorem pt_methS {o : Expr} {name : Str} {apos : Pos} {e : Expr} {rest : List Expr} {id : String} {x : Str} {PA : List Value → Shared → Prop} {R : Value → Shared → Prop} {pl : Sem Bool}
    (ho : PV prog w A s₀ (eval o env) (IsS x)) (hm : ∀ (t : Tok) (s : Shared) (Q : Value × List Value → Shared → Prop) (E : Value → Shared → Prop), Q (.builtin id, [.str x t]) s → wpAny (model prog w) A (getMethod (.str x t) name pl) Q E s)
    (ha : PT prog w A s₀ (spliced (backTo pos (starEach (e :: rest) env))) PA) (hc : ∀ t vs s', Le s₀ s' → PA vs s' → PT prog w A s' (call (.builtin id) (.str x t :: vs)) R)
    (heq : eval ((o.Attribute name apos).Call (e :: rest) [] pos) env = (do
          let ov ← eval o env
          standAt apos.atName
          let (f, first) ← holding [ov] (getMethod ov name pl)
          callWith pos f first (backTo pos (starEach (e :: rest) env)) []) := by rfl)
    (he : starEach (e :: rest) env = (false, eval e env) :: starEach rest env := by rfl) (hp : (backTo pos (starEach rest env)).any (·.1) = false := by rfl) :
    PT prog w A s₀ (eval (.Call (.Attribute o name apos) (e :: rest) [] pos) env) R := by
  intro s Q E l q
  refine MethodCall_ (pl := pl) (ho s _ E l fun ov s₁ l1 eo => ?_) heq
  obtain ⟨t, rfl⟩ := eo
  refine hm t s₁ _ E ?_
  exact PyProof.Rows.callWith_method1 (ha s₁ _ E (l.trans l1) fun vs s₂ l2 p2 => hc t vs s₂ ((l.trans l1).trans l2) p2 s₂ _ E (Le.refl _) fun v s₃ l3 r => q v s₃ ((l1.trans l2).trans l3) r) he hp

/-- truth -/
theorem pt_truth {e : Expr} {P : Value → Shared → Prop} {R : Bool → Shared → Prop} (h : PT prog w A s₀ (eval e env) P) (ht : ∀ v s', Le s₀ s' → P v s' → PT prog w A s' (truthy v) R)
    (heq : isTrue e env (eval e env) = (do let v ← eval e env; standAt e.pos; holding [v] (truthy v)) := by rfl) : PT prog w A s₀ (isTrue e env (eval e env)) R := by
  intro s Q E l q
  exact isTrue_plain (h s _ E l fun v s₁ l1 p1 => ht v s₁ (l.trans l1) p1 s₁ _ E (Le.refl _) fun b s₂ l2 r => q b s₂ (l1.trans l2) r) heq
theorem pt_truthB {e : Expr} {b : Bool} (h : PV prog w A s₀ (eval e env) (IsB b)) (heq : isTrue e env (eval e env) = (do let v ← eval e env; standAt e.pos; holding [v] (truthy v)) := by rfl) :
    PT prog w A s₀ (isTrue e env (eval e env)) (fun c _ => c = b) :=
  pt_truth h (fun v s' _ e => by cases e; exact fun s Q E _ q => wpAny_truthy_bool (q _ _ (Le.refl _) rfl)) heq

theorem pt_cmp {l r : Expr} {op : CmpOp} {P1 P2 : Value → Shared → Prop} {R : Value → Shared → Prop} (h1 : PT prog w A s₀ (eval l env) P1) (h2 : ∀ a s₁, Le s₀ s₁ → P1 a s₁ → PT prog w A s₁ (eval r env) P2)
    (h3 : ∀ a b s₁ s₂, Le s₀ s₁ → P1 a s₁ → Le s₁ s₂ → P2 b s₂ → PT prog w A s₂ (compareOp op a b) R) (hm : behindInMarks op r = false := by with_unfolding_all rfl) : PT prog w A s₀ (eval (.Compare l [op] [r] pos) env) R :=
  fun s Q E l0 q => wpAny_Compare1 (h1 s _ E l0 fun a s₁ l1 p1 => h2 a s₁ (l0.trans l1) p1 s₁ _ E (Le.refl _) fun b s₂ l2 p2 =>
    h3 a b s₁ s₂ (l0.trans l1) p1 l2 p2 s₂ _ E (Le.refl _) fun v s₃ l3 r => q v s₃ ((l1.trans l2).trans l3) r) hm
theorem pv_cmp {l r : Expr} {op : CmpOp} {p1 p2 : Value → Prop} {R : Value → Shared → Prop} (h1 : PV prog w A s₀ (eval l env) p1) (h2 : PV prog w A s₀ (eval r env) p2)
    (h3 : ∀ a b s₂, Le s₀ s₂ → p1 a → p2 b → PT prog w A s₂ (compareOp op a b) R) (hm : behindInMarks op r = false := by with_unfolding_all rfl) : PT prog w A s₀ (eval (.Compare l [op] [r] pos) env) R :=
  pt_cmp h1 (fun _ _ l _ => h2.le l) (fun a b _ s₂ l1 p1 l2 p2 => h3 a b s₂ (l1.trans l2) p1 p2) hm
theorem isTrue_cmp1 {l r : Expr} {op : CmpOp} {P1 P2 : Value → Shared → Prop} {b : Bool} (h1 : PT prog w A s₀ (eval l env) P1) (h2 : ∀ a s₁, Le s₀ s₁ → P1 a s₁ → PT prog w A s₁ (eval r env) P2)
    (h3 : ∀ a b s₁ s₂, Le s₀ s₁ → P1 a s₁ → Le s₁ s₂ → P2 b s₂ → PT prog w A s₂ (compareOp op a b) (fun v _ => IsB b' v)) (hm : behindInMarks op r = false := by with_unfolding_all rfl) {whole : Sem Value} : PT prog w A s₀ (isTrue (.Compare l [op] [r] pos) env whole) (fun c _ => c = b') :=
  fun s Q E l0 q => wpAny_isTrue_Compare1 (h1 s _ E l0 fun a s₁ l1 p1 => h2 a s₁ (l0.trans l1) p1 s₁ _ E (Le.refl _) fun b s₂ l2 p2 =>
    h3 a b s₁ s₂ (l0.trans l1) p1 l2 p2 s₂ _ E (Le.refl _) fun v s₃ l3 r => by cases r; exact wpAny_truthy_bool (q _ s₃ ((l1.trans l2).trans l3) rfl)) hm
theorem isTrue_cmp {l r : Expr} {op : CmpOp} {p1 p2 : Value → Prop} {b' : Bool} (h1 : PV prog w A s₀ (eval l env) p1) (h2 : PV prog w A s₀ (eval r env) p2)
    (h3 : ∀ a b s₂, Le s₀ s₂ → p1 a → p2 b → PT prog w A s₂ (compareOp op a b) (fun v _ => IsB b' v)) (hm : behindInMarks op r = false := by with_unfolding_all rfl) {whole : Sem Value} : PT prog w A s₀ (isTrue (.Compare l [op] [r] pos) env whole) (fun c _ => c = b') :=
  isTrue_cmp1 (b := b') h1 (fun _ _ l _ => h2.le l) (fun a b _ s₂ l1 p1 l2 p2 => h3 a b s₂ (l1.trans l2) p1 p2) hm

/-- the operators -/
theorem o_add {a b : Value} {i j : Int} (ha : IsI i a) (hb : IsI j b) : PV prog w A s₀ (binaryOp .Add a b) (IsI (i + j)) := by obtain ⟨_, rfl⟩ := ha; obtain ⟨_, rfl⟩ := hb; exact fun s Q E _ q => add_int (q _ _ Le.toks ⟨_, rfl⟩)
theorem o_addS {a b : Value} {x y : Str} (ha : IsS x a) (hb : IsS y b) (hz : x.length + y.length ≤ sizeLine) : PV prog w A s₀ (binaryOp .Add a b) (IsS (x ++ y)) := by obtain ⟨_, rfl⟩ := ha; obtain ⟨_, rfl⟩ := hb; exact PT.wk fun s Q E _ q => add_str (fun t tk => q _ _ (fun ht => Le.toks ht) ⟨_, rfl⟩) hz
theorem o_subB {a b : Value} {x y : Bool} (ha : IsB x a) (hb : IsB y b) : PV prog w A s₀ (binaryOp .Sub a b) (IsI (b2i x - b2i y)) := by cases ha; cases hb; exact fun s Q E _ q => sub_bool (q _ _ Le.toks ⟨_, rfl⟩)
theorem o_gtS {a b : Value} {x y : Str} (ha : IsS x a) (hb : IsS y b) : PV prog w A s₀ (compareOp .Gt a b) (IsB (decide (y.cps.toList < x.cps.toList))) := by obtain ⟨_, rfl⟩ := ha; obtain ⟨_, rfl⟩ := hb; exact fun s Q E _ q => PySem.P.gt_str (q _ _ (Le.refl _) rfl)
theorem o_ltS {a b : Value} {x y : Str} (ha : IsS x a) (hb : IsS y b) : PV prog w A s₀ (compareOp .Lt a b) (IsB (decide (x.cps.toList < y.cps.toList))) := by obtain ⟨_, rfl⟩ := ha; obtain ⟨_, rfl⟩ := hb; exact fun s Q E _ q => PySem.P.lt_str (q _ _ (Le.refl _) rfl)
theorem o_eqS {a b : Value} {x y : Str} (ha : IsS x a) (hb : IsS y b) : PV prog w A s₀ (compareOp .Eq a b) (IsB (x == y)) := by obtain ⟨_, rfl⟩ := ha; obtain ⟨_, rfl⟩ := hb; exact fun s Q E _ q => eq_str (q _ _ (Le.refl _) rfl)
theorem o_eqI {a b : Value} {x y : Int} (ha : IsI x a) (hb : IsI y b) : PV prog w A s₀ (compareOp .Eq a b) (IsB (x == y)) := by obtain ⟨_, rfl⟩ := ha; obtain ⟨_, rfl⟩ := hb; exact fun s Q E _ q => eq_int (q _ _ (Le.refl _) rfl)
end
end Mine
namespace Mine
section
variable {prog : Program} {w : World} {A : Around} {s₀ s : Shared} {env : Env} {m : Mp}
/-- a local name that bears a value of a word -/
theorem nm {x : Str} {pos : Pos} {v : Value} {p : Value → Prop} (F : Fm s₀ env m s) (hv : m.lookup x = some v) (hp : p v) (hl : env.kindOf x = some .local := by rfl) (hd : (x == ("__debug__" : Str)) = false := by decide) :
    PV prog w A s (eval (.Name x pos) env) p := pt_of_name (pt_local F hv hl hd) hp
theorem nmS {x : Str} {pos : Pos} {y : Str} {t : Tok} (F : Fm s₀ env m s) (hv : m.lookup x = some (.str y t)) (hl : env.kindOf x = some .local := by rfl) (hd : (x == ("__debug__" : Str)) = false := by decide) :
    PV prog w A s (eval (.Name x pos) env) (IsS y) := nm F hv ⟨_, rfl⟩ hl hd
theorem nmI {x : Str} {pos : Pos} {i : Int} {t : Tok} (F : Fm s₀ env m s) (hv : m.lookup x = some (.int i t)) (hl : env.kindOf x = some .local := by rfl) (hd : (x == ("__debug__" : Str)) = false := by decide) :
    PV prog w A s (eval (.Name x pos) env) (IsI i) := nm F hv ⟨_, rfl⟩ hl hd
/-- a cell's -/
theorem nmC {x : Str} {pos : Pos} {v : Value} {c : Addr} {p : Value → Prop} (F : Fm s₀ env m s) (hv : m.lookup x = some v) (hp : p v) (hl : env.kindOf x = some .cell := by rfl) (hc : env.cells.lookup x = some c := by rfl) (hd : (x == ("__debug__" : Str)) = false := by decide) :
    PV prog w A s (eval (.Name x pos) env) p := pt_of_name (pt_cell F hv hl hc hd) hp
end
end Mine
end

section
open PySem PySem.W PyProof.Rows PySem.Calls
namespace Mine
open PySem.Builtin.Str (occurrences strSub partsBetween subAt strKind)

/-- the place where w is found in x from i to before j, or -1 -/
noncomputable def findB (x y : Str) (i j : Int) : Int := match occurrences x y (fromIndex x.length i) (min (fromIndex x.length j) x.length) 1 with | k :: _ => (k : Int) | [] => -1
theorem gives_find4 (x y : Str) (i j : Int) (t u v z : Tok) : Gives (Builtin.«str.find» ⟨[.str x t, .str y u, .int i v, .int j z], []⟩) (.int (findB x y i j)) := by
  show Gives (match occurrences x y (fromIndex x.length i) (min (fromIndex x.length j) x.length) 1 with | k :: _ => retInt k | [] => (do rule "str.find.not-found"; retInt (-1))) _
  unfold findB
  cases occurrences x y (fromIndex x.length i) (min (fromIndex x.length j) x.length) 1 with
  | nil => exact .rule (.of_eq rfl)
  | cons k _ => exact .of_eq rfl

/-- a list of values, each of its word -/
inductive All2 {α : Type} (R : Value → α → Prop) : List Value → List α → Prop
  | nil : All2 R [] []
  | cons {v x vs xs} : R v x → All2 R vs xs → All2 R (v :: vs) (x :: xs)
namespace All2
variable {α : Type} {R : Value → α → Prop}
theorem len {vs xs} (h : All2 R vs xs) : vs.length = xs.length := by induction h with | nil => rfl | cons _ _ ih => simp [ih]
theorem get {vs xs} (h : All2 R vs xs) : ∀ {i : Nat} {x : α}, xs[i]? = some x → ∃ v, vs[i]? = some v ∧ R v x := by
  induction h with
  | nil => intro i x e; simp at e
  | cons hd _ ih =>
    intro i x e
    cases i with
    | zero => simp at e; subst e; exact ⟨_, rfl, hd⟩
    | succ i => simpa using ih (by simpa using e)
theorem get' {vs xs} (h : All2 R vs xs) {i : Nat} {v : Value} (e : vs[i]? = some v) : ∃ x, xs[i]? = some x ∧ R v x := by
  have hi := (List.getElem?_eq_some_iff.mp e).1
  obtain ⟨u, hu, r⟩ := h.get (List.getElem?_eq_getElem (l := xs) (i := i) (h.len ▸ hi))
  rw [hu] at e; cases e
  exact ⟨_, List.getElem?_eq_getElem _, r⟩
theorem append {vs xs} (h : All2 R vs xs) {vs' xs'} (h' : All2 R vs' xs') : All2 R (vs ++ vs') (xs ++ xs') := by
  induction h with
  | nil => exact h'
  | cons hd _ ih => exact .cons hd ih
theorem snoc {vs xs} (h : All2 R vs xs) {v x} (r : R v x) : All2 R (vs ++ [v]) (xs ++ [x]) := h.append (.cons r .nil)
theorem mono {R' : Value → α → Prop} {vs xs} (h : All2 R vs xs) (i : ∀ v x, R v x → R' v x) : All2 R' vs xs := by
  induction h with
  | nil => exact .nil
  | cons hd _ ih => exact .cons (i _ _ hd) ih
theorem cons_inv {vs x xs} (h : All2 R vs (x :: xs)) : ∃ v vr, vs = v :: vr ∧ R v x ∧ All2 R vr xs := by cases h with | cons a b => exact ⟨_, _, rfl, a, b⟩
theorem last {vs xs} (h : All2 R vs xs) {x : α} (hx : xs.getLast? = some x) : ∃ v, vs[vs.length - 1]? = some v ∧ R v x := by
  rw [List.getLast?_eq_getElem?] at hx
  rw [h.len]; exact h.get hx
theorem dropLast {vs xs} (h : All2 R vs xs) : All2 R vs.dropLast xs.dropLast := by
  induction h with
  | nil => exact .nil
  | cons hd tl ih =>
    cases tl with
    | nil => exact .nil
    | cons a b => exact .cons hd ih
end All2
noncomputable abbrev Strs : List Value → List Str → Prop := All2 fun v x => IsS x v
noncomputable abbrev Ints : List Value → List Int → Prop := All2 fun v x => IsI x v
theorem strs_from : ∀ (l : List Str) (k : Nat), Strs (strsFrom k l) l
  | [], _ => .nil
  | _ :: r, k => .cons ⟨_, rfl⟩ (strs_from r (k + 1))
theorem strs_pairs {vs : List Value} {xs : List Str} (h : Strs vs xs) : ∃ l : List (Str × Tok), vs = strValues l ∧ l.map (·.1) = xs := by
  induction h with
  | nil => exact ⟨[], rfl, rfl⟩
  | cons hd _ ih =>
    obtain ⟨t, rfl⟩ := hd
    obtain ⟨l, rfl, rfl⟩ := ih
    exact ⟨(_, t) :: l, rfl, rfl⟩
theorem ints_are {vs : List Value} {xs : List Int} (h : Ints vs xs) : IntsAre vs xs := by
  induction h with
  | nil => exact .nil
  | cons hd _ ih => obtain ⟨t, rfl⟩ := hd; exact .cons _ _ ih
theorem ints_of {vs : List Value} {xs : List Int} (h : IntsAre vs xs) : Ints vs xs := by
  induction h with
  | nil => exact .nil
  | cons _ _ _ ih => exact .cons ⟨_, rfl⟩ ih

section
variable {prog : Program} {w : World} {A : Around} {s₀ : Shared} {env : Env} {pos : Pos}
theorem o_find4 {x y : Str} {i j : Int} {t u v z : Tok} : PV prog w A s₀ (call (.builtin "str.find") [.str x t, .str y u, .int i v, .int j z]) (IsI (findB x y i j)) :=
  fun s Q E _ q => call_gives F.slot_str_find (typeIs_str _ _ _) F.entry_str_find (F.args_str_find_4 _ _ _ _) (gives_find4 x y i j t u v z) (q _ _ Le.toks ⟨_, rfl⟩)
theorem o_notInS {a b : Value} {x y : Str} (ha : IsS y a) (hb : IsS x b) : PV prog w A s₀ (compareOp .NotIn a b) (IsB (occurrences x y 0 x.length 1).isEmpty) := by
  obtain ⟨_, rfl⟩ := ha; obtain ⟨_, rfl⟩ := hb
  exact fun s Q E _ q => PySem.P.notIn_str (by rw [Bool.not_not]; exact q _ _ (Le.refl _) rfl)
theorem o_lenS {x : Str} {t : Tok} (hx : x.length ≤ sizeLine) : PV prog w A s₀ (call (.builtin "len") [.str x t]) (IsI x.length) :=
  fun s Q E _ q => PySem.P.len_str (by rw [sizeLine_eq] at hx; omega) (q _ _ Le.toks ⟨_, rfl⟩)
theorem o_lenL {l : Addr} {items : List Value} (hl : s₀.heap.IsList l items.toArray) (hz : items.length ≤ sizeLine) : PV prog w A s₀ (call (.builtin "len") [.ref l]) (IsI items.length) := by
  intro s Q E le q
  obtain ⟨o, ho, r⟩ := hl
  have e : items.toArray.size = items.length := List.size_toArray
  refine call_len_list (items := items.toArray) ⟨o, le.keep _ _ ho, r⟩ (by rw [sizeLine_eq] at hz; rw [e]; omega) ?_
  rw [e]
  exact q _ _ Le.toks ⟨_, rfl⟩
theorem o_truthS {x : Str} {v : Value} (hv : IsS x v) (hx : x.length ≤ sizeLine) : PT prog w A s₀ (truthy v) (fun b _ => b = decide (x.length ≠ 0)) := by
  obtain ⟨t, rfl⟩ := hv
  intro s Q E le q
  refine PySem.P.truthy_str (by rw [sizeLine_eq] at hx; omega) (q _ _ Le.toks ?_)
  by_cases h : x.length = 0 <;> simp [h]
theorem o_startswith {x y : Str} {t u : Tok} : PV prog w A s₀ (call (.builtin "str.startswith") [.str x t, .str y u]) (IsB (Txt.startswith x y)) := fun s Q E _ q => SC.startswith (q _ _ (Le.refl _) rfl)
theorem o_endswith {x y : Str} {t u : Tok} : PV prog w A s₀ (call (.builtin "str.endswith") [.str x t, .str y u]) (IsB (Txt.endswith x y)) := fun s Q E _ q => SC.endswith (q _ _ (Le.refl _) rfl)
theorem o_gtI {a b : Value} {x y : Int} (ha : IsI x a) (hb : IsI y b) : PV prog w A s₀ (compareOp .Gt a b) (IsB (decide (y < x))) := by obtain ⟨_, rfl⟩ := ha; obtain ⟨_, rfl⟩ := hb; exact fun s Q E _ q => gt_int (q _ _ (Le.refl _) rfl)
theorem o_ltI {a b : Value} {x y : Int} (ha : IsI x a) (hb : IsI y b) : PV prog w A s₀ (compareOp .Lt a b) (IsB (decide (x < y))) := by obtain ⟨_, rfl⟩ := ha; obtain ⟨_, rfl⟩ := hb; exact fun s Q E _ q => lt_int (q _ _ (Le.refl _) rfl)
theorem o_geI {a b : Value} {x y : Int} (ha : IsI x a) (hb : IsI y b) : PV prog w A s₀ (compareOp .GtE a b) (IsB (decide (y ≤ x))) := by obtain ⟨_, rfl⟩ := ha; obtain ⟨_, rfl⟩ := hb; exact fun s Q E _ q => ge_int (q _ _ (Le.refl _) rfl)
theorem o_neI {a b : Value} {x y : Int} (ha : IsI x a) (hb : IsI y b) : PV prog w A s₀ (compareOp .NotEq a b) (IsB (x != y)) := by obtain ⟨_, rfl⟩ := ha; obtain ⟨_, rfl⟩ := hb; exact fun s Q E _ q => ne_int (q _ _ (Le.refl _) rfl)
theorem o_sub {a b : Value} {i j : Int} (ha : IsI i a) (hb : IsI j b) : PV prog w A s₀ (binaryOp .Sub a b) (IsI (i - j)) := by obtain ⟨_, rfl⟩ := ha; obtain ⟨_, rfl⟩ := hb; exact fun s Q E _ q => sub_int (q _ _ Le.toks ⟨_, rfl⟩)

/-- split by a text that stands in it -/
theorem o_split {x y : Str} {t u : Tok} (hy : (y.length == 0) = false) (hk : strKind y ≤ strKind x) (hf : (occurrences x y 0 x.length (x.length + 1)).isEmpty = false) (hl : y.length ≤ x.length) (hx : x.length + 2 ≤ sizeLine) :
    PT prog w A s₀ (call (.builtin "str.split") [.str x t, .str y u]) (fun v s' => ∃ D vs, v = .ref D ∧ s₀.heap.get? D = none ∧ s'.heap.PlainList D vs.toArray ∧ Strs vs (partsBetween x (occurrences x y 0 x.length (x.length + 1)) y.length)) := by
  intro s Q E le q
  have hn : (partsBetween x (occurrences x y 0 x.length (x.length + 1)) y.length).length ≤ sizeLine := by
    have := StrLaws.occ_length_le_len x y 0 x.length (x.length + 1)
    simp only [partsBetween, List.length_map, List.length_zip, List.length_cons, List.length_append, List.length_nil]
    omega
  refine call_meets F.slot_str_split (typeIs_str _ _ _) F.entry_str_split (F.args_str_split_2 _ _) (meets_str_split_sep x y t u (by simp only [Bool.or_eq_false_iff, decide_eq_false_iff_not]; exact ⟨by omega, by omega⟩) hy hf (by omega) hn) ?_
  refine q _ _ Le.push ⟨_, _, rfl, ?_, ⟨_, Heap.get?_push_size _ rfl⟩, strs_from _ _⟩
  cases e : s₀.heap.get? s.heap.objs.size with
  | none => rfl
  | some o => exact absurd (Heap.lt_size (le.keep _ _ e)) (Nat.lt_irrefl _)
end
end Mine
end

section
open PySem PySem.W PyProof.Rows PySem.Calls
namespace Mine
/-- what is iterated: n items, item i of word P i; src: the objects it looks at -/
noncomputable def Src (prog : Program) (w : World) (A : Around) (s₁ : Shared) (v : Value) (src : List Addr) (n : Nat) (P : Nat → Value → Prop) : Prop :=
  ∀ (Q : Value → Shared → Prop) (E : Value → Shared → Prop), (∀ I fp wr St s₂, Le s₁ s₂ → Walks prog w A I fp wr n P St → St 0 s₂.heap → (∀ b ∈ wr, s₁.heap.get? b = none) → (∀ b ∈ fp, b ∈ wr ∨ b ∈ src) → (∀ b ∈ fp, ∃ o, s₂.heap.get? b = some o) → (∀ i h, St i h → ∀ b ∈ wr, ∃ o, h.get? b = some o) → Q (.ref I) s₂) → wpAny (model prog w) A (pyIter v) Q E s₁

section
variable {prog : Program} {w : World} {A : Around} {s₀ s s' : Shared} {env : Env} {m : Mp}

theorem src_list {l : Addr} {items : List Value} (hh : A.handled = none) (hl : s.heap.IsList l items.toArray) : Src prog w A s (.ref l) [l] items.length (fun i v => items[i]? = some v) := by
  intro Q E k
  obtain ⟨o, ho, r⟩ := id hl
  refine wpAny_pyIter_list hl ?_
  have hne : l ≠ s.heap.objs.size := Nat.ne_of_lt (Heap.lt_size ho)
  have W := Walks.list (prog := prog) (w := w) hh s.heap.objs.size l hne items.toArray
  have e : items.toArray.size = items.length := List.size_toArray
  rw [e] at W
  have W' : Walks prog w A s.heap.objs.size [s.heap.objs.size, l] [s.heap.objs.size] items.length (fun i v => items[i]? = some v) (fun i h => h.IsListIter s.heap.objs.size l i ∧ h.IsList l items.toArray) :=
    { W with item := fun i s Q E hi st q => W.item i s Q E hi st fun v h' tk p => q v h' tk (by simpa using p) }
  exact k _ _ _ _ _ Le.push W' ⟨⟨_, Heap.get?_push_size _ rfl, rfl, rfl⟩, ⟨o, Heap.get?_push_of_some _ ho, r⟩⟩ (fun b hb => by rw [List.mem_singleton.mp hb]; exact new_none _ _ (Nat.le_refl _)) (fun b hb => by
    rcases List.mem_cons.mp hb with rfl | hb
    · exact .inl (.head _)
    · exact .inr hb) (fun b hb => by
    rcases List.mem_cons.mp hb with rfl | hb
    · exact ⟨_, Heap.get?_push_size _ rfl⟩
    · rw [List.mem_singleton.mp hb]; exact ⟨_, Heap.get?_push_of_some _ ho⟩) (fun i h st b hb => by
    rw [List.mem_singleton.mp hb]; obtain ⟨⟨o, e, _⟩, _⟩ := st; exact ⟨o, e⟩)

theorem Fm.fresh (F : Fm s₀ env m s) {D : Addr} (h : s.heap.get? D = none) : D ∉ fAd env ∧ s₀.heap.get? D = none := by
  refine ⟨fun hm => ?_, ?_⟩
  · obtain ⟨o, ho⟩ := F.there D hm; rw [h] at ho; cases ho
  · cases e : s₀.heap.get? D with
    | none => rfl
    | some o => rw [F.le.keep _ _ e] at h; cases h
noncomputable def Picks (m : Mp) : Mp → Prop
  | [] => True
  | e :: r => m.lookup e.1 = some e.2 ∧ Picks m r
theorem Picks.all {m : Mp} : ∀ {m' : Mp}, Picks m m' → ∀ {x v}, m'.lookup x = some v → m.lookup x = some v
  | [], _, _, _, h => by cases h
  | (y, u) :: r, hp, x, v, h => by
    rw [List.lookup_cons] at h
    cases q : x == y with
    | true => rw [q] at h; cases h; rw [beq_iff_eq.mp q]; exact hp.1
    | false => rw [q] at h; exact Picks.all hp.2 h
theorem Fm.pick (F : Fm s₀ env m s) (m' : Mp) (h : Picks m m') : Fm s₀ env m' s := F.sub fun _ _ e => h.all e
theorem none_le (l : Le s s') {D : Addr} (h : s'.heap.get? D = none) : s.heap.get? D = none := by
  cases e : s.heap.get? D with
  | none => rfl
  | some o => rw [l.keep _ _ e] at h; cases h

theorem Fm.weak (F : Fm s env m s') (l : Le s₀ s) (hL : s₀.heap.get? env.locals = none) (hC : ∀ x ∈ env.cells, s₀.heap.get? x.2 = none) : Fm s₀ env m s' := { F with le := l.trans F.le, newL := hL, newC := hC }
theorem Fm.mut (F : Fm s₀ env m s) {h' : Heap} {tk : Nat} {ch : List Addr} (hk : ∀ b o, b ∉ ch → s.heap.get? b = some o → h'.get? b = some o) (h0 : ∀ b ∈ ch, s₀.heap.get? b = none) (h1 : ∀ b ∈ ch, b ∉ fAd env) (ht : s.toks ≤ tk := by first | exact Nat.le_refl _ | exact Nat.le_succ _ | exact Nat.le_add_right _ _ | exact Nat.le_trans (Nat.le_succ _) (Nat.le_succ _) | ((try dsimp only); omega)) : Fm s₀ env m { s with heap := h', toks := tk } where
  le := ⟨fun b o e => hk b o (fun hb => by rw [h0 b hb] at e; cases e) (F.le.keep b o e), F.le.gens, F.le.bare, F.le.os, Nat.le_trans F.le.tk ht⟩
  ns := (by obtain ⟨ml, hn, e⟩ := F.ns; exact ⟨ml, hn.at' fun o e => hk _ o (fun hb => h1 _ hb (.head _)) e, e⟩)
  cell := fun x c hc => (by obtain ⟨ov, ⟨o, ho, hd⟩, e⟩ := F.cell x c hc; exact ⟨ov, ⟨o, hk _ _ (fun hb => h1 _ hb (List.Mem.tail _ (List.mem_map_of_mem (f := (·.2)) (lookup_mem hc)))) ho, hd⟩, e⟩)
  kind := F.kind
  apart := F.apart
  off := F.off
  newL := F.newL
  newC := F.newC
  there := fun a ha => (by obtain ⟨o, ho⟩ := F.there a ha; exact ⟨o, hk _ _ (fun hb => h1 _ hb ha) ho⟩)

/-- objects of the frame's own that may be changed -/
noncomputable def OwnD (s₀ : Shared) (env : Env) (D : List Addr) (s : Shared) : Prop := ∀ b ∈ D, s₀.heap.get? b = none ∧ b ∉ fAd env ∧ ∃ o, s.heap.get? b = some o
theorem OwnD.nil : OwnD s₀ env [] s := fun _ h => nomatch h

/-- the state without what may be changed -/
noncomputable def anchor (env : Env) (D : List Addr) (s : Shared) : Shared := { s with heap := hideAll s.heap (fAd env ++ D) }
theorem anchor_le (D : List Addr) : Le (anchor env D s) s := .of_same (fun b o e => of_hideAll _ e) rfl rfl
theorem anchor_fm (F : Fm s₀ env m s) (D : List Addr) : Fm (anchor env D s) env m s :=
  { F with le := anchor_le D, newL := hideAll_none _ (List.mem_append_left _ (.head _)), newC := fun x hx => hideAll_none _ (List.mem_append_left _ (List.Mem.tail _ (List.mem_map_of_mem (f := (·.2)) hx))) }
theorem anchor_ge (F : Fm s₀ env m s) {D : List Addr} (hD : ∀ b ∈ D, s₀.heap.get? b = none) : Le s₀ (anchor env D s) := by
  refine ⟨fun b o e => hideAll_get _ (F.le.keep b o e) fun hb => ?_, F.le.gens, F.le.bare, F.le.os, F.le.tk⟩
  rcases List.mem_append.mp hb with hb | hb
  · rcases List.mem_cons.mp hb with rfl | hb
    · rw [F.newL] at e; cases e
    · obtain ⟨x, hx, rfl⟩ := List.mem_map.mp hb
      rw [F.newC x hx] at e; cases e
  · rw [hD b hb] at e; cases e
theorem anchor_get {D : List Addr} {b : Addr} {o : Obj} (e : s.heap.get? b = some o) (h1 : b ∉ fAd env) (h2 : b ∉ D) : (anchor env D s).heap.get? b = some o :=
  hideAll_get _ e fun hb => (List.mem_append.mp hb).elim h1 h2
theorem anchor_no {D : List Addr} {b : Addr} (h : b ∈ D) : (anchor env D s).heap.get? b = none := hideAll_none _ (List.mem_append_right _ h)

/-- what a turn's end is asked -/
noncomputable abbrev LQ (prog : Program) (w : World) (A : Around) (a : Shared) (env : Env) (N : Mp → Shared → Prop) (rest : List Stmt) (Q : Flow → Shared → Prop) (E : Value → Shared → Prop) : Flow → Shared → Prop
  | .next, s => ∃ m, Fm a env m s ∧ N m s
  | .cont, s => ∃ m, Fm a env m s ∧ N m s
  | .brk, s => wpAny (model prog w) A (execs rest env) Q E s
  | .ret v, s => Q (.ret v) s
theorem wp_forE {x : Str} {px pos : Pos} {iter : Expr} {body rest : List Stmt} {PI : Value → Shared → Prop} {D : List Addr} {n : Nat} {P : Nat → Value → Prop} {Q : Flow → Shared → Prop} {E : Value → Shared → Prop}
    (J : Nat → Mp → Shared → Prop)
    (F : Fm s₀ env m s) (hi : PT prog w A s (eval iter env) PI) (hsrc : ∀ v s₁, Le s s₁ → PI v s₁ → ∃ src, Src prog w A s₁ v src n P ∧ ∀ b ∈ src, b ∉ fAd env ∧ b ∉ D)
    (hD : OwnD s₀ env D s)
    (hJ : ∀ i m s s', J i m s → (∀ b ∈ D, ∀ o, s.heap.get? b = some o → s'.heap.get? b = some o) → J i m s') (h0 : J 0 m s)
    (turn : ∀ i v a m s, i < n → P i v → Le s₀ a → (∀ b ∈ D, a.heap.get? b = none) → Fm a env ((x, v) :: m) s → J i m s →
      wpAny (model prog w) A (execs body env) (LQ prog w A a env (J (i + 1)) rest Q E) (fun _ _ => False) s)
    (done : ∀ m s, Fm s₀ env m s → J n m s → wpAny (model prog w) A (execs rest env) Q E s)
    (hx : env.kindOf x = some .local ∨ (env.kindOf x = some .cell ∧ (env.cells.lookup x).isSome = true) := by first | exact Or.inl rfl | exact Or.inr ⟨rfl, rfl⟩)
    (hs : ∀ v, foldedSetIterable iter env v = pure v := by intro _; rfl) :
    wpAny (model prog w) A (execs (.For (.Name x px) iter body [] pos :: rest) env) Q E s := by
  refine wp_cons (wpAny_For (hi.use fun v s₁ l1 p1 => (hsrc v s₁ l1 p1).elim fun src hh => hh.1 _ E fun I fp wr St s₂ l2 W st0 hwr hfp _ _ => ?_) hs)
  have hso := hh.2
  have F2 := (F.grow l1).grow l2
  have hwrF : ∀ b ∈ wr, b ∉ fAd env := fun b hb hm => by
    obtain ⟨o, ho⟩ := (F.grow l1).there b hm
    rw [hwr b hb] at ho; cases ho
  have hwr0 : ∀ b ∈ wr, s₀.heap.get? b = none := fun b hb => by
    cases e : s₀.heap.get? b with
    | none => rfl
    | some o => have := (F.le.trans l1).keep b o e; rw [hwr b hb] at this; cases this
  have hwrD : ∀ b ∈ wr, b ∉ D := fun b hb hm => by
    obtain ⟨_, _, o, ho⟩ := hD b hm
    have := l1.keep b o ho
    rw [hwr b hb] at this; cases this
  have hfpF : ∀ b ∈ fp, b ∉ fAd env ∧ b ∉ D := fun b hb => (hfp b hb).elim (fun h => ⟨hwrF b h, hwrD b h⟩) (hso b)
  have hD0 : ∀ b ∈ D, s₀.heap.get? b = none := fun b hb => (hD b hb).1
  have hDF : ∀ b ∈ D, b ∉ fAd env := fun b hb => (hD b hb).2.1
  obtain ⟨Iv, hIv⟩ : ∃ I : Nat → Shared → Prop, ∀ k s', I k s' ↔ ∃ i m, i ≤ n ∧ k = n + 1 - i ∧ Fm s₀ env m s' ∧ J i m s' ∧ St i s'.heap := ⟨_, fun _ _ => Iff.rfl⟩
  refine codeAny_forLoop Iv ?_ (n + 1)
    ((hIv _ _).mpr ⟨0, m, Nat.zero_le _, rfl, F2, hJ 0 m s s₂ h0 fun b _ o e => l2.keep _ _ (l1.keep _ _ e), st0⟩) (by intro _; rfl)
  intro k s' hIk
  obtain ⟨i, m, hin, hk0, F, hj, hst⟩ := (hIv k s').mp hIk
  by_cases hlt : i < n
  · refine wp_tk (W.item i s' _ _ hlt hst fun v h' tk hv hst' hk htk => ?_)
    have F' := F.mut (tk := tk) hk hwr0 hwrF htk
    have hj' := hJ i m s' { s' with heap := h', toks := tk } hj fun b hb o e => hk b o (fun h => hwrD b h hb) e
    refine wpAny_assign_Name (wp_store F' hx fun s₃ F₃ B₃ g₃ => ?_)
    have hj₃ := hJ i m _ s₃ hj' fun b hb o e => B₃ b o (hDF b hb) e
    have hst₃ : St (i + 1) s₃.heap := W.frame _ _ _ hst' fun b hb o e => B₃ b o (hfpF b hb).1 e
    refine wpAny_mono (turn i v (anchor env D s₃) m s₃ hlt hv (anchor_ge F₃ hD0) (fun b hb => anchor_no hb) (anchor_fm F₃ D) hj₃) (fun fl s₄ h₄ => ?_) fun _ _ x => x.elim
    have step : (∃ m', Fm (anchor env D s₃) env m' s₄ ∧ J (i + 1) m' s₄) → ∃ k', k' < k ∧ Iv k' s₄ := by
      rintro ⟨m', F₄, hj₄⟩
      refine ⟨n + 1 - (i + 1), cd_lt hk0 hlt, (hIv _ _).mpr ⟨i + 1, m', hlt, rfl, F₄.weak (anchor_ge F₃ hD0) F₃.newL F₃.newC, hj₄, W.frame _ _ _ hst₃ fun b hb o e => F₄.le.keep b o (anchor_get e (hfpF b hb).1 (hfpF b hb).2)⟩⟩
    cases fl with
    | next => exact step h₄
    | cont => exact step h₄
    | brk => exact h₄
    | ret v => exact h₄
  · have : n = i := (end_eq hin hlt).symm
    clear hIk
    subst this
    refine wp_tk (W.done s' _ _ hst fun h' tk hk htk => wpAny_execs_nil ?_)
    have F' := F.mut (tk := tk) hk hwr0 hwrF htk
    exact done m _ F' (hJ _ m s' { s' with heap := h', toks := tk } hj fun b hb o e => hk b o (fun h => hwrD b h hb) e)
theorem wp_for {x : Str} {px pos : Pos} {iter : Expr} {body rest : List Stmt} {PI : Value → Shared → Prop} {src D : List Addr} {n : Nat} {P : Nat → Value → Prop} {Q : Flow → Shared → Prop} {E : Value → Shared → Prop}
    (J : Nat → Mp → Shared → Prop)
    (F : Fm s₀ env m s) (hi : PT prog w A s (eval iter env) PI) (hsrc : ∀ v s₁, Le s s₁ → PI v s₁ → Src prog w A s₁ v src n P)
    (hso : ∀ b ∈ src, b ∉ fAd env ∧ b ∉ D) (hD : OwnD s₀ env D s)
    (hJ : ∀ i m s s', J i m s → (∀ b ∈ D, ∀ o, s.heap.get? b = some o → s'.heap.get? b = some o) → J i m s') (h0 : J 0 m s)
    (turn : ∀ i v a m s, i < n → P i v → Le s₀ a → (∀ b ∈ D, a.heap.get? b = none) → Fm a env ((x, v) :: m) s → J i m s →
      wpAny (model prog w) A (execs body env) (LQ prog w A a env (J (i + 1)) rest Q E) (fun _ _ => False) s)
    (done : ∀ m s, Fm s₀ env m s → J n m s → wpAny (model prog w) A (execs rest env) Q E s)
    (hx : env.kindOf x = some .local ∨ (env.kindOf x = some .cell ∧ (env.cells.lookup x).isSome = true) := by first | exact Or.inl rfl | exact Or.inr ⟨rfl, rfl⟩)
    (hs : ∀ v, foldedSetIterable iter env v = pure v := by intro _; rfl) :
    wpAny (model prog w) A (execs (.For (.Name x px) iter body [] pos :: rest) env) Q E s :=
  wp_forE J F hi (fun v s₁ l p => ⟨src, hsrc v s₁ l p, hso⟩) hD hJ h0 turn done hx hs
end
end Mine
end

section
open PySem PySem.W PyProof.Rows PySem.Calls
namespace Mine
section
variable {prog : Program} {w : World} {A : Around} {s₀ s s' : Shared} {env : Env} {m : Mp} {Q : Flow → Shared → Prop} {E : Value → Shared → Prop} {pos : Pos}

theorem pt_bool (b : Bool) (k : Nat) (pos : Pos) : PV prog w A s₀ (eval (.Constant (.bool b) k pos) env) (IsB b) := fun s Q E _ q => show wpAny _ _ (constValue env (.bool b)) _ _ _ from wpAny_pure (q _ _ (Le.refl _) rfl)
theorem pt_neg1 (pos pos' : Pos) {k : Nat} : PV prog w A s₀ (eval (.UnaryOp .USub (.Constant (.int 1) k pos') pos) env) (IsI (-1)) := by
  intro s Q E _ q
  refine UnaryOp_ (wpAny_Constant_int ?_)
  exact PyProof.Rows.neg_int (q _ _ ((Le.toks (tk := _)).trans Le.toks) ⟨_, rfl⟩)
theorem pt_none (k : Nat) (pos : Pos) : PV prog w A s₀ (eval (.Constant .none k pos) env) (fun v => v = .none) := fun s Q E _ q => show wpAny _ _ (constValue env .none) _ _ _ from wpAny_pure (q _ _ (Le.refl _) rfl)
theorem pt_str (x : Str) (k : Nat) (pos : Pos) : PV prog w A s₀ (eval (.Constant (.str x) k pos) env) (IsS x) := fun s Q E _ q => Constant_str (q _ _ Le.toks ⟨_, rfl⟩)

/-- a call of a builtin with one argument of a value word -/
theorem pt_subscript {value slice : Expr} {P1 P2 R : Value → Shared → Prop} (ho : PT prog w A s₀ (eval value env) P1) (hi : ∀ o s₁, Le s₀ s₁ → P1 o s₁ → PT prog w A s₁ (eval slice env) P2)
    (h : ∀ o i s₁ s₂, Le s₀ s₁ → P1 o s₁ → Le s₁ s₂ → P2 i s₂ → PT prog w A s₂ (subscriptTail value slice o i) R) : PT prog w A s₀ (eval (.Subscript value slice pos) env) R :=
  fun s Q E l q => Subscript_ (ho s _ E l fun o s₁ l1 p1 => hi o s₁ (l.trans l1) p1 s₁ _ E (Le.refl _) fun i s₂ l2 p2 => h o i s₁ s₂ (l.trans l1) p1 l2 p2 s₂ _ E (Le.refl _) fun v s₃ l3 r => q v s₃ ((l1.trans l2).trans l3) r)
/-- an item of a list that stands -/
theorem pt_item {value slice : Expr} {l : Addr} {items : List Value} {i : Int} {x : Value} (hl : s₀.heap.IsList l items.toArray) (ho : PV prog w A s₀ (eval value env) (fun u => u = .ref l)) (hi : PV prog w A s₀ (eval slice env) (IsI i))
    (hx : (0 ≤ i ∧ items[i.toNat]? = some x) ∨ (i < 0 ∧ -(items.length : Int) ≤ i ∧ items[(i + items.length).toNat]? = some x)) (hz : items.length ≤ sizeLine)
    (hs : ∀ t, subscripted slice false (.ref l) (.int i t) = operate [.ref l, .int i t] (getItem (.ref l) (.int i t)) := by intro _; with_unfolding_all rfl) :
    PV prog w A s₀ (eval (.Subscript value slice pos) env) (fun u => u = x) := by
  refine pt_subscript ho (fun _ _ l _ => hi.le l) fun o i' s₁ s₂ l1 eo l2 ei => ?_
  subst eo
  obtain ⟨t, rfl⟩ := ei
  intro s Q E le q
  obtain ⟨ob, hob, r⟩ := hl
  have hl' : s.heap.IsList l items.toArray := ⟨ob, ((l1.trans l2).trans le).keep _ _ hob, r⟩
  have hq : Q x s := q _ _ (Le.refl _) rfl
  rw [sizeLine_eq] at hz
  refine tail_any (T := "list") hl'.typeIs slot_list_getitem.lookup ?_ (hs t)
  rcases hx with ⟨h0, hx⟩ | ⟨h0, h1, hx⟩
  · have := (List.getElem?_eq_some_iff.mp hx).1
    exact wpAny_getItem_list hl' h0 (by omega) (by simpa using hx) hq
  · exact wpAny_getItem_list_neg hl' h0 (by rw [List.size_toArray]; exact h1) (by omega) (by rw [List.size_toArray]; simpa using hx) hq

theorem wp_aug {x : Str} {px pos : Pos} {op : Operator} {value : Expr} {rest : List Stmt} {u : Value} {P1 : Value → Shared → Prop} {R : Value → Shared → Prop} (F : Fm s₀ env m s) (hu : m.lookup x = some u)
    (h : PT prog w A s (eval value env) P1) (ho : ∀ v s₁, Le s s₁ → P1 v s₁ → PT prog w A s₁ (inplaceOp op u v) R)
    (k : ∀ v s₁, Le s s₁ → R v s₁ → ∀ s₂, Fm s₀ env ((x, v) :: m) s₂ → Beside env s₁ s₂ → s₂.gens = s₁.gens → wpAny (model prog w) A (execs rest env) Q E s₂)
    (hl : env.kindOf x = some .local := by rfl) : wpAny (model prog w) A (execs (.AugAssign (.Name x px) op value pos :: rest) env) Q E s := by
  obtain ⟨ml, hn, e⟩ := F.ns
  refine wpAny_execs_cons (wpAny_AugAssign_Name (wpAny_loadName_local F.kind hl hn (e x u hu hl) (h.use fun v s₁ l1 p1 => (ho v s₁ l1 p1).use fun r s₂ l2 hr => wp_store (F.grow (l1.trans l2)) (.inl hl) fun s₃ F₃ b g => k r s₂ (l1.trans l2) hr s₃ F₃ b g)))
theorem o_isub {a b : Value} {i j : Int} (ha : IsI i a) (hb : IsI j b) : PV prog w A s₀ (inplaceOp .Sub a b) (IsI (i - j)) := by obtain ⟨_, rfl⟩ := ha; obtain ⟨_, rfl⟩ := hb; exact fun s Q E _ q => isub_int (q _ _ Le.toks ⟨_, rfl⟩)
theorem o_iadd {a b : Value} {i j : Int} (ha : IsI i a) (hb : IsI j b) : PV prog w A s₀ (inplaceOp .Add a b) (IsI (i + j)) := by obtain ⟨_, rfl⟩ := ha; obtain ⟨_, rfl⟩ := hb; exact fun s Q E _ q => iadd_int (q _ _ Le.toks ⟨_, rfl⟩)

/-- x, y = a, b of a def's own names -/
theorem wp_pair {x y : Str} {elts : List Expr} {k : Nat} {tpos pos : Pos} {value : Expr} {rest : List Stmt} {p q : Value → Prop} (F : Fm s₀ env m s) (hh : A.handled = none)
    (h : PT prog w A s (eval value env) (fun v s' => ∃ t a b, v = .ref t ∧ IsTup s'.heap t #[a, b] ∧ p a ∧ q b))
    (kk : ∀ a b s₁ s₂, p a → q b → Le s s₁ → Fm s₀ env ((x, a) :: (y, b) :: m) s₂ → Beside env s₁ s₂ → s₂.gens = s₁.gens → wpAny (model prog w) A (execs rest env) Q E s₂)
    (hs : swapsWithSole [.Tuple elts k tpos] value pos.line env = pure false := by rfl)
    (hw : swappedStores [.Tuple elts k tpos] value env = pure (some [x, y]) := by rfl)
    (hx : env.kindOf x = some .local := by rfl) (hy : env.kindOf y = some .local := by rfl) :
    wpAny (model prog w) A (execs (.Assign [.Tuple elts k tpos] value pos :: rest) env) Q E s := by
  refine wp_cons (Assign_Tuple_swapped (names := [x, y]) (h.use fun v s₁ l1 hv => ?_) hs hw)
  obtain ⟨t, a, b, rfl, ht, pa, qb⟩ := hv
  refine unpackItems_tuple (items := #[a, b]) hh ht fun h' he => ?_
  have l2 : Le s₁ { s₁ with heap := h' } := .of_same (fun c o e => he c o (Nat.ne_of_lt (Heap.lt_size e)) e) rfl rfl
  show wpAny _ _ (assignInOrder [fun v => bindName env y v, fun v => bindName env x v] [b, a]) _ _ _
  refine assignInOrder_cons (bindName_ (wp_store (F.grow (l1.trans l2)) (.inl hy) fun s₃ F₃ b₃ g₃ => assignInOrder_cons (bindName_ (wp_store F₃ (.inl hx) fun s₄ F₄ b₄ g₄ => assignInOrder_nil ?_))))
  exact kk a b { s₁ with heap := h' } s₄ pa qb (l1.trans l2) F₄ (b₃.trans b₄) (g₄.trans g₃)
theorem pt_pair {e f : Expr} {k : Nat} {p q : Value → Prop} (h1 : PV prog w A s₀ (eval e env) p) (h2 : PV prog w A s₀ (eval f env) q) (he : starEach (e :: [f]) env = (false, eval e env) :: starEach [f] env := by rfl) (hf : starEach (f :: []) env = (false, eval f env) :: starEach [] env := by rfl) :
    PT prog w A s₀ (eval (.Tuple [e, f] k pos) env) (fun v s' => ∃ t a b, v = .ref t ∧ IsTup s'.heap t #[a, b] ∧ p a ∧ q b) := by
  intro s Q E l qq
  refine Tuple_ ((argv2 h1 h2 he hf) s _ E l fun vs s₁ l1 hv => ?_)
  obtain ⟨a, b, rfl, pa, qb⟩ := hv
  exact wpAny_newObj_type (qq _ _ (l1.trans Le.push) ⟨_, a, b, rfl, ⟨_, Heap.get?_push_size _ rfl, rfl, _, rfl⟩, pa, qb⟩)

/-- del xs[i] -/
theorem wp_del {value slice : Expr} {pos pos' : Pos} {rest : List Stmt} {l : Addr} {items : List Value} {i : Int} {k : Nat} (F : Fm s₀ env m s) (hl : s.heap.PlainList l items.toArray) (h0 : s₀.heap.get? l = none) (h1 : l ∉ fAd env)
    (ho : PV prog w A s (eval value env) (fun u => u = .ref l)) (hi : PV prog w A s (eval slice env) (IsI i)) (hfit : Builtin.List.listFitsIndex i = true) (hk : seqIndex? i items.length = some k) (hz : items.length ≤ sizeLine)
    (kk : ∀ s₂, Fm s₀ env m s₂ → s₂.heap.PlainList l (items.eraseIdx k).toArray → wpAny (model prog w) A (execs rest env) Q E s₂) :
    wpAny (model prog w) A (execs (.Delete [.Subscript value slice pos'] pos :: rest) env) Q E s := by
  refine wp_cons (wpAny_Delete (wpAny_deleteEach_cons (wpAny_delete_Subscript (ho.use fun o s₁ l1 eo => (hi.le l1).use fun iv s₂ l2 ei => ?_))))
  subst eo
  obtain ⟨t, rfl⟩ := ei
  have hl' : s₂.heap.PlainList l items.toArray := hl.at fun o e => l2.keep _ _ (l1.keep _ _ e)
  refine wpAny_delItem_plain hl' hfit (by simpa using hk) (fun h' hp hs => wpAny_deleteEach_nil ?_) (by simpa using hz)
  have hks : ∀ b o, b ∉ [l] → s₂.heap.get? b = some o → h'.get? b = some o := fun b o hb e => (hs.2 b (fun q => hb (by simp [q]))).trans e
  refine kk { s₂ with heap := h' } (((F.grow l1).grow l2).mut (tk := s₂.toks) (ch := [l]) hks (fun b hb => by rw [List.mem_singleton.mp hb]; exact h0) fun b hb => by rw [List.mem_singleton.mp hb]; exact h1) ?_
  have e : items.toArray.eraseIdxIfInBounds k = (items.eraseIdx k).toArray := by simp
  rw [← e]; exact hp

theorem wp_assert {test : Expr} {msg : Option Expr} {pos : Pos} {rest : List Stmt} (h : PT prog w A s (isTrue test env (eval test env)) (fun c _ => c = true)) (k : ∀ s', Le s s' → wpAny (model prog w) A (execs rest env) Q E s') :
    wpAny (model prog w) A (execs (.Assert test msg pos :: rest) env) Q E s := wp_cons (wpAny_Assert_holds (h.use fun b s' l e => ⟨e, k s' l⟩))
noncomputable def joinQ (J : Shared → Prop) (Q : Flow → Shared → Prop) : Flow → Shared → Prop
  | .next, s' => J s'
  | f, s' => Q f s'
/-- an if without else, both ways to one word -/
theorem wp_if_join {test : Expr} {body rest : List Stmt} {pos : Pos} {b : Bool} (J : Shared → Prop) (h : PT prog w A s (isTrue test env (eval test env)) (fun c _ => c = b))
    (k1 : b = true → ∀ s', Le s s' → wpAny (model prog w) A (execs body env) (joinQ J Q) E s') (k2 : b = false → ∀ s', Le s s' → J s')
    (kr : ∀ s', J s' → wpAny (model prog w) A (execs rest env) Q E s') :
    wpAny (model prog w) A (execs (.If test body [] pos :: rest) env) Q E s :=
  wp_if1 h (fun e s' l => wpAny_mono (k1 e s' l) (fun f s₂ hf => by cases f <;> first | exact kr s₂ hf | exact hf) fun _ _ x => x) fun e s' l => kr s' (k2 e s' l)
theorem wp_if_joinF {test : Expr} {body rest : List Stmt} {pos : Pos} {b : Bool} (_F : Fm s₀ env m s) (J : (Mp → Shared → Prop) → Shared → Prop) (h : PT prog w A s (isTrue test env (eval test env)) (fun c _ => c = b))
    (k1 : b = true → ∀ s', Le s s' → wpAny (model prog w) A (execs body env) (joinQ (J (Fm s₀ env)) Q) E s') (k2 : b = false → ∀ s', Le s s' → J (Fm s₀ env) s')
    (kr : ∀ s', J (Fm s₀ env) s' → wpAny (model prog w) A (execs rest env) Q E s') :
    wpAny (model prog w) A (execs (.If test body [] pos :: rest) env) Q E s := wp_if_join (J (Fm s₀ env)) h k1 k2 kr
theorem wp_end {Q : Flow → Shared → Prop} (h : Q .next s) : wpAny (model prog w) A (execs [] env) Q E s := wpAny_execs_nil h
/-- an if with else, the last of its block -/
theorem wp_if2 {test : Expr} {body orelse : List Stmt} {pos : Pos} {b : Bool} (h : PT prog w A s (isTrue test env (eval test env)) (fun c _ => c = b))
    (k1 : b = true → ∀ s', Le s s' → wpAny (model prog w) A (execs body env) Q E s') (k2 : b = false → ∀ s', Le s s' → wpAny (model prog w) A (execs orelse env) Q E s') :
    wpAny (model prog w) A (execs (.If test body orelse pos :: []) env) Q E s :=
  wp_if h (fun s' l e => wpAny_mono (k1 e.symm s' l) (fun f s₂ hf => by cases f <;> first | exact wpAny_execs_nil hf | exact hf) fun _ _ x => x)
    fun s' l e => wpAny_mono (k2 e.symm s' l) (fun f s₂ hf => by cases f <;> first | exact wpAny_execs_nil hf | exact hf) fun _ _ x => x
end
end Mine
end

section
open PySem PySem.W PyProof.Rows PySem.Calls
namespace Mine
/-- all objects of B stand, all generators but G's -/
structure LeB (B : Addr → Prop) (G : Nat → Prop) (s s' : Shared) : Prop where
  keep : ∀ b o, B b → s.heap.get? b = some o → s'.heap.get? b = some o
  gens : ∀ (i : Nat) (x : GenState), ¬ G i → s.gens[i]? = some x → s'.gens[i]? = some x
  bare : ∀ (i : Nat) (x : GenState), s'.gens[i]? = some x → (s.gens[i]? = none ∨ G i) → x.bare = true
  os : s'.os = s.os
  tk : s.toks ≤ s'.toks
theorem LeB.refl {B : Addr → Prop} {G : Nat → Prop} {s : Shared} (h : ∀ (i : Nat) (x : GenState), s.gens[i]? = some x → G i → x.bare = true) : LeB B G s s :=
  ⟨fun _ _ _ e => e, fun _ _ _ e => e, fun i x e n => n.elim (fun n => by rw [n] at e; cases e) (h i x e), rfl, Nat.le_refl _⟩
theorem LeB.trans {B : Addr → Prop} {G : Nat → Prop} {a b c : Shared} (x : LeB B G a b) (y : LeB B G b c) : LeB B G a c :=
  ⟨fun p o h e => y.keep p o h (x.keep p o h e), fun i g h e => y.gens i g h (x.gens i g h e), fun i g e n => by
    by_cases hG : G i
    · exact y.bare i g e (.inr hG)
    · cases h : b.gens[i]? with
      | none => exact y.bare i g e (.inl h)
      | some z => exact (Option.some.inj ((y.gens i z hG h).symm.trans e)) ▸ x.bare i z h n, y.os.trans x.os, Nat.le_trans x.tk y.tk⟩
theorem LeB.of_le {B : Addr → Prop} {s s' : Shared} (l : Le s s') : LeB B (fun _ => False) s s' :=
  ⟨fun b o _ e => l.keep b o e, fun i x _ e => l.gens i x e, fun i x e n => n.elim (l.bare i x e) fun f => f.elim, l.os, l.tk⟩
theorem LeB.of_heap {B : Addr → Prop} {s : Shared} {h' : Heap} {tk : Nat} (hk : ∀ b o, B b → s.heap.get? b = some o → h'.get? b = some o) (ht : s.toks ≤ tk := by first | exact Nat.le_refl _ | exact Nat.le_succ _ | exact Nat.le_add_right _ _ | exact Nat.le_trans (Nat.le_succ _) (Nat.le_succ _) | ((try dsimp only); omega)) : LeB B (fun _ => False) s { s with heap := h', toks := tk } :=
  ⟨hk, fun _ _ _ e => e, fun i x e n => n.elim (fun n => by rw [n] at e; cases e) fun f => f.elim, rfl, ht⟩
noncomputable def Is (s : Shared) (b : Addr) : Prop := ∃ o, s.heap.get? b = some o

section
variable {prog : Program} {w : World} {A : Around} {s₀ s s' : Shared} {env : Env} {m : Mp}
theorem Fm.mutB (F : Fm s₀ env m s) {B : Addr → Prop} {G : Nat → Prop} (l : LeB B G s s') (h0 : ∀ b, Is s₀ b → B b) (h1 : ∀ b ∈ fAd env, B b) (hG : ∀ g, G g → s₀.gens[g]? = none) : Fm s₀ env m s' where
  le := ⟨fun b o e => l.keep b o (h0 b ⟨o, e⟩) (F.le.keep b o e), fun i x e => l.gens i x (fun hg => by rw [hG i hg] at e; cases e) (F.le.gens i x e), fun i x e n => by
    by_cases hg : G i
    · exact l.bare i x e (.inr hg)
    · cases h : s.gens[i]? with
      | none => exact l.bare i x e (.inl h)
      | some z => exact (Option.some.inj ((l.gens i z hg h).symm.trans e)) ▸ F.le.bare i z h n, l.os.trans F.le.os, Nat.le_trans F.le.tk l.tk⟩
  ns := (by obtain ⟨ml, hn, e⟩ := F.ns; exact ⟨ml, hn.at' fun o e => l.keep _ o (h1 _ (.head _)) e, e⟩)
  cell := fun x c hc => (by obtain ⟨ov, ⟨o, ho, hd⟩, e⟩ := F.cell x c hc; exact ⟨ov, ⟨o, l.keep _ _ (h1 _ (List.Mem.tail _ (List.mem_map_of_mem (f := (·.2)) (lookup_mem hc)))) ho, hd⟩, e⟩)
  kind := F.kind
  apart := F.apart
  off := F.off
  newL := F.newL
  newC := F.newC
  there := fun a ha => (by obtain ⟨o, ho⟩ := F.there a ha; exact ⟨o, l.keep _ _ (h1 _ ha) ho⟩)

/-- an iterator of pairs: what stood at base b₀ it leaves alone -/
structure Pairs (prog : Program) (w : World) (A : Around) (B : Addr → Prop) (G : Nat → Prop) (src : List Addr) (I : Addr) (n : Nat) (P : Nat → Value → Value → Prop) (St : Nat → Shared → Prop) : Prop where
  frame : ∀ i s s', St i s → (∀ b o, (¬ B b ∨ b ∈ src) → s.heap.get? b = some o → s'.heap.get? b = some o) → (∀ (g : Nat) x, G g → s.gens[g]? = some x → s'.gens[g]? = some x) → s.toks ≤ s'.toks → St i s'
  item : ∀ i (s : Shared) (Q : Option Value → Shared → Prop) (E : Value → Shared → Prop), i < n → St i s → Tp w s → (∀ b, B b → Is s b) →
    (∀ T s₁, (∀ (elts : List Expr) (k : Nat) (pos : Pos) (Q' : Unit → Shared → Prop) (E' : Value → Shared → Prop), (∀ va vb s', P i va vb → s'.heap.IsTuple T #[va, vb] → St (i + 1) s' → LeB B G s s' → Q' () s') → wpAny (model prog w) A (letOwnedTupleGo (.Tuple elts k pos) (.ref I) (.ref T)) Q' E' s₁) → Q (some (.ref T)) s₁) →
    wpAny (model prog w) A (pyNext (.ref I)) Q E s
  done : ∀ (s : Shared) (Q : Option Value → Shared → Prop) (E : Value → Shared → Prop), St n s → Tp w s → (∀ b, B b → Is s b) → (∀ s', LeB B G s s' → Q none s') → wpAny (model prog w) A (pyNext (.ref I)) Q E s

theorem wp_forP {x y : Str} {px py tpos pos : Pos} {tk : Nat} {iter : Expr} {body orelse rest : List Stmt} {PI : Value → Shared → Prop} {src D : List Addr} {n : Nat} {P : Nat → Value → Value → Prop} {Q : Flow → Shared → Prop} {E : Value → Shared → Prop}
    (J : Nat → Mp → Shared → Prop)
    (F : Fm s₀ env m s) (T : Tp w s₀) (hh : A.handled = none) (hi : PT prog w A s (eval iter env) PI)
    (hsrc : ∀ v s₁, Le s s₁ → PI v s₁ → ∀ (Q : Value → Shared → Prop) (E : Value → Shared → Prop), (∀ I St (G : Nat → Prop) s₂, Le s s₂ → Pairs prog w A (Is s) G src I n P St → St 0 s₂ → (∀ g, G g → s.gens[g]? = none) → Q (.ref I) s₂) → wpAny (model prog w) A (pyIter v) Q E s₁)
    (hso : ∀ b ∈ src, b ∉ fAd env ∧ b ∉ D) (hD : OwnD s₀ env D s)
    (hJ : ∀ i m s s', J i m s → (∀ b ∈ D, ∀ o, s.heap.get? b = some o → s'.heap.get? b = some o) → J i m s') (h0 : J 0 m s) (hJD : ∀ i m s, J i m s → ∀ b ∈ D, Is s b)
    (turn : ∀ i va vb a m s, i < n → P i va vb → Le s₀ a → (∀ b ∈ D, a.heap.get? b = none) → Fm a env ((y, vb) :: (x, va) :: m) s → J i m s →
      wpAny (model prog w) A (execs body env) (LQ prog w A a env (J (i + 1)) rest Q E) (fun _ _ => False) s)
    (done : ∀ m s, Fm s₀ env m s → J n m s → wpAny (model prog w) A (execs orelse env) (aft (model prog w) A rest env Q E) (fun _ _ => False) s)
    (hx : env.kindOf x = some .local ∨ (env.kindOf x = some .cell ∧ (env.cells.lookup x).isSome = true) := by first | exact Or.inl rfl | exact Or.inr ⟨rfl, rfl⟩)
    (hy : env.kindOf y = some .local ∨ (env.kindOf y = some .cell ∧ (env.cells.lookup y).isSome = true) := by first | exact Or.inl rfl | exact Or.inr ⟨rfl, rfl⟩)
    (hs : ∀ v, foldedSetIterable iter env v = pure v := by intro _; rfl) :
    wpAny (model prog w) A (execs (.For (.Tuple [.Name x px, .Name y py] tk tpos) iter body orelse pos :: rest) env) Q E s := by
  refine wp_cons (wpAny_For (hi.use fun v s₁ l1 p1 => hsrc v s₁ l1 p1 _ _ fun I St G s₂ l2 W st0 hG => ?_) hs)
  have F2 := F.grow l2
  have hB0 : ∀ b, Is s₀ b → Is s b := fun b zq0 => (by obtain ⟨o, e⟩ := zq0; exact ⟨o, F.le.keep b o e⟩)
  have hB1 : ∀ b ∈ fAd env, Is s b := F.there
  have hG0 : ∀ g, G g → s₀.gens[g]? = none := fun g hg => by
    cases e : s₀.gens[g]? with
    | none => rfl
    | some z => have := F.le.gens g z e; rw [hG g hg] at this; cases this
  have hD0 : ∀ b ∈ D, s₀.heap.get? b = none := fun b hb => (hD b hb).1
  have hDF : ∀ b ∈ D, b ∉ fAd env := fun b hb => (hD b hb).2.1
  have hBD : ∀ b ∈ D, Is s b := fun b hb => (hD b hb).2.2
  have stay : ∀ i (s₃ s₄ : Shared), St i s₃ → (∀ b o, b ∉ fAd env → b ∉ D → s₃.heap.get? b = some o → s₄.heap.get? b = some o) → (∀ (g : Nat) x, s₃.gens[g]? = some x → s₄.gens[g]? = some x) → s₃.toks ≤ s₄.toks → St i s₄ := fun i s₃ s₄ st hk hg ht =>
    W.frame i s₃ s₄ st (fun b o hb e => hb.elim (fun hb => hk b o (fun q => hb (hB1 b q)) (fun q => hb (hBD b q)) e) fun hb => hk b o (hso b hb).1 (hso b hb).2 e) (fun g x _ e => hg g x e) ht
  obtain ⟨Iv, hIv⟩ : ∃ I : Nat → Shared → Prop, ∀ k s', I k s' ↔ ∃ i m, i ≤ n ∧ k = n + 1 - i ∧ Fm s₀ env m s' ∧ J i m s' ∧ St i s' ∧ ∀ b, Is s b → Is s' b := ⟨_, fun _ _ => Iff.rfl⟩
  refine codeAny_forLoop_any Iv ?_ (n + 1)
    ((hIv _ _).mpr ⟨0, m, Nat.zero_le _, rfl, F2, hJ 0 m s s₂ h0 fun b _ o e => l2.keep _ _ e, st0, fun b zq1 => (by obtain ⟨o, e⟩ := zq1; exact ⟨o, l2.keep b o e⟩)⟩)
  intro k s' hIk
  obtain ⟨i, m, hin, hk0, F, hj, hst, hIs⟩ := (hIv k s').mp hIk
  by_cases hlt : i < n
  · refine W.item i s' _ _ hlt hst (T.le F.le) hIs fun T' s₁' hgo => ?_
    refine hgo _ _ _ _ _ fun va vb s₃ hP hT hst₃ l₃ => ?_
    have F₃ := F.mutB l₃ hB0 hB1 hG0
    refine wp_tk (wpAny_assign_Tuple hh hT rfl rfl fun h' he => ?_)
    have l₄ : Le s₃ { s₃ with heap := h' } := .of_same (fun c o e => he c o (Nat.ne_of_lt (Heap.lt_size e)) e) rfl rfl
    have F₄ := F₃.grow l₄
    refine assignInOrder_cons (wpAny_assign_Name (wp_store F₄ hx fun s₅ F₅ B₅ g₅ => assignInOrder_cons (wpAny_assign_Name (wp_store F₅ hy fun s₆ F₆ B₆ g₆ => assignInOrder_nil fun htk => ?_))))
    have hj₆ : J i m s₆ := hJ i m s' s₆ hj fun b hb o e => B₆ b o (hDF b hb) (B₅ b o (hDF b hb) (l₄.keep b o (l₃.keep b o (hBD b hb) e)))
    have hst₆ : St (i + 1) s₆ := stay _ _ _ hst₃ (fun b o h1 h2 e => B₆ b o h1 (B₅ b o h1 (l₄.keep b o e))) (fun g x e => by rw [g₆, g₅]; exact e) htk
    refine wpAny_mono (turn i va vb (anchor env D s₆) m s₆ hlt hP (anchor_ge F₆ hD0) (fun b hb => anchor_no hb) (anchor_fm F₆ D) hj₆) (fun fl s₇ h₇ => ?_) fun _ _ x => x.elim
    have step : (∃ m', Fm (anchor env D s₆) env m' s₇ ∧ J (i + 1) m' s₇) → ∃ k', k' < k ∧ Iv k' s₇ := by
      rintro ⟨m', F₇, hj₇⟩
      refine ⟨n + 1 - (i + 1), cd_lt hk0 hlt, (hIv _ _).mpr ⟨i + 1, m', hlt, rfl, F₇.weak (anchor_ge F₆ hD0) F₆.newL F₆.newC, hj₇, stay _ _ _ hst₆ (fun b o h1 h2 e => F₇.le.keep b o (anchor_get e h1 h2)) (fun g x e => F₇.le.gens g x e) F₇.le.tk, fun b hb => ?_⟩⟩
      by_cases q1 : b ∈ fAd env
      · exact F₇.there b q1
      · by_cases q2 : b ∈ D
        · exact hJD _ _ _ hj₇ b q2
        · obtain ⟨o, e⟩ := hIs b hb
          exact ⟨o, F₇.le.keep b o (anchor_get (B₆ b o q1 (B₅ b o q1 (l₄.keep b o (l₃.keep b o hb e)))) q1 q2)⟩
    cases fl with
    | next => exact step h₇
    | cont => exact step h₇
    | brk => exact h₇
    | ret v => exact h₇
  · have : n = i := (end_eq hin hlt).symm
    clear hIk
    subst this
    refine W.done s' _ _ hst (T.le F.le) hIs fun s₃ l₃ => ?_
    have F₃ := F.mutB l₃ hB0 hB1 hG0
    refine wpAny_mono (done m _ F₃ (hJ _ m s' s₃ hj fun b hb o e => l₃.keep b o (hBD b hb) e)) (fun f s₄ h₄ => ?_) fun _ _ x => x.elim
    cases f <;> exact h₄
end
end Mine
end

section
open PySem PySem.W PyProof.Rows PySem.Calls
namespace Mine
section
variable {prog : Program} {w : World} {A : Around} {s₀ s s' : Shared} {env : Env} {m : Mp}
theorem Pairs.of {B : Addr → Prop} {src fp wr : List Addr} {I : Addr} {n : Nat} {Pt : Nat → Array Value → Prop} {P : Nat → Value → Value → Prop} {St : Nat → Heap → Prop} {Mid : Nat → Addr → Heap → Prop}
    (W : WalksT prog w A I fp wr n Pt St Mid) (hfp : ∀ b ∈ fp, ¬ B b ∨ b ∈ src) (hwr : ∀ b ∈ wr, ¬ B b) (hP : ∀ i vals, Pt i vals → ∃ va vb, vals = #[va, vb] ∧ P i va vb) :
    Pairs prog w A B (fun _ => False) src I n P (fun i s => St i s.heap) where
  frame := fun i s s' st hk _ _ => W.frame i _ _ st fun b hb o e => hk b o (hfp b hb) e
  item := fun i s Q E hi st T _ k => by
    refine wp_tk (W.item i s _ E hi st fun T vals h' tk hp hT hI hm hk htk => ?_)
    obtain ⟨va, vb, rfl, p⟩ := hP i vals hp
    refine k T _ fun elts k pos Q' E' k' => W.go elts k pos i T _ Q' E' hm fun h'' st' hk' => ?_
    refine k' va vb { s with heap := h'', toks := tk } p ((by obtain ⟨o, e, r⟩ := hI; exact ⟨o, hk' T o (W.apart i T h' hm) e, r⟩)) st' ?_
    exact LeB.of_heap (fun b o hb e => hk' b o (fun hw => hwr b hw hb) (hk b o (fun hw => hwr b hw hb) e)) htk
  done := fun s Q E st T _ k => wp_tk (W.done s _ E st fun h' tk hk htk => k _ (LeB.of_heap (fun b o hb e => hk b o (fun hw => hwr b hw hb) e) htk))

theorem walksT_mono {fp wr : List Addr} {I : Addr} {n : Nat} {Pt Pt' : Nat → Array Value → Prop} {St : Nat → Heap → Prop} {Mid : Nat → Addr → Heap → Prop}
    (W : WalksT prog w A I fp wr n Pt St Mid) (h : ∀ i vals, Pt i vals → Pt' i vals) : WalksT prog w A I fp wr n Pt' St Mid :=
  { W with item := fun i s Q E hi st k => W.item i s Q E hi st fun T vals h' tk p => k T vals h' tk (h i vals p) }

/-- the signs of a text, with their places -/
noncomputable def SignAt (x : Str) (i : Nat) (va vb : Value) : Prop := IsI i va ∧ ∃ c, x.cps[i]? = some c ∧ IsS ⟨#[c]⟩ vb

theorem o_enumS {x : Str} {t : Tok} : PT prog w A s₀ (call (.type "enumerate") [.str x t]) (fun v s' => ∃ I it St Mid, v = .ref I ∧ s₀.heap.get? I = none ∧ s₀.heap.get? it = none ∧ I ≠ it ∧
    (∀ B : Around, B.handled = none → WalksT prog w B I [I, it] [I, it] x.cps.size (fun i vals => ∃ va vb, vals = #[va, vb] ∧ SignAt x i va vb) St Mid) ∧ St 0 s'.heap) := by
  intro s Q E l q
  refine call_enumerate_str fun h' hE hI hz hk => ?_
  have hf : ∀ a, s.heap.objs.size ≤ a → s₀.heap.get? a = none := fun a ha => none_le l (new_none _ _ ha)
  have hne : s.heap.objs.size + 1 ≠ s.heap.objs.size := Nat.succ_ne_self _
  have key : ∃ Std : Nat → Heap → Prop, (∀ B : Around, B.handled = none → Draws prog w B s.heap.objs.size [s.heap.objs.size] x.cps.size (fun i v => ∃ c u, x.cps[i]? = some c ∧ v = .str ⟨#[c]⟩ u) Std) ∧ Std 0 h' := by
    by_cases ha : strIterType x = "str_ascii_iterator"
    · rw [ha] at hI; exact ⟨_, fun B hB => Draws.strAscii hB _ x t, hI⟩
    · have ha' : strIterType x = "str_iterator" := by
        unfold strIterType at ha ⊢
        split at ha <;> simp_all
      rw [ha'] at hI; exact ⟨_, fun B hB => Draws.strWide hB _ x t, hI⟩
  obtain ⟨Std, D, hst⟩ := key
  have W := fun (B : Around) (hB : B.handled = none) => walksT_mono (Pt' := fun i vals => ∃ va vb, vals = #[va, vb] ∧ SignAt x i va vb) (WalksT.enumerateD (prog := prog) (w := w) (A := B) (D B.in1 hB) (s.heap.objs.size + 1) hne (by simp) (by simp)) (fun i vals p => by obtain ⟨t, x', ⟨c, u, hc, rfl⟩, rfl⟩ := p; exact ⟨_, _, rfl, ⟨_, rfl⟩, c, hc, _, rfl⟩)
  exact q _ _ (Le.of_heap (tk := s.toks) hk) ⟨_, _, _, _, rfl, hf _ (by (first | exact Nat.le_refl _ | omega)), hf _ (by (first | exact Nat.le_refl _ | omega)), hne, W, ⟨⟨_, hE⟩, hst⟩⟩

theorem o_enumL {l : Addr} {items : List Value} (hl : s₀.heap.IsList l items.toArray) : PT prog w A s₀ (call (.type "enumerate") [.ref l]) (fun v s' => ∃ I it St Mid, v = .ref I ∧ s₀.heap.get? I = none ∧ s₀.heap.get? it = none ∧
    (∀ B : Around, B.handled = none → WalksT prog w B I [I, it, l] [I, it] items.length (fun i vals => ∃ va vb, vals = #[va, vb] ∧ IsI i va ∧ items[i]? = some vb) St Mid) ∧ St 0 s'.heap) := by
  intro s Q E le q
  have hl' : s.heap.IsList l items.toArray := hl.at fun o e => le.keep _ _ e
  have hli : l < s.heap.objs.size := by obtain ⟨o, ho, _⟩ := hl'; exact Heap.lt_size ho
  refine call_enumerate_list hl' fun h' hE hI hz hk => ?_
  have hf : ∀ a, s.heap.objs.size ≤ a → s₀.heap.get? a = none := fun a ha => none_le le (new_none _ _ ha)
  have hne2 : s.heap.objs.size + 1 ∉ [s.heap.objs.size, l] := fun h => by
    rcases List.mem_cons.mp h with h | h
    · exact Nat.succ_ne_self _ h
    · have h := List.mem_singleton.mp h
      have : s.heap.objs.size + 1 < s.heap.objs.size := by rw [h]; exact hli
      (first | exact Nat.le_refl _ | omega)
  have e : items.toArray.size = items.length := List.size_toArray
  have W := fun (B : Around) (hB : B.handled = none) => walksT_mono (Pt' := fun i vals => ∃ va vb, vals = #[va, vb] ∧ IsI i va ∧ items[i]? = some vb) (WalksT.enumerateD (prog := prog) (w := w) (A := B) (Draws.list (A := B.in1) hB s.heap.objs.size l (Nat.ne_of_lt hli) items.toArray) (s.heap.objs.size + 1) (Nat.succ_ne_self _) hne2 (by simp)) (fun i vals p => by obtain ⟨t, x', hc, rfl⟩ := p; exact ⟨_, _, rfl, ⟨_, rfl⟩, by simpa using hc⟩)
  rw [e] at W
  exact q _ _ (Le.of_heap (tk := s.toks) hk) ⟨_, _, _, _, rfl, hf _ (by (first | exact Nat.le_refl _ | omega)), hf _ (by (first | exact Nat.le_refl _ | omega)), W, ⟨⟨_, hE⟩, hI, hl'.at fun o e => hk _ o e⟩⟩
theorem pt_enumS {nx : Str} {np pos : Pos} {e : Expr} {x : Str} (hf : PV prog w A s₀ (eval (.Name nx np) env) (fun u => u = .type "enumerate")) (h : PV prog w A s₀ (eval e env) (IsS x))
    (he : starEach (e :: []) env = (false, eval e env) :: starEach [] env := by rfl) :
    PT prog w A s₀ (eval (.Call (.Name nx np) [e] [] pos) env) (fun v s' => ∃ I it St Mid, v = .ref I ∧ s₀.heap.get? I = none ∧ s₀.heap.get? it = none ∧ I ≠ it ∧
    (∀ B : Around, B.handled = none → WalksT prog w B I [I, it] [I, it] x.cps.size (fun i vals => ∃ va vb, vals = #[va, vb] ∧ SignAt x i va vb) St Mid) ∧ St 0 s'.heap) :=
  pt_callT hf (argv1 h he) (fun vs s' l' hv => by
    obtain ⟨v, rfl, t, rfl⟩ := hv
    refine o_enumS.mono fun v s'' l'' hq => ?_
    obtain ⟨I, it, St, Mid, rfl, h1, h2, r⟩ := hq
    exact ⟨I, it, St, Mid, rfl, none_le l' h1, none_le l' h2, r⟩) he rfl
theorem pt_enumL {nx : Str} {np pos : Pos} {e : Expr} {l : Addr} {items : List Value} (hl : s₀.heap.IsList l items.toArray) (hf : PV prog w A s₀ (eval (.Name nx np) env) (fun u => u = .type "enumerate")) (h : PV prog w A s₀ (eval e env) (fun u => u = .ref l))
    (he : starEach (e :: []) env = (false, eval e env) :: starEach [] env := by rfl) :
    PT prog w A s₀ (eval (.Call (.Name nx np) [e] [] pos) env) (fun v s' => ∃ I it St Mid, v = .ref I ∧ s₀.heap.get? I = none ∧ s₀.heap.get? it = none ∧
    (∀ B : Around, B.handled = none → WalksT prog w B I [I, it, l] [I, it] items.length (fun i vals => ∃ va vb, vals = #[va, vb] ∧ IsI i va ∧ items[i]? = some vb) St Mid) ∧ St 0 s'.heap) :=
  pt_callT hf (argv1 h he) (fun vs s' l' hv => by
    obtain ⟨v, rfl, rfl⟩ := hv
    refine (o_enumL (hl.at fun o e => l'.keep _ o e)).mono fun v s'' l'' hq => ?_
    obtain ⟨I, it, St, Mid, rfl, h1, h2, r⟩ := hq
    exact ⟨I, it, St, Mid, rfl, none_le l' h1, none_le l' h2, r⟩) he rfl
end
end Mine
end

section
open PySem PySem.W PyProof.Rows PySem.Calls
namespace Mine
noncomputable def Nm (env : Env) (m : Mp) (s : Shared) : Prop := ∃ ml, s.heap.Ns env.locals ml ∧ ∀ x v, m.lookup x = some v → env.kindOf x = some .local → ml x = some v
section
variable {prog : Program} {w : World} {A : Around} {s₀ s s' : Shared} {env : Env} {m : Mp}

/-- the next of a generator function's generator -/
theorem next_genQ {a : Addr} {g n : Nat} {gs : GenState} {P : Nat → Shared → Shared → Prop} {Y : Protocol} {Q : Option Value → Shared → Prop} {E : Value → Shared → Prop} (hh : A.handled = none)
    (hl : s.heap.NoLimit) (hroom : A.depth < recursionLimit) (hg : s.heap.IsGen a g) (hgs : s.gens[g]? = some gs)
    (hgo : gs.Goes (model prog w) A.in1 (fun n s₀ r s₁ => r = .ok (.ret .none) ∧ P n s₀ s₁) Y n (.send .none) (s.setGen g .running))
    (hY : ∀ v s₁ gs', gs'.bare = true → Y (n - 1) (s.setGen g .running) v s₁ (fun r' s'' => match n with
        | 0 => False
        | m + 1 => gs'.Goes (model prog w) A.in1 (fun n s₀ r s₁ => r = .ok (.ret .none) ∧ P n s₀ s₁) Y m r' s'') → Q (some v) (s₁.setGen g gs'))
    (hP : ∀ s₁, P n (s.setGen g .running) s₁ → ∀ h', (∀ b o, s₁.heap.get? b = some o → h'.get? b = some o) → Q none { s₁.setGen g .finished with heap := h' }) :
    wpAny (model prog w) A (pyNext (.ref a)) Q E s := by
  unfold pyNext
  refine wpAny_bind (wpAny_attempt (wpAny_callSpecial?_slot (name := Str.ofString "__next__") hg.typeIs slot_gen_next
    (wpAny_call_entry slot_gen_next hg.typeIs entry_gen_next ?_ (args_gen_next _))))
  show wpAny _ _ (Builtin.Generator.genWake (.ref a) (.send .none)) _ _ s
  unfold Builtin.Generator.genWake
  refine wpAny_bind (wpAny_holding (wpAny_genNumber hg (wpAny_bind (wpAny_genState hgs ?_))))
  cases gs with
  | running => exact hgo.elim
  | finished => exact hgo.elim
  | _ =>
    refine wpAny_bind (wpAny_roomToWake hl hroom ?_)
    show wpAny _ _ (.resume g (.send .none) [] _) _ _ s
    refine wpAny_resumeQ hgs hgo (fun x s₁ hx => ?_) (fun v s₁ gs' hb hv => ?_)
    · obtain ⟨rfl, hp⟩ := hx
      show wpAny _ _ (newExc (.type "StopIteration") [] >>= _) _ _ _
      refine wpAny_bind ?_
      simp only [newExc, newTuple]
      refine wpAny_bind (wpAny_newObj_type ?_ (by size_fits))
      refine wpAny_bind (m := firstArgMember _ _) (wpAny_of_eq (a := Value.none) (by first | rfl | (simp only [firstArgMember]; rfl)) ?_)
      refine wpAny_newObj_type ?_ (by size_fits)
      simp only [raiseNew]
      refine wpAny_bind (wpAny_bind (wpAny_handled ?_))
      rw [show A.in1.handled = none from hh]
      refine wpAny_throw ?_
      refine wpAny_bind (wpAny_isInstance (T := "StopIteration") (b := true) ⟨_, Heap.get?_push_size _ rfl, rfl⟩ isSubtype_stop ?_)
      exact wpAny_pure (hP s₁ hp _ fun b o hb => Heap.get?_push_of_some _ (Heap.get?_push_of_some _ hb))
    · exact wpAny_pure ⟨v, rfl, wpAny_pure (hY v s₁ gs' hb hv)⟩

theorem go_gen {elts : List Expr} {x1} {pos : Pos} {a T : Addr} {g : Nat} {Q : Unit → Shared → Prop} {E : Value → Shared → Prop} (hg : s.heap.IsGen a g) (hQ : Q () s) :
    wpAny (model prog w) A (letOwnedTupleGo (.Tuple elts x1 pos) (.ref a) (.ref T)) Q E s := by
  obtain ⟨o, nm, qn, ho, hc, hd, _⟩ := hg
  show wpAny _ _ (load a >>= _) _ _ s
  refine wpAny_bind (wpAny_load ho ?_)
  rw [hc, hd]
  exact wpAny_pure hQ

/-- a generator function's call -/
theorem pt_enterG {d : Nat} {name qual : Str} {params : Arguments} {body : List Stmt} {scope : Scope} {dV kV doc pm cdv ct oc : Value} {an od : Option Addr} {osl : Array (Option Value)} {f : Addr} {vs : List Value} {binds : Mp} {P : Value → Shared → Prop}
    (C : Cx A (d + 1)) (T : Tp w s₀) (ho : (_root_.Mine.hd.heap_39 w.params).lookup f = some ⟨oc, od, .func (fnOf name qual params body scope dV kV doc pm an cdv ct), osl⟩) (hcd : codeIn (_root_.Mine.hd.heap_39 w.params) cdv qual = true)
    (hbind : ∀ s, BindsTo s (fnOf name qual params body scope dV kV doc pm an cdv ct) ⟨vs, []⟩ binds) (hloc : ∀ y ∈ binds, scope.names.lookup y.1 = some .local)
    (hco : scope.isCoroutine = false) (hgen : scope.isGenerator = true) (hk : scope.kind = .function) (hcell : ∀ x ∈ scope.names, x.2 ≠ .cell)
    (h : ∀ s L a g s₁, Le s₀ s → Le s s₁ → s.heap.get? a = none → s.heap.get? L = none → L ≠ a → s.gens[g]? = none → s₁.heap.IsGen a g → s₁.gens[g]? = some (.fresh (.func body (envOf qual scope L f cdv))) →
      Nm (envOf qual scope L f cdv) binds.reverse s₁ → P (.ref a) s₁) :
    PT prog w A s₀ (call (.ref f) vs) P := by
  intro s Q E l q
  have T' := T.le l
  refine wpAny_call (codeAny_call_generator (fd := fnOf name qual params body scope dV kV doc pm an cdv ct) C.room (T'.k _ _ ho) rfl hco hgen rfl (codeRec_of T'.k hcd) (hbind s _ _ _ _ (wpAny_newFunctionEnv hcell hloc (fun h₀ hns hsb => ⟨T'.lim.fresh _ hsb, ?_⟩) hk)))
  have hk₁ : ∀ b o, s.heap.get? b = some o → h₀.get? b = some o := fun b o e => hsb.extBut b o (Nat.ne_of_lt (Heap.lt_size e)) (Heap.get?_push_of_some _ e)
  have hsz : h₀.objs.size = s.heap.objs.size + 1 := by rw [hsb.1, Heap.size_push]
  have L₁ : Le s { s with gens := s.gens.push (.fresh (.func body (envOf qual scope s.heap.objs.size f cdv))), toks := s.toks + binds.length + 1 + 1, heap := h₀.push { cls := .type "generator", data := .fields #[.int s.gens.size 0, .str name (s.toks + binds.length), .str qual (s.toks + binds.length + 1)] } } := by
    refine ⟨fun b o e => Heap.get?_push_of_some _ (hk₁ b o e), fun i x e => ?_, fun i x e n => ?_, rfl, by show s.toks ≤ s.toks + binds.length + 1 + 1; omega⟩
    · have hi := (Array.getElem?_eq_some_iff.mp e).1
      show (s.gens.push _)[i]? = some x
      rw [Array.getElem?_push, if_neg (Nat.ne_of_lt hi)]; exact e
    · have e' : (s.gens.push (.fresh (.func body (envOf qual scope s.heap.objs.size f cdv))))[i]? = some x := e
      rw [Array.getElem?_push] at e'
      split at e'
      · cases e'; rfl
      · rw [n] at e'; cases e'
  refine q _ _ L₁ (h s s.heap.objs.size h₀.objs.size s.gens.size _ l L₁ (new_none _ _ (by rw [hsz]; exact Nat.le_succ _)) (new_none _ _ (Nat.le_refl _)) (by rw [hsz]; exact Nat.ne_of_lt (Nat.lt_succ_self _)) (Array.getElem?_eq_none (Nat.le_refl _)) ⟨_, _, _, Heap.get?_push_size _ rfl, rfl, rfl, rfl⟩ ?_ ⟨_, hns.push _, fun x v e _ => e⟩)
  show (s.gens.push _)[s.gens.size]? = some _
  rw [Array.getElem?_push_size]
  rfl
end
end Mine
end

section
open PySem PySem.W PyProof.Rows PySem.Calls
namespace Mine
section
variable {prog : Program} {w : World} {A : Around} {R : GenEnd} {Y : Protocol} {n : Nat} {s₀ : Shared} {c : Code} {fs : List Frame} {s : Shared} {env : Env}
  {K : Flow → Sem Fin} {H : Value → Sem Fin} {gd : Bool → Bool} {lv : List Value → List Value}

/-- a statement that yields nothing -/
theorem seg_stmt {st : Stmt} {rest : List Stmt}
    (h : wpAny (model prog w) (A.over c fs) (execs [st] env) (fun f s' => f = .next ∧ Seg (model prog w) A R Y n s₀ c ((execs rest env).wrap K H gd lv) fs s') (fun _ _ => False) s) :
    Seg (model prog w) A R Y n s₀ c ((execs (st :: rest) env).wrap K H gd lv) fs s := by
  refine seg_execs_cons ?_
  have key : Seg (model prog w) A R Y n s₀ c ((execs [st] env).wrap (fun f => match f with | .next => (execs rest env).wrap K H gd lv | f => K f) H gd lv) fs s :=
    seg_wrap (wpAny_mono h (fun f s' h' => by obtain ⟨rfl, h'⟩ := h'; exact h') fun _ _ x => x.elim)
  rw [execs_cons_wrap] at key
  exact Eq.mp (congrArg (fun t => Seg (model prog w) A R Y n s₀ c t fs s) (Sem.wrap_congr _ _ _ (fun f => by cases f <;> rfl) fun _ => rfl)) key

theorem seg_If {test : Expr} {body orelse : List Stmt} {pos : Pos} {b : Bool} (h : PT prog w (A.over c fs) s (isTrue test env (eval test env)) (fun b' _ => b' = b))
    (k1 : b = true → ∀ s', Le s s' → Seg (model prog w) A R Y n s₀ c ((execs body env).wrap K H gd lv) fs s')
    (k2 : b = false → ∀ s', Le s s' → Seg (model prog w) A R Y n s₀ c ((execs orelse env).wrap K H gd lv) fs s') :
    Seg (model prog w) A R Y n s₀ c ((exec (.If test body orelse pos) env).wrap K H gd lv) fs s := by
  show Seg _ A R Y n s₀ c (.at pos fun _ => (isTrue test env (eval test env) >>= fun b => if b = true then execs body env else execs orelse env).wrap K H gd lv) fs s
  refine seg_at (seg_bind_wrap (h.use fun b' s' l e => ?_))
  subst e
  cases b' with
  | true => simp only [if_true]; exact k1 rfl s' l
  | false => simp only [Bool.false_eq_true, if_false]; exact k2 rfl s' l

theorem seg_For {target iter : Expr} {body orelse : List Stmt} {pos : Pos}
    (h : wpAny (model prog w) (A.over c fs) (eval iter env) (fun v s₁ => wpAny (model prog w) (A.over c fs) (pyIter v) (fun it s₂ =>
      ∀ p, Seg (model prog w) A R Y n s₀ (.forLoop target it body orelse env) ((model prog w).den (.forLoop target it body orelse env))
        (.ret (fun r => ((match r with | .ok f => (.pure f : Sem Flow) | .error e => .raise e).onRaise fun (x : Value) => do
          if (← field x 1) == Value.none then unsupported "frame.own-activation:exception-without-traceback"
          setFlight x env.frame).wrap K H gd lv) none (gd false) (lv []) c p [] :: fs) s₂) (fun _ _ => False) s₁) (fun _ _ => False) s)
    (hs : ∀ v, foldedSetIterable iter env v = pure v := by intro _; rfl) :
    Seg (model prog w) A R Y n s₀ c ((exec (.For target iter body orelse pos) env).wrap K H gd lv) fs s := by
  show Seg _ A R Y n s₀ c (.at pos fun _ => ((eval iter env >>= fun v => foldedSetIterable iter env v >>= fun x => (standAt iter.pos >>= fun _ => (holding [x] (pyIter x) >>= fun it => runOwn (.forLoop target it body orelse env) env))) : Sem Flow).wrap K H gd lv) fs s
  refine seg_at (seg_bind_wrap (wpAny_mono h (fun v s₁ h₁ => ?_) fun _ _ x => x.elim))
  refine seg_bind_wrap ?_
  rw [hs v]
  refine wpAny_pure (seg_bind_wrap (wpAny_standAt (seg_bind_wrap (wpAny_holding (wpAny_mono h₁ (fun it s₂ h₂ => ?_) fun _ _ x => x.elim)))))
  exact seg_call h₂

/-- a turn of a for loop of two names, over an iterator -/
theorem seg_forTurn {target : Expr} {it : Value} {body : List Stmt}
    (h : wpAny (model prog w) (A.over (.forLoop target it body [] env) fs) (pyNext it) (fun r s₁ => match r with
      | none => Seg (model prog w) A R Y n s₀ (.block [] env) (leafOf (.ok .next)) fs s₁
      | some v => wpAny (model prog w) (A.over (.forLoop target it body [] env) fs) (letOwnedTupleGo target it v) (fun _ s₂ => wpAny (model prog w) (A.over (.forLoop target it body [] env) fs) (assign target env v) (fun _ s₃ =>
          Seg (model prog w) A R Y n s₀ (.forLoop target it body [] env) ((execs body env).wrap (fun f => match f with
            | .next | .cont => .pure (.again (.forLoop target it body [] env))
            | .brk => .pure (.done .next)
            | .ret v => .pure (.done (.ret v))) (fun e => (do noteFrame e env; theTreesLotGoes e : Sem Unit).wrap (fun _ => .raise e) .raise id id) id id) fs s₃) (fun _ _ => False) s₂) (fun _ _ => False) s₁) (fun _ _ => False) s) :
    Seg (model prog w) A R Y n s₀ (.forLoop target it body [] env) ((model prog w).den (.forLoop target it body [] env)) fs s := by
  show Seg _ A R Y n s₀ _ ((forTurn target it body [] env).onRaise (fun x => do noteFrame x env; theTreesLotGoes x)) fs s
  rw [Sem.onRaise_eq_wrap]
  unfold forTurn
  refine seg_bind_wrap (wpAny_standAt ?_)
  refine seg_bind_wrap (wpAny_onRaise (wpAny_mono h (fun r s₁ h₁ => ?_) fun _ _ x => x.elim))
  cases r with
  | none => exact seg_again rfl h₁
  | some v =>
    refine seg_bind_wrap (wpAny_mono h₁ (fun _ s₂ h₂ => ?_) fun _ _ x => x.elim)
    refine seg_bind_wrap (wpAny_mono h₂ (fun _ s₃ h₃ => ?_) fun _ _ x => x.elim)
    rw [Sem.bind_eq_wrap', Sem.wrap_wrap]
    rw [Sem.wrap_congr (execs body env) _ _ (K' := fun f => match f with
            | .next | .cont => .pure (.again (.forLoop target it body [] env))
            | .brk => .pure (.done .next)
            | .ret v => .pure (.done (.ret v))) (H' := (fun e => (do noteFrame e env; theTreesLotGoes e : Sem Unit).wrap (fun _ => .raise e) .raise id id))
        (fun f => by cases f <;> rfl)
        (fun e => by first | exact Sem.bind_eq_wrap _ _ | (show (do noteFrame e env; theTreesLotGoes e : Sem Unit).bind (fun _ => .raise e) = _; rw [Sem.bind_eq_wrap]))]
    exact h₃
end
end Mine
end

section
open PySem PySem.W PyProof.Rows PySem.Calls
namespace Mine
noncomputable abbrev NoG : Nat → Prop := fun _ => False
section
variable {prog : Program} {w : World} {A : Around} {s₀ s s' sc : Shared} {env : Env} {m : Mp}
theorem Nm.at (h : Nm env m s) (e : ∀ o, s.heap.get? env.locals = some o → s'.heap.get? env.locals = some o) : Nm env m s' := (by obtain ⟨ml, hn, r⟩ := h; exact ⟨ml, hn.at' e, r⟩)
theorem Nm.fm (h : Nm env m s) (hk : env.scope.kind = .function) (hc : env.cells = []) : Fm (anchor env [] s) env m s where
  le := anchor_le []
  ns := h
  cell := fun x c e => by rw [hc] at e; cases e
  kind := hk
  apart := by rw [hc]; exact List.Pairwise.nil
  off := fun x hx => by rw [hc] at hx; cases hx
  newL := hideAll_none _ (List.mem_append_left _ (.head _))
  newC := fun x hx => by rw [hc] at hx; cases hx
  there := fun a ha => by
    unfold fAd at ha; rw [hc] at ha
    have := List.mem_singleton.mp ha; subst this
    obtain ⟨ml, ⟨o, _, _, e, _⟩, _⟩ := h; exact ⟨o, e⟩
theorem Fm.leB (F : Fm (anchor env [] s) env m s') {B : Addr → Prop} (hB : ∀ b, B b → b ∉ fAd env) : LeB B NoG s s' :=
  ⟨fun b o hb e => F.le.keep b o (anchor_get e (hB b hb) (by simp)), fun i x _ e => F.le.gens i x e, fun i x e n => n.elim (fun n => F.le.bare i x e n) (fun f => f.elim), F.le.os, F.le.tk⟩
theorem Tp.but {L : Addr} (T0 : Tp w sc) (hL : sc.heap.get? L = none) (T : Tp w s) (hk : ∀ b o, b ≠ L → s.heap.get? b = some o → s'.heap.get? b = some o) : Tp w s' where
  k := fun a o e => hk a o (fun q => by subst q; have := T0.k a o e; rw [hL] at this; cases this) (T.k a o e)
  g := by
    obtain ⟨mg, o0, _, _, e0, _⟩ := T0.g
    obtain ⟨mg', h⟩ := T.g
    exact ⟨mg', h.at' fun o e => hk _ o (fun q => by rw [q, hL] at e0; cases e0) e⟩
  b := by
    obtain ⟨mg, ⟨o0, _, _, e0, _⟩, _⟩ := T0.b
    obtain ⟨mg', h, r⟩ := T.b
    exact ⟨mg', h.at' fun o e => hk _ o (fun q => by rw [q, hL] at e0; cases e0) e, r⟩
  lim := by
    obtain ⟨mg, ⟨o0, _, _, e0, _⟩, _⟩ := T0.lim
    obtain ⟨mg', h, r⟩ := T.lim
    exact ⟨mg', h.at' fun o e => hk _ o (fun q => by rw [q, hL] at e0; cases e0) e, r⟩

structure GF (env : Env) (B : Addr → Prop) (St : Nat → Heap → Prop) (i : Nat) (m : Mp) (s₀ s : Shared) : Prop where
  nm : Nm env m s
  st : St i s.heap
  le : LeB B NoG s₀ s

theorem seg_forP {x y : Str} {px py tpos : Pos} {tk : Nat} {I it : Addr} {body : List Stmt} {N : Nat} {fs : List Frame} {R : GenEnd} {Y : Protocol} {St : Nat → Heap → Prop} {Mid : Nat → Addr → Heap → Prop} {Pt : Nat → Value → Value → Prop} {B : Addr → Prop} (J : Nat → Mp → Nat → Prop)
    (hk : env.scope.kind = .function) (hc : env.cells = []) (hov : (A.over (.forLoop (.Tuple [.Name x px, .Name y py] tk tpos) (.ref I) body [] env) fs).handled = none)
    (W : ∀ A' : Around, A'.handled = none → WalksT prog w A' I [I, it] [I, it] N (fun i vals => ∃ va vb, vals = #[va, vb] ∧ Pt i va vb) St Mid)
    (hB : ∀ b, B b → b ≠ env.locals ∧ b ≠ I ∧ b ≠ it) (hL : env.locals ≠ I ∧ env.locals ≠ it)
    (hx : env.kindOf x = some .local) (hy : env.kindOf y = some .local)
    (turn : ∀ i n s₀ s m va vb, i < N → Pt i va vb → J i m n → GF env B St (i + 1) ((y, vb) :: (x, va) :: m) s₀ s →
      (∀ n' s₀' s' m', GF env B St (i + 1) m' s₀' s' → J (i + 1) m' n' → Seg (model prog w) A R Y n' s₀' (.forLoop (.Tuple [.Name x px, .Name y py] tk tpos) (.ref I) body [] env) (.pure (.again (.forLoop (.Tuple [.Name x px, .Name y py] tk tpos) (.ref I) body [] env))) fs s') →
      Seg (model prog w) A R Y n s₀ (.forLoop (.Tuple [.Name x px, .Name y py] tk tpos) (.ref I) body [] env) ((execs body env).wrap (fun f => match f with
            | .next | .cont => .pure (.again (.forLoop (.Tuple [.Name x px, .Name y py] tk tpos) (.ref I) body [] env))
            | .brk => .pure (.done .next)
            | .ret v => .pure (.done (.ret v))) (fun e => (do noteFrame e env; theTreesLotGoes e : Sem Unit).wrap (fun _ => .raise e) .raise id id) id id) fs s)
    (done : ∀ m n s₀ s, J N m n → Nm env m s → LeB B NoG s₀ s → Seg (model prog w) A R Y n s₀ (.block [] env) (leafOf (.ok .next)) fs s) :
    ∀ k i n s₀ s m, N - i = k → i ≤ N → J i m n → GF env B St i m s₀ s →
      Seg (model prog w) A R Y n s₀ (.forLoop (.Tuple [.Name x px, .Name y py] tk tpos) (.ref I) body [] env) ((model prog w).den (.forLoop (.Tuple [.Name x px, .Name y py] tk tpos) (.ref I) body [] env)) fs s := by
  have hwr : ∀ b ∈ [I, it], ¬ B b := fun b hb h => by
    rcases List.mem_cons.mp hb with rfl | hb
    · exact (hB _ h).2.1 rfl
    · exact (hB _ h).2.2 (List.mem_singleton.mp hb)
  have hLw : env.locals ∉ [I, it] := fun hb => by
    rcases List.mem_cons.mp hb with hb | hb
    · exact hL.1 hb
    · exact hL.2 (List.mem_singleton.mp hb)
  have hBf : ∀ b, B b → b ∉ fAd env := fun b hb h => by
    unfold fAd at h; rw [hc] at h
    exact (hB b hb).1 (List.mem_singleton.mp h)
  intro k
  induction k with
  | zero =>
    intro i n s₀ s m hk' hi hj g
    have hin : i = N := by omega
    subst hin
    refine seg_forTurn (wp_tk ((W _ hov).done s _ _ g.st fun h' tk hk' htk => ?_))
    exact done m n s₀ _ hj (g.nm.at fun o e => hk' _ o hLw e) (g.le.trans (LeB.of_heap (fun b o hb e => hk' b o (fun h => hwr b h hb) e) htk))
  | succ k ih =>
    intro i n s₀ s m hk' hi hj g
    have hlt : i < N := by omega
    refine seg_forTurn (wp_tk ((W _ hov).item i s _ _ hlt g.st fun T vals h₁ tk₁ hp hge hT hm hk₁ htk => ?_))
    obtain ⟨va, vb, rfl, hp⟩ := hp
    refine (W _ hov).go _ _ _ i T _ _ _ hm fun h₂ st₂ hk₂ => ?_
    have hT₂ : h₂.IsTuple T #[va, vb] := (by obtain ⟨o, e, r⟩ := hT; exact ⟨o, hk₂ T o ((W _ hov).apart i T h₁ hm) e, r⟩)
    have nm₂ : Nm env m { s with heap := h₂, toks := tk₁ } := g.nm.at fun o e => hk₂ _ o hLw (hk₁ _ o hLw e)
    have le₂ : LeB B NoG s { s with heap := h₂, toks := tk₁ } := LeB.of_heap (fun b o hb e => hk₂ b o (fun h => hwr b h hb) (hk₁ b o (fun h => hwr b h hb) e)) htk
    refine wpAny_assign_Tuple hov hT₂ rfl rfl fun h₃ he => ?_
    have l₃ : Le { s with heap := h₂, toks := tk₁ } { s with heap := h₃, toks := tk₁ } := .of_same (fun c o e => he c o (Nat.ne_of_lt (Heap.lt_size e)) e) rfl rfl
    have F₃ := (nm₂.fm hk hc).grow l₃
    refine assignInOrder_cons (wpAny_assign_Name (wp_store F₃ (.inl hx) fun s₅ F₅ B₅ g₅ => assignInOrder_cons (wpAny_assign_Name (wp_store F₅ (.inl hy) fun s₆ F₆ B₆ g₆ => assignInOrder_nil ?_))))
    have hst : St (i + 1) s₆.heap := (W _ hov).frame _ _ _ st₂ fun b hb o e => F₆.le.keep b o (anchor_get e (fun h => by
      unfold fAd at h; rw [hc] at h; rw [List.mem_singleton.mp h] at hb; exact hLw hb) (by simp))
    exact turn i n s₀ s₆ m va vb hlt hp hj ⟨F₆.ns, hst, g.le.trans (le₂.trans (F₆.leB hBf))⟩ fun n' s₀' s' m' g' hj' => seg_again rfl (ih (i + 1) n' s₀' s' m' (by omega) hlt hj' g')
end
end Mine
end

section
open PySem PySem.W PyProof.Rows PySem.Calls
namespace Mine
noncomputable def bsl : Str := "\\"
noncomputable def escItems : List Nat → Int → Bool → List (Int × Str)
  | [], i, e => if e then [(i - 1, bsl)] else []
  | c :: r, i, true => (i, bsl ++ ⟨#[c]⟩) :: escItems r (i + 1) false
  | c :: r, i, false => if (⟨#[c]⟩ : Str) == bsl then escItems r (i + 1) true else (i, ⟨#[c]⟩) :: escItems r (i + 1) false

/-- a yield of a pair, the rest of what is due behind it -/
noncomputable def PY (B B0 : Addr → Prop) (all : List (Int × Str)) : Protocol := fun m s₀ v s kap =>
  (∃ T va vb p, all[all.length - 1 - m]? = some p ∧ v = .ref T ∧ s.heap.IsTuple T #[va, vb] ∧ IsI p.1 va ∧ IsS p.2 vb) ∧ LeB B NoG s₀ s ∧
    ∃ X : List Addr, (∀ b ∈ X, ¬ B0 b) ∧ ∀ s'', (∀ b ∈ X, ∀ o, s.heap.get? b = some o → s''.heap.get? b = some o) → kap (.send .none) s''
noncomputable abbrev RY (B : Addr → Prop) : GenEnd := fun n s₀ r s₁ => r = .ok (.ret .none) ∧ (n = 0 ∧ LeB B NoG s₀ s₁)
noncomputable def GSt (prog : Program) (w : World) (A : Around) (B B0 : Addr → Prop) (all : List (Int × Str)) (a : Addr) (g : Nat) (i : Nat) (s : Shared) : Prop :=
  s.heap.IsGen a g ∧ ∃ gs, s.gens[g]? = some gs ∧ gs.bare = true ∧ ∃ X : List Addr, (∀ b ∈ X, ¬ B0 b) ∧ ∀ s'' : Shared, (∀ b ∈ X, ∀ o, s.heap.get? b = some o → s''.heap.get? b = some o) → Tp w s'' → (∀ b, B b → Is s'' b) →
    gs.Goes (model prog w) A.in1 (RY B) (PY B B0 all) (all.length - i) (.send .none) s''
noncomputable def PairAt (all : List (Int × Str)) (i : Nat) (va vb : Value) : Prop := ∃ p, all[i]? = some p ∧ IsI p.1 va ∧ IsS p.2 vb

section
variable {prog : Program} {w : World} {A : Around} {s₀ s s' : Shared} {env : Env} {m : Mp}
theorem Tp.setGen {g : Nat} {gs : GenState} (T : Tp w s) : Tp w (s.setGen g gs) := ⟨T.k, T.g, T.b, T.lim⟩
theorem setGen_ne {g i : Nat} {gs : GenState} (h : i ≠ g) : (s.setGen g gs).gens[i]? = s.gens[i]? := by simp [Shared.setGen, Ne.symm h]
theorem LeB.setGen {B B0 : Addr → Prop} {g : Nat} {gs x : GenState} {s s₁ : Shared} (h0 : ∀ b, B0 b → B b) (l : LeB B NoG (s.setGen g x) s₁) (hg : s₁.gens[g]? = some x) (hb : gs.bare = true) : LeB B0 (fun i => i = g) s (s₁.setGen g gs) where
  keep := fun b o hb e => l.keep b o (h0 b hb) e
  gens := fun i y hi e => by rw [setGen_ne hi]; exact l.gens i y (fun f => f) (by rw [setGen_ne hi]; exact e)
  bare := fun i y e n => by
    by_cases hi : i = g
    · subst hi; rw [setGen_self hg] at e; cases e; exact hb
    · rw [setGen_ne hi] at e
      exact l.bare i y e (.inl (by rw [setGen_ne hi]; exact n.elim id fun q => absurd q hi))
  os := l.os
  tk := l.tk

theorem gen_idx {L i n : Nat} (hn : L - i = n + 1) (h : i ≤ L) : L - 1 - (n + 1 - 1) = i :=
  (congrArg (fun t => t - 1 - n) (((Nat.sub_eq_iff_eq_add h).mp hn).trans (Nat.add_right_comm n 1 i))).trans (Nat.add_sub_cancel_left (n := n) (m := i))
theorem pairs_gen {B B0 : Addr → Prop} {all : List (Int × Str)} {a : Addr} {g : Nat} (hh : A.handled = none) (hroom : A.depth < recursionLimit) (ha : B a) (ha0 : ¬ B0 a) (h0 : ∀ b, B0 b → B b) (h1 : ∀ b, B b → b = a ∨ B0 b) :
    Pairs prog w A B0 (fun i => i = g) [] a all.length (PairAt all) (GSt prog w A B B0 all a g) where
  frame := fun i s s' st hk hg _ => by
    obtain ⟨⟨o, nm, qn, ho, r⟩, gs, hgs, hb, X, hX, hgo⟩ := st
    exact ⟨⟨o, nm, qn, hk a o (.inl ha0) ho, r⟩, gs, hg g gs rfl hgs, hb, X, hX, fun s'' h T hI => hgo s'' (fun b hb o e => h b hb o (hk b o (.inl (hX b hb)) e)) T hI⟩
  item := fun i s Q E hi st T hIs k => by
    obtain ⟨hg, gs, hgs, hb, X, hX, hgo⟩ := st
    obtain ⟨n, hn⟩ : ∃ n, all.length - i = n + 1 := ⟨all.length - i - 1, (Nat.sub_add_cancel (Nat.sub_pos_of_lt hi)).symm⟩
    rw [hn] at hgo
    refine next_genQ (P := fun n s₀ s₁ => n = 0 ∧ LeB B NoG s₀ s₁) hh T.lim hroom hg hgs (hgo _ (fun _ _ _ e => e) T.setGen (fun b hb => (h1 b hb).elim (fun q => q ▸ ((by obtain ⟨o, _, _, ho, _⟩ := hg; exact ⟨o, ho⟩))) (hIs b))) (fun v s₁ gs' hb' hv => ?_) (fun s₁ hp _ _ => ?_)
    · obtain ⟨⟨T', va, vb, p, hp, rfl, hT, h1, h2⟩, l, X', hX', hkap⟩ := hv
      have hidx : all.length - 1 - (n + 1 - 1) = i := gen_idx hn (Nat.le_of_lt hi)
      rw [hidx] at hp
      have hgr : s₁.gens[g]? = some .running := l.gens g _ (fun f => f) (setGen_self hgs)
      have hg₁ : s₁.heap.IsGen a g := (by obtain ⟨o, nm, qn, ho, r⟩ := hg; exact ⟨o, nm, qn, l.keep a o ha ho, r⟩)
      refine k T' _ fun elts kk pos Q' E' k' => go_gen (s := s₁.setGen g gs') hg₁ (k' va vb (s₁.setGen g gs') ⟨p, hp, h1, h2⟩ hT ⟨hg₁, gs', setGen_self hgr, hb', X', hX', fun s'' hal _ _ => ?_⟩ (LeB.setGen h0 l hgr hb'))
      have e : all.length - (i + 1) = n := (Nat.sub_sub _ _ _).symm.trans (congrArg (· - 1) hn)
      rw [e]
      exact hkap s'' hal
    · exact absurd hp.1 (Nat.succ_ne_zero n)
  done := fun s Q E st T hIs k => by
    obtain ⟨hg, gs, hgs, hb, X, hX, hgo⟩ := st
    rw [Nat.sub_self] at hgo
    refine next_genQ (P := fun n s₀ s₁ => n = 0 ∧ LeB B NoG s₀ s₁) hh T.lim hroom hg hgs (hgo _ (fun _ _ _ e => e) T.setGen (fun b hb => (h1 b hb).elim (fun q => q ▸ ((by obtain ⟨o, _, _, ho, _⟩ := hg; exact ⟨o, ho⟩))) (hIs b))) (fun v s₁ gs' hb' hv => ?_) (fun s₁ hp h' hk => ?_)
    · obtain ⟨_, _, X', _, hkap⟩ := hv
      exact False.elim (hkap s₁ fun _ _ _ e => e)
    · have hgr : s₁.gens[g]? = some .running := hp.2.gens g _ (fun f => f) (setGen_self hgs)
      have l := LeB.setGen (gs := .finished) h0 hp.2 hgr rfl
      exact k _ ⟨fun b o hb e => hk b o (l.keep b o hb e), l.gens, l.bare, l.os, l.tk⟩

theorem seg_yieldP {B B0 : Addr → Prop} {all : List (Int × Str)} {n : Nat} {s₀ : Shared} {c : Code} {fs : List Frame} {K : Flow → Sem Fin} {H : Value → Sem Fin} {gd : Bool → Bool} {lv : List Value → List Value} {e : Expr} {ypos pos : Pos} {p : Int × Str}
    (hfs : splitAtGen fs = none) (hgd : gd false = false) (hfg : fs.any Frame.guarded = false) (hp : all[all.length - 1 - n]? = some p) (X : List Addr) (hX : ∀ b ∈ X, ¬ B0 b)
    (l0 : LeB B NoG s₀ s)
    (h : PT prog w (A.over c fs) s (eval e env) (fun v s' => ∃ t a b, v = .ref t ∧ IsTup s'.heap t #[a, b] ∧ IsI p.1 a ∧ IsS p.2 b))
    (k : ∀ s' s'', Le s s' → (∀ b ∈ X, ∀ o, s'.heap.get? b = some o → s''.heap.get? b = some o) → Seg (model prog w) A (RY B) (PY B B0 all) n s'' c (K .next) fs s'')
    (hco : env.scope.isCoroutine = false := by rfl) (hi : interactive env = false := by rfl) :
    Seg (model prog w) A (RY B) (PY B B0 all) (n + 1) s₀ c ((exec (.Expr (.Yield (some e) ypos) pos) env).wrap K H gd lv) fs s := by
  refine seg_Expr_Yield hfs hgd hfg (h.use fun v s' l hv kap hk => ?_) hco hi
  obtain ⟨t, a, b, rfl, ht, h1, h2⟩ := hv
  exact ⟨⟨t, a, b, p, hp, rfl, ht, h1, h2⟩, l0.trans (LeB.of_le l), X, hX, fun s'' hal => hk .none s'' (k s' s'' l hal)⟩
end
end Mine
end

section
open PySem PySem.W PyProof.Rows PySem.Calls
namespace Mine
open PySem.Builtin.Str (occurrences strSub partsBetween subAt strKind)
section
variable {prog : Program} {w : World} {A : Around} {s₀ s s' : Shared} {env : Env} {m : Mp} {pos p : Pos} {Q : Flow → Shared → Prop} {E : Value → Shared → Prop}

/-- a part of a text -/
theorem pt_sliceSS {value lo hi : Expr} {x : Str} {i j : Int} (hv : PV prog w A s₀ (eval value env) (IsS x)) (hl : PV prog w A s₀ (eval lo env) (IsI i)) (hu : PV prog w A s₀ (eval hi env) (IsI j)) (hx : x.length ≤ sizeLine)
    (ht : ∀ o r, letTemporaryGo value o r = pure () := by intro _ _; rfl) :
    PV prog w A s₀ (eval (.Subscript value (.Slice (some lo) (some hi) none p) pos) env) (IsS (Txt.slice x (some i) (some j))) := by
  refine PT.wk fun s Q E l q => ?_
  refine wpAny_Subscript_str_slice (hv s _ E l fun o s₁ l1 ⟨t, e⟩ => ?_) ht
  refine (hl.le (l.trans l1)).use fun v1 s₂ l2 ⟨u1, e1⟩ => ?_
  refine (hu.le ((l.trans l1).trans l2)).use fun v2 s₃ l3 ⟨u2, e2⟩ => ?_
  refine ⟨x, t, some (i, u1), some (j, u2), e, e1, e2, post_val_or_str ⟨Nat.le_trans (Txt.slice_le x _ _) hx, fun t' k => q _ _ (fun ht => Le.fin (((l1.trans l2).trans l3).trans (Le.push (tk := s₃.toks))) (fun _ _ e => e) ht) ⟨_, rfl⟩⟩⟩
theorem pt_sliceSN {value lo : Expr} {x : Str} {i : Int} (hv : PV prog w A s₀ (eval value env) (IsS x)) (hl : PV prog w A s₀ (eval lo env) (IsI i)) (hx : x.length ≤ sizeLine)
    (ht : ∀ o r, letTemporaryGo value o r = pure () := by intro _ _; rfl) :
    PV prog w A s₀ (eval (.Subscript value (.Slice (some lo) none none p) pos) env) (IsS (Txt.slice x (some i) none)) := by
  refine PT.wk fun s Q E l q => ?_
  refine wpAny_Subscript_str_slice (hv s _ E l fun o s₁ l1 ⟨t, e⟩ => ?_) ht
  refine (hl.le (l.trans l1)).use fun v1 s₂ l2 ⟨u1, e1⟩ => ?_
  refine wpAny_pure ⟨x, t, some (i, u1), none, e, e1, rfl, post_val_or_str ⟨Nat.le_trans (Txt.slice_le x _ _) hx, fun t' k => q _ _ (fun ht => Le.fin ((l1.trans l2).trans (Le.push (tk := s₂.toks))) (fun _ _ e => e) ht) ⟨_, rfl⟩⟩⟩
theorem pt_sliceNS {value hi : Expr} {x : Str} {j : Int} (hv : PV prog w A s₀ (eval value env) (IsS x)) (hu : PV prog w A s₀ (eval hi env) (IsI j)) (hx : x.length ≤ sizeLine)
    (ht : ∀ o r, letTemporaryGo value o r = pure () := by intro _ _; rfl) :
    PV prog w A s₀ (eval (.Subscript value (.Slice none (some hi) none p) pos) env) (IsS (Txt.slice x none (some j))) := by
  refine PT.wk fun s Q E l q => ?_
  refine wpAny_Subscript_str_slice (hv s _ E l fun o s₁ l1 ⟨t, e⟩ => ?_) ht
  refine wpAny_pure ?_
  refine (hu.le (l.trans l1)).use fun v2 s₃ l3 ⟨u2, e2⟩ => ?_
  refine ⟨x, t, none, some (j, u2), e, rfl, e2, post_val_or_str ⟨Nat.le_trans (Txt.slice_le x _ _) hx, fun t' k => q _ _ (fun ht => Le.fin ((l1.trans l3).trans (Le.push (tk := s₃.toks))) (fun _ _ e => e) ht) ⟨_, rfl⟩⟩⟩

/-- v is None -/
theorem o_isNone {v : Value} {b : Bool} (h : (v == .none) = b) : PV prog w A s₀ (compareOp .Is v .none) (IsB b) := fun s Q E _ q => PyProof.Rows.is_none_gen (q _ _ (Le.refl _) (by rw [h]; rfl))

/-- the new empty list -/
theorem pt_nil {pos : Pos} : PT prog w A s₀ (eval (.List [] pos) env) (fun v s' => ∃ D, v = .ref D ∧ s₀.heap.get? D = none ∧ s'.heap.PlainList D ([] : List Value).toArray) := by
  intro s Q E l q
  refine wpAny_List_spliced ?_
  refine wpAny_pure ⟨Nat.zero_le _, q _ _ Le.push ⟨_, rfl, none_le l (new_none _ _ (Nat.le_refl _)), ⟨_, Heap.get?_push_size _ rfl⟩⟩⟩

/-- xs.append(e), a statement -/
theorem wp_append {o e : Expr} {apos pos pos' : Pos} {rest : List Stmt} {D : Addr} {items : List Value} {P : Value → Shared → Prop} {pl : Sem Bool} (F : Fm s₀ env m s)
    (ho : PV prog w A s (eval o env) (fun u => u = .ref D)) (hl : s.heap.PlainList D items.toArray) (h0 : s₀.heap.get? D = none) (h1 : D ∉ fAd env) (he : PT prog w A s (eval e env) P) (hz : items.length ≤ sizeLine)
    (k : ∀ v s₀' s₁ s₂, Le s s₁ → P v s₀' → Le s₀' s₁ → Fm s₀ env m s₂ → s₂.heap.PlainList D (items ++ [v]).toArray → (∀ b o, b ≠ D → s₁.heap.get? b = some o → s₂.heap.get? b = some o) → s₂.gens = s₁.gens → wpAny (model prog w) A (execs rest env) Q E s₂)
    (heq : eval ((o.Attribute "append" apos).Call [e] [] pos) env = (do
          let ov ← eval o env
          standAt apos.atName
          let (f, first) ← holding [ov] (getMethod ov "append" pl)
          callWith pos f first (backTo pos (starEach [e] env)) []) := by rfl)
    (hse : starEach (e :: []) env = (false, eval e env) :: starEach [] env := by rfl) (hi : interactive env = false := by rfl) (hs : swapsWith (.Call (.Attribute o "append" apos) [e] [] pos) none pos'.line env = pure false := by rfl) :
    wpAny (model prog w) A (execs (.Expr (.Call (.Attribute o "append" apos) [e] [] pos) pos' :: rest) env) Q E s := by
  refine wp_cons (wpAny_Expr_any ?_ hi hs)
  refine MethodCall_ (pl := pl) (ho.use fun ov s₁ l1 eo => ?_) heq
  subst eo
  have hl1 : s₁.heap.PlainList D items.toArray := hl.at fun o e => l1.keep _ o e
  obtain ⟨n, hob⟩ := id hl1
  refine getMethod_list_append hob rfl rfl ?_
  refine PyProof.Rows.callWith_method1 ((args1 (he.le l1) hse).use fun vs s₃ l3 hv => ?_) hse rfl
  obtain ⟨v, rfl, s₂, l2, hP⟩ := hv
  have hl3 : s₃.heap.PlainList D items.toArray := hl1.at fun o e => l3.keep _ o e
  refine wpAny_list_append_plain (hsz := by rw [List.size_toArray]; exact hz) hl3 fun h' hp hs => ?_
  have hks : ∀ b o, b ∉ [D] → s₃.heap.get? b = some o → h'.get? b = some o := fun b o hb e => (hs.2 b (fun q => hb (by simp [q]))).trans e
  refine k v s₂ s₃ { s₃ with heap := h' } (l1.trans l3) hP l2 (((F.grow l1).grow l3).mut (tk := s₃.toks) (ch := [D]) hks (fun b hb => by rw [List.mem_singleton.mp hb]; exact h0) fun b hb => by rw [List.mem_singleton.mp hb]; exact h1) ?_ (fun b o hb e => hks b o (by simpa using hb) e) rfl
  have e : items.toArray.push v = (items ++ [v]).toArray := by simp
  rw [← e]; exact hp

/-- sep.join(a list of texts) -/
theorem pt_join {o e : Expr} {apos pos : Pos} {sep : Str} {texts : List Str} {pl : Sem Bool} (hsep : PV prog w A s₀ (eval o env) (IsS sep)) (he : PT prog w A s₀ (eval e env) (fun v s' => ∃ D vs, v = .ref D ∧ s'.heap.IsList D vs.toArray ∧ Strs vs texts))
    (hok : JoinOk sep texts = true)
    (heq : eval ((o.Attribute "join" apos).Call [e] [] pos) env = (do
          let ov ← eval o env
          standAt apos.atName
          let (f, first) ← holding [ov] (getMethod ov "join" pl)
          callWith pos f first (backTo pos (starEach [e] env)) []) := by rfl)
    (hse : starEach (e :: []) env = (false, eval e env) :: starEach [] env := by rfl) :
    PV prog w A s₀ (eval (.Call (.Attribute o "join" apos) [e] [] pos) env) (IsS (Txt.join sep texts)) := by
  refine pt_methS hsep (fun t s Q E h => GM.join h) (args1 he hse) (fun t vs s' l hv => ?_) heq hse rfl
  obtain ⟨v, rfl, s₂, l2, D, us, rfl, hl, hst⟩ := hv
  obtain ⟨l, rfl, rfl⟩ := strs_pairs hst
  refine PT.wk fun s Q E l4 q => ?_
  exact SC.join (hl.at fun o e => l4.keep _ o (l2.keep _ o e)) rfl hok fun t' k => q _ _ (fun ht => Le.toks ht) ⟨_, rfl⟩
end
end Mine
end

section
open PySem PySem.W PyProof.Rows PySem.Calls
namespace Mine
section
variable {prog : Program} {w : World} {A : Around} {s₀ s s' : Shared} {env : Env} {m : Mp}
theorem escItems_end (i : Int) (e : Bool) : escItems [] i e = if e then [(i - 1, bsl)] else [] := by cases e <;> rfl
theorem escItems_true (c : Nat) (r : List Nat) (i : Int) : escItems (c :: r) i true = (i, bsl ++ ⟨#[c]⟩) :: escItems r (i + 1) false := rfl
theorem escItems_false (c : Nat) (r : List Nat) (i : Int) : escItems (c :: r) i false = if (⟨#[c]⟩ : Str) == bsl then escItems r (i + 1) true else (i, ⟨#[c]⟩) :: escItems r (i + 1) false := rfl

/-- where the walk of a text's signs stands -/
noncomputable def JE (x : Str) (i : Nat) (m : Mp) (n : Nat) : Prop := ∃ (esc : Bool) (vp : Value) (pre : List (Int × Str)), m.lookup (Str.ofString "escape") = some (.bool esc) ∧ m.lookup (Str.ofString "pos") = some vp ∧ (esc = true → IsI ((i : Int) - 1) vp) ∧
  escItems x.cps.toList 0 false = pre ++ escItems (x.cps.toList.drop i) i esc ∧ n = (escItems (x.cps.toList.drop i) i esc).length

theorem at_len {α : Type} {pre : List α} {p : α} {r all : List α} (h : all = pre ++ p :: r) : all[all.length - 1 - r.length]? = some p := by
  subst h
  have : (pre ++ p :: r).length - 1 - r.length = pre.length := by rw [List.length_append, List.length_cons]; omega
  rw [this, List.getElem?_append_right (Nat.le_refl _), Nat.sub_self]; rfl

set_option maxHeartbeats 2000000 in
theorem iter_pt {d : Nat} {x : Str} {t : Tok} {sb : Shared} (C : Cx A (d + 1)) (T : Tp w s₀) (hsb : Le sb s₀) :
    PT prog w A s₀ (call (.ref 63) [.str x t]) (fun v s' => ∃ a g St, v = .ref a ∧ s'.heap.IsGen a g ∧ sb.gens[g]? = none ∧
      Pairs prog w A (Is sb) (fun i => i = g) [] a (escItems x.cps.toList 0 false).length (PairAt (escItems x.cps.toList 0 false)) St ∧ St 0 s') := by
  have X := T.k
  refine' pt_enterG (binds := [(Str.ofString "addr", .str x t)]) ?C ?T ?ho ?hcd ?hb ?hl ?c ?g ?k ?cl ?_
  ((case C => assumption); (case T => assumption); (case ho => k_is); (case hcd => k_is); (case hb => exact fun s => BindsTo.of_eq rfl); (case hl => exact locs rfl); (case c => rfl); (case g => rfl); (case k => rfl); (case cl => decide))
  intro s L a g s₁ l l₁ ha hL hLa hgn hgen hgs hns
  have hs₀ : ∀ b, Is sb b → b ≠ L ∧ b ≠ a := fun b zq0 => (by obtain ⟨o, e⟩ := zq0; exact ⟨fun q => (by have := l.keep _ _ (hsb.keep _ _ e); rw [q, hL] at this; cases this), fun q => (by have := l.keep _ _ (hsb.keep _ _ e); rw [q, ha] at this; cases this)⟩)
  have T₁ := T.le (l.trans l₁)
  have hgen' := hgen
  refine ⟨a, g, GSt prog w A (fun b => b = a ∨ Is sb b) (Is sb) (escItems x.cps.toList 0 false) a g, rfl, hgen, ?_, pairs_gen C.hh C.room (.inl rfl) (fun h => (hs₀ a h).2 rfl) (fun b hb => .inr hb) (fun b hb => hb),
    hgen, _, hgs, rfl, [L], fun b hb h => (hs₀ b h).1 (List.mem_singleton.mp hb), fun s'' hal T'' hIs => ⟨rfl, seg_func ?_⟩⟩
  · cases e : sb.gens[g]? with
    | none => rfl
    | some z => have := l.gens g z (hsb.gens g z e); rw [hgn] at this; cases this
  · have F := (hns.at (s' := s'') fun o e => hal L (by simp) o e).fm rfl rfl
    -- pos = 0
    refine seg_stmt (wp_assign F (pt_int 0 _ _) ?_)
    intro v2 s₂ l2 h2 s₃ F3 B3 g3
    refine wp_end ⟨rfl, ?_⟩
    -- escape = False
    refine seg_stmt (wp_assign F3 (pt_bool false _ _) ?_)
    intro v4 s₄ l4 h4 s₅ F5 B5 g5
    refine wp_end ⟨rfl, ?_⟩
    cases h4
    have T5 : Tp w s₅ := Tp.but (T.le l) hL T'' (fun b o hb e => F5.le.keep b o (anchor_get e (fun q => hb (List.mem_singleton.mp q)) (by simp)))
    -- the loop
    refine seg_execs_cons (seg_For ?_)
    refine (pt_enumS (pt_builtin T5 rfl (by k_is) rfl) (nmS (y := x) F5 rfl)).use fun v s₆ l6 hv => ?_
    obtain ⟨I, it, St, Mid, rfl, hI, hit, hIt, W, hst⟩ := hv
    refine WalksT.self (W _ ?_) 0 s₆ _ _ hst ?_
    · exact C.hh
    intro p
    have F6 := F5.grow l6
    have hBL : ∀ b, (b = a ∨ Is sb b) → b ≠ L := fun b hb => hb.elim (fun q => q ▸ hLa.symm) fun hb => (hs₀ b hb).1
    have hB5 : ∀ b, (b = a ∨ Is sb b) → Is s₅ b := fun b hb => (by obtain ⟨o, e⟩ := hIs b hb; exact ⟨o, F5.le.keep b o (anchor_get e (fun q => hBL b hb (List.mem_singleton.mp q)) (by simp))⟩)
    have hnot : ∀ b, s₅.heap.get? b = none → ¬ (b = a ∨ Is sb b) := fun b h q => by obtain ⟨o, e⟩ := hB5 b q; rw [h] at e; cases e
    have hLI : L ≠ I := fun q => (F5.fresh hI).1 (by rw [← q]; exact .head _)
    have hLit : L ≠ it := fun q => (F5.fresh hit).1 (by rw [← q]; exact .head _)
    have hX : ∀ b ∈ [L, I, it], ¬ Is sb b := fun b hb h => by
      rcases List.mem_cons.mp hb with rfl | hb
      · exact hBL _ (.inr h) rfl
      · rcases List.mem_cons.mp hb with rfl | hb
        · exact hnot _ hI (.inr h)
        · rw [List.mem_singleton.mp hb] at h; exact hnot _ hit (.inr h)
    have hLw : ∀ b ∈ [I, it], b ≠ L := fun b hb q => by
      rcases List.mem_cons.mp hb with rfl | hb
      · exact hLI q.symm
      · rw [List.mem_singleton.mp hb] at q; exact hLit q.symm
    have hsz : ∀ c : Nat, (("\\" : Str)).length + ((⟨#[c]⟩ : Str)).length ≤ sizeLine := fun c => by
      rw [sizeLine_eq]; show 1 + 1 ≤ _; decide
    have stf := (W A C.hh).frame
    refine seg_forP (B := fun b => b = a ∨ Is sb b) (JE x) rfl rfl ?_ W (fun b hb => ⟨hBL b hb, fun q => hnot I hI (q ▸ hb), fun q => hnot it hit (q ▸ hb)⟩) ⟨hLI, hLit⟩ rfl rfl ?_ ?_ _ 0 _ s'' s₆ _ rfl (Nat.zero_le _) ⟨false, _, [], rfl, rfl, (fun h => nomatch h), rfl, rfl⟩ ⟨F6.ns, hst, F6.leB fun b hb q => hBL b hb (List.mem_singleton.mp q)⟩
    · exact C.hh
    · intro i n sr s7 m7 va vb hlt hp hj g again
      obtain ⟨esc, vp, pre, he, hpos, hpi, hall, hn⟩ := hj
      obtain ⟨hva, c, hc, hvb⟩ := hp
      have hdrop : x.cps.toList.drop i = c :: x.cps.toList.drop (i + 1) := by
        have h1 : x.cps.toList[i]? = some c := by simpa using hc
        have h2 := List.getElem?_eq_some_iff.mp h1
        rw [List.drop_eq_getElem_cons h2.1, h2.2]
      rw [hdrop] at hall hn
      have F7 := g.nm.fm rfl rfl
      refine seg_execs_cons (seg_If (pt_truthB (nm F7 ((lookup_cons_ne (by decide)).trans ((lookup_cons_ne (by decide)).trans he)) rfl)) ?_ ?_)
      · rintro rfl s8 l8
        rw [escItems_true] at hall hn
        rw [List.length_cons] at hn
        subst hn
        have F8 := F7.grow l8
        refine seg_execs_cons (seg_yieldP rfl rfl rfl (at_len hall) [L, I, it] hX (g.le.trans (LeB.of_le l8)) (pt_pair (nm F8 rfl hva) (pv_add_str (pt_str _ _ _) (nm (p := IsS _) F8 lookup_cons_eq hvb) (hsz c))) ?_)
        intro s9 s10 l9 hal9
        have F10 := (Nm.at (s' := s10) (F8.grow l9).ns fun o e => hal9 L (by simp) o e).fm rfl rfl
        refine seg_stmt (wp_assign F10 (pt_bool false _ _) ?_)
        intro v11 s11 l11 h11 s12 F12 B12 g12
        cases h11
        refine wp_end ⟨rfl, ?_⟩
        refine again _ s10 s12 _ ⟨F12.ns, stf _ _ _ g.st fun b hb o e => F12.le.keep b o (anchor_get (hal9 b (List.mem_cons_of_mem _ hb) o (l9.keep b o (l8.keep b o e))) (fun q => hLw b hb (List.mem_singleton.mp q)) (by simp)), F12.leB fun b hb q => hBL b hb (List.mem_singleton.mp q)⟩ ⟨false, va, _, lookup_cons_eq, rfl, (fun h => nomatch h), hall.trans (List.append_cons ..), rfl⟩
      · rintro rfl s8 l8
        have F8 := F7.grow l8
        rw [escItems_false] at hall hn
        refine seg_execs_cons (seg_If (isTrue_cmp (b' := (⟨#[c]⟩ : Str) == bsl) (nm (p := IsS _) F8 lookup_cons_eq hvb) (pt_str _ _ _) fun _ _ _ _ => o_eqS) ?_ ?_)
        · intro hb s9 l9
          rw [if_pos hb] at hall hn
          refine seg_stmt (wp_assign (F8.grow l9) (pt_bool true _ _) ?_)
          intro v11 s11 l11 h11 s12 F12 B12 g12
          cases h11
          have hpos1 : IsI (((i + 1 : Nat) : Int) - 1) va := by
            have : ((i + 1 : Nat) : Int) - 1 = (i : Int) := by omega
            rw [this]; exact hva
          refine wp_end ⟨rfl, ?_⟩
          refine again _ sr s12 _ ⟨F12.ns, stf _ _ _ g.st fun b hb o e => F12.le.keep b o (anchor_get e (fun q => hLw b hb (List.mem_singleton.mp q)) (by simp)), g.le.trans (F12.leB fun b hb q => hBL b hb (List.mem_singleton.mp q))⟩ ⟨true, va, pre, lookup_cons_eq, rfl, (fun _ => hpos1), hall, hn⟩
        · intro hb s9 l9
          rw [if_neg (by rw [hb]; decide)] at hall hn
          rw [List.length_cons] at hn
          subst hn
          have F9 := F8.grow l9
          refine seg_execs_cons (seg_yieldP rfl rfl rfl (at_len hall) [L, I, it] hX (g.le.trans (LeB.of_le (l8.trans l9))) (pt_pair (nm F9 rfl hva) (nm (p := IsS _) F9 lookup_cons_eq hvb)) ?_)
          intro s10 s11 l10 hal10
          refine again _ s11 s11 _ ⟨Nm.at (s' := s11) (F9.grow l10).ns fun o e => hal10 L (by simp) o e, stf _ _ _ g.st fun b hb o e => hal10 b (List.mem_cons_of_mem _ hb) o (l10.keep b o (l9.keep b o (l8.keep b o e))), LeB.refl fun _ _ _ f => f.elim⟩ ⟨false, va, _, he, rfl, (fun h => nomatch h), hall.trans (List.append_cons ..), rfl⟩
    · intro m7 n sr s7 hj nm7 le7
      obtain ⟨esc, vp, pre, he, hpos, hpi, hall, hn⟩ := hj
      have hd : x.cps.toList.drop x.cps.size = [] := List.drop_of_length_le (by simp)
      rw [hd, escItems_end] at hall hn
      refine seg_leaf (.ok .next) ?_
      have F7 := nm7.fm rfl rfl
      refine seg_execs_cons (seg_If (pt_truthB (nm F7 he rfl)) ?_ ?_)
      · rintro rfl s8 l8
        rw [if_pos rfl] at hall hn
        subst hn
        refine seg_execs_cons (seg_yieldP rfl rfl rfl (at_len hall) [L] (fun b hb h => hX b (by rw [List.mem_singleton.mp hb]; simp) h) (le7.trans (LeB.of_le l8)) (pt_pair (nm (F7.grow l8) hpos (hpi rfl)) (pt_str _ _ _)) ?_)
        intro s9 s10 l9 hal9
        exact seg_end (.ok (.ret .none)) ⟨rfl, rfl, LeB.refl fun _ _ _ f => f.elim⟩
      · rintro rfl s8 l8
        rw [if_neg (by decide)] at hn
        exact seg_end (.ok (.ret .none)) ⟨rfl, hn, le7.trans (LeB.of_le l8)⟩
end
end Mine
end

section
open PySem PySem.W PyProof.Rows PySem.Calls
namespace Mine
open PySem.Builtin.Str (occurrences strSub partsBetween subAt strKind)

noncomputable def qt : Str := "\""
noncomputable def opn : Str := "("
noncomputable def cls : Str := ")"
noncomputable def checkGo : List (Int × Str) → Int → Option Int
  | [], o => some o
  | p :: r, o => if p.2 == opn then checkGo r (o + 1) else if p.2 == cls then (if o - 1 < 0 then none else checkGo r (o - 1)) else checkGo r o
noncomputable def stripStep (x : Str) (q : Int × Option Int × List Str) (p : Int × Str) : Int × Option Int × List Str :=
  if p.2 == qt then (match q.2.1 with
    | none => (q.1, some p.1, q.2.2)
    | some o => (p.1 + 1, none, if q.1 != o then q.2.2 ++ [Txt.slice x (some q.1) (some o)] else q.2.2)) else q
noncomputable def stripEnd (x : Str) (q : Int × Option Int × List Str) : Str := Txt.join Str.empty (if q.1 < x.length then q.2.2 ++ [Txt.slice x (some q.1) none] else q.2.2)
noncomputable def stripF (x : Str) : Str := if (occurrences x qt 0 x.length 1).isEmpty then x else stripEnd x ((escItems x.cps.toList 0 false).foldl (stripStep x) (0, none, []))
noncomputable def checkF (x : Str) : Bool := match checkGo (escItems (stripF x).cps.toList 0 false) 0 with | none => false | some o => o == 0

theorem esc_len : ∀ (l : List Nat) (i : Int) (e : Bool), (escItems l i e).length ≤ l.length + 1
  | [], i, e => by rw [escItems_end]; cases e <;> simp
  | c :: r, i, true => by rw [escItems_true]; have := esc_len r (i + 1) false; simp; (first | with_reducible assumption | exact Nat.le_trans (by with_reducible assumption) (by decide) | exact Nat.lt_succ_of_le (by with_reducible assumption) | exact Nat.le_succ_of_le (by with_reducible assumption) | omega)
  | c :: r, i, false => by
    rw [escItems_false]
    have h1 := esc_len r (i + 1) false
    have h2 := esc_len r (i + 1) true
    split <;> simp <;> (first | with_reducible assumption | exact Nat.le_trans (by with_reducible assumption) (by decide) | exact Nat.lt_succ_of_le (by with_reducible assumption) | exact Nat.le_succ_of_le (by with_reducible assumption) | omega)
noncomputable def OpV : Option Int → Value → Prop
  | none, v => v = .none
  | some o, v => IsI o v
theorem opV_isNone {o : Option Int} {v : Value} (h : OpV o v) : (v == .none) = o.isNone := by
  cases o with
  | none => cases h; rfl
  | some i => obtain ⟨t, rfl⟩ := h; rfl

section
variable {prog : Program} {w : World} {A : Around} {s₀ s s' : Shared} {env : Env} {m : Mp}
/-- what a for over _iter_escaped_chars asks -/
theorem iter_src {d : Nat} {x : Str} {nx : Str} {np pos : Pos} {e : Expr} (C : Cx A (d + 1)) (T : Tp w s) (hk : keepIn (_root_.Mine.hd.heap_39 w.params) (.ref 63) = true) (hf : PV prog w A s (eval (.Name nx np) env) (fun u => u = .ref 63)) (h : PV prog w A s (eval e env) (IsS x))
    (he : starEach (e :: []) env = (false, eval e env) :: starEach [] env := by rfl) :
    PT prog w A s (eval (.Call (.Name nx np) [e] [] pos) env) (fun v s' => ∃ a g St, v = .ref a ∧ s'.heap.IsGen a g ∧ s.gens[g]? = none ∧
      Pairs prog w A (Is s) (fun i => i = g) [] a (escItems x.cps.toList 0 false).length (PairAt (escItems x.cps.toList 0 false)) St ∧ St 0 s') :=
  pt_callF T hk hf (argv1 h he) (fun vs s' l' hv => by
    obtain ⟨v, rfl, t, rfl⟩ := hv
    exact iter_pt C (T.le l') l') he rfl

theorem gen_src {n : Nat} {P : Nat → Value → Value → Prop} {v : Value} (l : Le s s') (h : ∃ a g St, v = .ref a ∧ s'.heap.IsGen a g ∧ s.gens[g]? = none ∧ Pairs prog w A (Is s) (fun i => i = g) [] a n P St ∧ St 0 s')
    (Q : Value → Shared → Prop) (E : Value → Shared → Prop) (k : ∀ I St (G : Nat → Prop) s₂, Le s s₂ → Pairs prog w A (Is s) G [] I n P St → St 0 s₂ → (∀ g, G g → s.gens[g]? = none) → Q (.ref I) s₂) : wpAny (model prog w) A (pyIter v) Q E s' := by
  obtain ⟨a, g, St, rfl, hgen, hgn, W, hst⟩ := h
  exact wpAny_pyIter_gen hgen (k a St _ s' l W hst fun i hi => hi ▸ hgn)

set_option maxHeartbeats 4000000 in
theorem strip_pt {d : Nat} {x : Str} {t : Tok} (C : Cx A (d + 2)) (T : Tp w s₀) (hx : x.length ≤ 1000) :
    PV prog w A s₀ (call (.ref 70) [.str x t]) (IsS (stripF x)) := by
  have X := T.k
  have C1 : Cx A (d + 1 + 1) := C
  refine' pt_enter (d := d + 1) (binds := [(Str.ofString "addr", .str x t)]) ?C ?T ?ho ?hcd ?hb ?hl ?c ?g ?k ?cl ?_
  ((case C => assumption); (case T => assumption); (case ho => k_is); (case hcd => k_is); (case hb => exact fun s => BindsTo.of_eq rfl); (case hl => exact locs rfl); (case c => rfl); (case g => rfl); (case k => rfl); (case cl => decide))
  intro s L s₁ l F hg C'
  have hxs : x.length ≤ sizeLine := by rw [sizeLine_eq]; (first | with_reducible assumption | exact Nat.le_trans (by with_reducible assumption) (by decide) | exact Nat.lt_succ_of_le (by with_reducible assumption) | exact Nat.le_succ_of_le (by with_reducible assumption) | omega)
  refine wp_if1 (isTrue_cmp (pt_str _ _ _) (nmS (y := x) F rfl) fun _ _ _ _ => o_notInS) (fun hb s₂ l2 => ?_) fun hb s₂ l2 => ?_
  · refine wp_return1 (nmS (y := x) (F.grow l2) rfl) fun v s' l' ee => ⟨(F.grow l2).le.trans l', ?_⟩
    rw [show stripF x = x from if_pos hb]; exact ee
  have F2 := F.grow l2
  have hE : stripF x = stripEnd x ((escItems x.cps.toList 0 false).foldl (stripStep x) (0, none, [])) := if_neg (by rw [show (occurrences x qt 0 x.length 1).isEmpty = false from hb]; decide)
  generalize hall : escItems x.cps.toList 0 false = all at hE
  have hal : all.length ≤ 1001 := by rw [← hall]; exact Nat.le_trans (esc_len _ _ _) (by rw [show x.cps.toList.length = x.length by simp [Str.length]]; exact Nat.succ_le_succ hx)
  refine wp_assign F2 (pt_int 0 _ _) ?_
  intro v3 s₃ l3 h3 s₄ F4 B4 g4
  refine wp_assign F4 (pt_none _ _) ?_
  intro v5 s₅ l5 h5 s₆ F6 B6 g6
  subst h5
  refine wp_assign F6 pt_nil ?_
  rintro v7 s₇ l7 ⟨D, rfl, hD, hP⟩ s₈ F8 B8 g8
  obtain ⟨hDf, hD0⟩ := F6.fresh hD
  have hP8 : s₈.heap.PlainList D ([] : List Value).toArray := hP.at fun o e => B8 D o hDf e
  have T8 : Tp w s₈ := T.le (l.trans F8.le)
  obtain ⟨JJ, hJJ⟩ : ∃ J : Nat → Mp → Shared → Prop, ∀ i m s', J i m s' ↔ (∃ q vs sv ov, Strs vs q.2.2 ∧ s'.heap.PlainList D vs.toArray ∧ IsI q.1 sv ∧ OpV q.2.1 ov ∧ m.lookup (Str.ofString "addr") = some (.str x t) ∧ m.lookup (Str.ofString "start") = some sv ∧ m.lookup (Str.ofString "open_pos") = some ov ∧ m.lookup (Str.ofString "result") = some (.ref D) ∧ (q.2.2.map (·.length)).sum ≤ i * 1000 ∧ q.2.2.length ≤ i ∧ all.foldl (stripStep x) (0, none, []) = (all.drop i).foldl (stripStep x) q) := ⟨_, fun _ _ _ => Iff.rfl⟩
  refine wp_forP (D := [D]) (src := []) (n := all.length) (P := PairAt all) (s₀ := s) JJ
    F8 (T.le l) C'.hh (hall ▸ iter_src C' T8 (by k_is) (pt_global T8 rfl (by k_is)) (nmS (y := x) F8 rfl)) ?_ (fun b hb => nomatch hb) (fun b hb => by rw [List.mem_singleton.mp hb]; exact ⟨hD0, hDf, (by obtain ⟨n, e⟩ := hP8; exact ⟨_, e⟩)⟩) ?_ ?_ ?_ ?_ ?_
  · exact fun v s9 l9 h Q E k => gen_src l9 h Q E k
  · intro i m s9 s10 hj hk
    obtain ⟨q, vs, sv, ov, h1, h2, r⟩ := (hJJ _ _ _).mp hj
    exact (hJJ _ _ _).mpr ⟨q, vs, sv, ov, h1, h2.at fun o e => hk D (by simp) o e, r⟩
  · exact (hJJ _ _ _).mpr ⟨(0, none, []), [], v3, .none, .nil, hP8, h3, rfl, rfl, rfl, rfl, rfl, Nat.zero_le _, Nat.zero_le _, rfl⟩
  · intro i m s9 hj b hb
    obtain ⟨q, vs, sv, ov, h1, ⟨n, e⟩, r⟩ := (hJJ _ _ _).mp hj
    rw [List.mem_singleton.mp hb]; exact ⟨_, e⟩
  · rintro i va vb a m s9 hi ⟨p, hp, hp1, hp2⟩ la ha F9 hj
    obtain ⟨q, vs, sv, ov, h1, h2, h3', h4', m1, m2, m3, m4, hsum, hlen, hfold⟩ := (hJJ _ _ _).mp hj
    have hdrop : all.drop i = p :: all.drop (i + 1) := by
      have h2 := List.getElem?_eq_some_iff.mp hp
      rw [List.drop_eq_getElem_cons h2.1, h2.2]
    rw [hdrop, List.foldl_cons] at hfold
    have up : ∀ {y : Str} {v : Value}, y ≠ Str.ofString "ch" → y ≠ Str.ofString "pos" → m.lookup y = some v → List.lookup y ((Str.ofString "ch", vb) :: (Str.ofString "pos", va) :: m) = some v :=
      fun h1 h2 e => (lookup_cons_ne h1).trans ((lookup_cons_ne h2).trans e)
    have n1 := up (by decide) (by decide) m1
    have n2 := up (by decide) (by decide) m2
    have n3 := up (by decide) (by decide) m3
    have n4 := up (by decide) (by decide) m4
    have n5 : List.lookup (Str.ofString "pos") ((Str.ofString "ch", vb) :: (Str.ofString "pos", va) :: m) = some va := rfl
    refine wp_if1 (isTrue_cmp (b' := p.2 == qt) (nm (p := IsS p.2) F9 lookup_cons_eq hp2) (pt_str _ _ _) fun _ _ _ _ => o_eqS) (fun hb s₁₀ l10 => ?_) fun hb s₁₀ l10 => ?_
    · have hst : stripStep x q p = (match q.2.1 with
        | none => (q.1, some p.1, q.2.2)
        | some o => (p.1 + 1, none, if q.1 != o then q.2.2 ++ [Txt.slice x (some q.1) (some o)] else q.2.2)) := if_pos hb
      have F10 := F9.grow l10
      have h2 := h2.at fun o e => l10.keep _ o e
      refine wp_if2 (b := q.2.1.isNone) (isTrue_cmp (p2 := fun v => v = .none) (nm F10 n3 h4') (pt_none _ _) fun a b s l hv hn => by subst hn; exact o_isNone (opV_isNone hv)) (fun hb2 s₁₁ l11 => ?_) fun hb2 s₁₁ l11 => ?_
      · refine wp_assign (F10.grow l11) (nm (F10.grow l11) n5 hp1) ?_
        intro v12 s₁₂ l12 h12 s₁₃ F13 B13 g13
        refine wp_end (wp_end ⟨_, F13, (hJJ _ _ _).mpr ⟨stripStep x q p, vs, sv, v12, ?_, h2.at fun o e => B13 D o hDf (l12.keep _ o (l11.keep _ o e)), ?_, ?_, (lookup_cons_ne (by decide)).trans n1, (lookup_cons_ne (by decide)).trans n2, lookup_cons_eq, (lookup_cons_ne (by decide)).trans n4, ?_, ?_, hfold⟩⟩)
        all_goals (rw [hst]; cases hq : q.2.1 with
          | none => simp only; first | exact h1 | exact h3' | exact h12 | (first | with_reducible assumption | exact Nat.le_trans (by with_reducible assumption) (by decide) | exact Nat.lt_succ_of_le (by with_reducible assumption) | exact Nat.le_succ_of_le (by with_reducible assumption) | omega)
          | some o => rw [hq] at hb2; cases hb2)
      · cases hq : q.2.1 with
        | none => rw [hq] at hb2; cases hb2
        | some o =>
          rw [hq] at hst h4'
          simp only at hst
          have F11 := F10.grow l11
          have h2 := h2.at fun o e => l11.keep _ o e
          refine wp_if_joinF F11 (fun Fr s' => ∃ vs', Fr ((Str.ofString "ch", vb) :: (Str.ofString "pos", va) :: m) s' ∧ s'.heap.PlainList D vs'.toArray ∧ Strs vs' (if q.1 != o then q.2.2 ++ [Txt.slice x (some q.1) (some o)] else q.2.2)) (isTrue_cmp (b' := q.1 != o) (nm F11 n2 h3') (nm F11 n3 h4') fun _ _ _ _ => o_neI) (fun hb3 s₁₂ l12 => ?_) (fun hb3 s₁₂ l12 => ?_) ?_
          · have F12 := F11.grow l12
            refine wp_append F12 (nm F12 n4 rfl) (h2.at fun o e => l12.keep _ o e) (ha D (by simp)) hDf (pt_sliceSS (nmS (y := x) F12 n1) (nm F12 n2 h3') (nm F12 n3 h4') hxs) (by rw [h1.len, sizeLine_eq]; (first | with_reducible assumption | exact Nat.le_trans (by with_reducible assumption) (by decide) | exact Nat.lt_succ_of_le (by with_reducible assumption) | exact Nat.le_succ_of_le (by with_reducible assumption) | omega)) ?_
            intro v s0' s₁₃ s₁₄ l13 hv l13' F14 hP14 hk14 g14
            refine wp_end ⟨_, F14, hP14, ?_⟩
            rw [if_pos hb3]; exact h1.snoc hv
          · exact ⟨vs, F11.grow l12, h2.at fun o e => l12.keep _ o e, by rw [if_neg (by rw [hb3]; decide)]; exact h1⟩
          · rintro s₁₂ ⟨vs', F12, hP12, hS12⟩
            refine wp_assign F12 (pv_add_int (nm F12 n5 hp1) (pt_int 1 _ _)) ?_
            intro v13 s₁₃ l13 h13 s₁₄ F14 B14 g14
            refine wp_assign F14 (pt_none _ _) ?_
            intro v15 s₁₅ l15 h15 s₁₆ F16 B16 g16
            refine wp_end (wp_end ⟨_, F16, (hJJ _ _ _).mpr ⟨stripStep x q p, vs', v13, v15, ?_, hP12.at fun o e => B16 D o hDf (l15.keep _ o (B14 D o hDf (l13.keep _ o e))), ?_, ?_, (lookup_cons_ne (by decide)).trans ((lookup_cons_ne (by decide)).trans n1), (lookup_cons_ne (by decide)).trans lookup_cons_eq, lookup_cons_eq, (lookup_cons_ne (by decide)).trans ((lookup_cons_ne (by decide)).trans n4), ?_, ?_, hfold⟩⟩)
            all_goals (rw [hst])
            · exact hS12
            · exact h13
            · exact h15
            · simp only
              split
              · rw [List.map_append, List.sum_append]
                have := Txt.slice_le x (some q.1) (some o)
                simp only [List.map_cons, List.map_nil, List.sum_cons, List.sum_nil]
                (first | with_reducible assumption | exact Nat.le_trans (by with_reducible assumption) (by decide) | exact Nat.lt_succ_of_le (by with_reducible assumption) | exact Nat.le_succ_of_le (by with_reducible assumption) | omega)
              · (first | with_reducible assumption | exact Nat.le_trans (by with_reducible assumption) (by decide) | exact Nat.lt_succ_of_le (by with_reducible assumption) | exact Nat.le_succ_of_le (by with_reducible assumption) | omega)
            · simp only
              split
              · rw [List.length_append]; simp only [List.length_cons, List.length_nil]; (first | with_reducible assumption | exact Nat.le_trans (by with_reducible assumption) (by decide) | exact Nat.lt_succ_of_le (by with_reducible assumption) | exact Nat.le_succ_of_le (by with_reducible assumption) | omega)
              · (first | with_reducible assumption | exact Nat.le_trans (by with_reducible assumption) (by decide) | exact Nat.lt_succ_of_le (by with_reducible assumption) | exact Nat.le_succ_of_le (by with_reducible assumption) | omega)
    · have hst : stripStep x q p = q := if_neg (by rw [hb]; decide)
      rw [hst] at hfold
      exact wp_end ⟨_, F9.grow l10, (hJJ _ _ _).mpr ⟨q, vs, sv, ov, h1, h2.at fun o e => l10.keep _ o e, h3', h4', n1, n2, n3, n4, by (first | with_reducible assumption | exact Nat.le_trans (by with_reducible assumption) (by decide) | exact Nat.lt_succ_of_le (by with_reducible assumption) | exact Nat.le_succ_of_le (by with_reducible assumption) | omega), by (first | with_reducible assumption | exact Nat.le_trans (by with_reducible assumption) (by decide) | exact Nat.lt_succ_of_le (by with_reducible assumption) | exact Nat.le_succ_of_le (by with_reducible assumption) | omega), hfold⟩⟩
  · intro m s9 F9 hj
    obtain ⟨q, vs, sv, ov, h1, h2, h3', h4', m1, m2, m3, m4, hsum, hlen, hfold⟩ := (hJJ _ _ _).mp hj
    rw [List.drop_of_length_le (Nat.le_refl _)] at hfold
    rw [hfold] at hE
    refine wp_end ?_
    have T9 : Tp w s9 := T.le (l.trans F9.le)
    refine wp_if_joinF F9 (fun Fr s' => ∃ vs', Fr m s' ∧ s'.heap.PlainList D vs'.toArray ∧ Strs vs' (if q.1 < x.length then q.2.2 ++ [Txt.slice x (some q.1) none] else q.2.2)) (isTrue_cmp (b' := decide (q.1 < x.length)) (nm F9 m2 h3') (pt_callB (R := fun v _ => IsI x.length v) (pt_builtin T9 rfl (by k_is) rfl) (argv1 (nmS (y := x) F9 m1)) fun v s' l' hv => by
      obtain ⟨v, rfl, t, rfl⟩ := hv
      exact o_lenS hxs) fun _ _ _ _ => o_ltI) (fun hb s₁₀ l10 => ?_) (fun hb s₁₀ l10 => ?_) ?_
    · have F10 := F9.grow l10
      refine wp_append F10 (nm F10 m4 rfl) (h2.at fun o e => l10.keep _ o e) hD0 hDf (pt_sliceSN (nmS (y := x) F10 m1) (nm F10 m2 h3') hxs) (by rw [h1.len, sizeLine_eq]; (first | with_reducible assumption | exact Nat.le_trans (by with_reducible assumption) (by decide) | exact Nat.lt_succ_of_le (by with_reducible assumption) | exact Nat.le_succ_of_le (by with_reducible assumption) | omega)) ?_
      intro v s0' s₁₃ s₁₄ l13 hv l13' F14 hP14 hk14 g14
      refine wp_end ⟨_, F14, hP14, ?_⟩
      rw [if_pos (of_decide_eq_true hb)]; exact h1.snoc hv
    · exact ⟨vs, F9.grow l10, h2.at fun o e => l10.keep _ o e, by rw [if_neg (of_decide_eq_false hb)]; exact h1⟩
    · rintro s₁₀ ⟨vs', F10, hP10, hS10⟩
      refine wp_return1 (pt_join (pt_str _ _ _) ((pt_local F10 m4).mono fun v s' l' e => ⟨D, vs', e, (hP10.at fun o e => l'.keep _ o e).isList, hS10⟩) (joinOk_of ?_)) fun v s' l' ee => ⟨F10.le.trans l', ?_⟩
      · have := Txt.slice_le x (some q.1) none
        have e0 : (Str.ofString "").length = 0 := rfl
        rw [e0]
        split
        · rw [List.map_append, List.sum_append]
          simp only [List.map_cons, List.map_nil, List.sum_cons, List.sum_nil]
          (first | with_reducible assumption | exact Nat.le_trans (by with_reducible assumption) (by decide) | exact Nat.lt_succ_of_le (by with_reducible assumption) | exact Nat.le_succ_of_le (by with_reducible assumption) | omega)
        · (first | with_reducible assumption | exact Nat.le_trans (by with_reducible assumption) (by decide) | exact Nat.lt_succ_of_le (by with_reducible assumption) | exact Nat.le_succ_of_le (by with_reducible assumption) | omega)
      · rw [hE]; exact ee

theorem checkGo_step (p : Int × Str) (r : List (Int × Str)) (o : Int) : checkGo (p :: r) o = if p.2 == opn then checkGo r (o + 1) else if p.2 == cls then (if o - 1 < 0 then none else checkGo r (o - 1)) else checkGo r o := rfl

set_option maxHeartbeats 4000000 in
theorem check_pt {d : Nat} {x : Str} {t : Tok} (C : Cx A (d + 3)) (T : Tp w s₀) (hx : x.length ≤ 1000) :
    PV prog w A s₀ (call (.ref 77) [.str x t]) (IsB (checkF x)) := by
  have X := T.k
  have C1 : Cx A (d + 2 + 1) := C
  refine' pt_enter (d := d + 2) (binds := [(Str.ofString "addr", .str x t)]) ?C ?T ?ho ?hcd ?hb ?hl ?c ?g ?k ?cl ?_
  ((case C => assumption); (case T => assumption); (case ho => k_is); (case hcd => k_is); (case hb => exact fun s => BindsTo.of_eq rfl); (case hl => exact locs rfl); (case c => rfl); (case g => rfl); (case k => rfl); (case cl => decide))
  intro s L s₁ l F hg C'
  have T1 : Tp w s₁ := T.le (l.trans F.le)
  refine wp_assign F (pt_callF (f := 70) T1 (by k_is) (pt_global T1 rfl (by k_is)) (argv1 (nmS (y := x) F rfl)) fun vs s' l' hv => by
    obtain ⟨v, rfl, t, rfl⟩ := hv
    exact strip_pt C' (T1.le l') hx) ?_
  rintro _ s₂ l2 ⟨t2, rfl⟩ s₃ F3 B3 g3
  refine wp_assign F3 (pt_int 0 _ _) ?_
  intro v4 s₄ l4 h4 s₅ F5 B5 g5
  have T5 : Tp w s₅ := T.le (l.trans F5.le)
  have hE : checkF x = (match checkGo (escItems (stripF x).cps.toList 0 false) 0 with | none => false | some o => o == 0) := rfl
  generalize hall : escItems (stripF x).cps.toList 0 false = all at hE
  refine wp_forP (D := []) (src := []) (n := all.length) (P := PairAt all) (s₀ := s)
    (fun i m s' => ∃ o ov, IsI o ov ∧ m.lookup (Str.ofString "opens") = some ov ∧ checkGo all 0 = checkGo (all.drop i) o)
    F5 (T.le l) C'.hh (hall ▸ iter_src (d := d) (C'.le (by (first | with_reducible assumption | exact Nat.le_trans (by with_reducible assumption) (by decide) | exact Nat.lt_succ_of_le (by with_reducible assumption) | exact Nat.le_succ_of_le (by with_reducible assumption) | omega))) T5 (by k_is) (pt_global T5 rfl (by k_is)) (nmS (y := stripF x) F5 rfl)) ?_ (fun b hb => nomatch hb) OwnD.nil ?_ ?_ ?_ ?_ ?_
  · exact fun v s9 l9 h Q E k => gen_src l9 h Q E k
  · exact fun i m s9 s10 h _ => h
  · exact ⟨0, v4, h4, rfl, rfl⟩
  · exact fun i m s9 _ b hb => nomatch hb
  · rintro i va vb a m s9 hi ⟨p, hp, hp1, hp2⟩ la ha F9 ⟨o, ov, ho, m1, hfold⟩
    have hdrop : all.drop i = p :: all.drop (i + 1) := by
      have h2 := List.getElem?_eq_some_iff.mp hp
      rw [List.drop_eq_getElem_cons h2.1, h2.2]
    rw [hdrop, checkGo_step] at hfold
    have n1 : List.lookup (Str.ofString "opens") ((Str.ofString "ch", vb) :: (Str.ofString "pos", va) :: m) = some ov := (lookup_cons_ne (by decide)).trans ((lookup_cons_ne (by decide)).trans m1)
    refine wp_if2 (b := p.2 == opn) (isTrue_cmp (nm (p := IsS p.2) F9 lookup_cons_eq hp2) (pt_str _ _ _) fun _ _ _ _ => o_eqS) (fun hb s₁₀ l10 => ?_) fun hb s₁₀ l10 => ?_
    · rw [if_pos hb] at hfold
      refine wp_aug (F9.grow l10) n1 (pt_int 1 _ _) (fun v s₁ l1 hv => o_iadd ho hv) ?_
      intro v s₁₁ l11 hv s₁₂ F12 B12 g12
      exact wp_end ⟨_, F12, o + 1, v, hv, lookup_cons_eq, hfold⟩
    · rw [if_neg (by rw [hb]; decide)] at hfold
      refine wp_if1 (b := p.2 == cls) (isTrue_cmp (nm (p := IsS p.2) (F9.grow l10) lookup_cons_eq hp2) (pt_str _ _ _) fun _ _ _ _ => o_eqS) (fun hb2 s₁₁ l11 => ?_) fun hb2 s₁₁ l11 => ?_
      · rw [if_pos hb2] at hfold
        refine wp_aug ((F9.grow l10).grow l11) n1 (pt_int 1 _ _) (fun v s₁ l1 hv => o_isub ho hv) ?_
        intro v s₁₂ l12 hv s₁₃ F13 B13 g13
        refine wp_if1 (b := decide (o - 1 < 0)) (isTrue_cmp (nm F13 lookup_cons_eq hv) (pt_int 0 _ _) fun _ _ _ _ => o_ltI) (fun hb3 s₁₄ l14 => ?_) fun hb3 s₁₄ l14 => ?_
        · rw [if_pos (of_decide_eq_true hb3)] at hfold
          refine wp_return1 (pt_bool false _ _) fun v s' l' ee => ?_
          refine ⟨la.trans ((F13.grow l14).le.trans l'), ?_⟩
          rw [hE, hfold]; exact ee
        · rw [if_neg (of_decide_eq_false hb3)] at hfold
          exact wp_end (wp_end ⟨_, F13.grow l14, o - 1, v, hv, lookup_cons_eq, hfold⟩)
      · rw [if_neg (by rw [hb2]; decide)] at hfold
        exact wp_end ⟨_, (F9.grow l10).grow l11, o, ov, ho, n1, hfold⟩
  · rintro m s9 F9 ⟨o, ov, ho, m1, hfold⟩
    rw [List.drop_of_length_le (Nat.le_refl _)] at hfold
    rw [hfold] at hE
    refine wp_end ?_
    refine wp_return1 (pv_cmp (nm F9 m1 ho) (pt_int 0 _ _) fun _ _ _ _ => o_eqI) fun v s' l' ee => ⟨F9.le.trans l', ?_⟩
    rw [hE]; exact ee
end
end Mine
end

section
open PySem PySem.W PyProof.Rows PySem.Calls
namespace Mine
section
variable {prog : Program} {w : World} {A : Around} {s₀ s s' : Shared} {env : Env} {m : Mp} {pos p : Pos} {E : Value → Shared → Prop}

/-- range(n), range(a, b) as sources -/
theorem src_range {r : Addr} {a b : Int} {t u v : Tok} {n : Nat} (hh : A.handled = none) (hr : IsRange s.heap r a b 1 t u v) (hs : Builtin.Range.small a b 1 = true) (hn : Builtin.Range.rangeSize a b 1 = n) :
    Src prog w A s (.ref r) [] n (fun i v => IsI (a + i) v) := by
  intro Q E k
  refine wpAny_pyIter_range hr hs ?_
  rw [hn]
  have W := Walks.range (prog := prog) (w := w) hh s.heap.objs.size a 1 n
  have W' : Walks prog w A s.heap.objs.size [s.heap.objs.size] [s.heap.objs.size] n (fun i v => IsI (a + i) v) (fun i h => IsRangeIter h s.heap.objs.size (a + (i : Nat) * 1) ((n : Int) - (i : Nat)) 1) :=
    { W with item := fun i s Q E hi st q => W.item i s Q E hi st fun v h' tk p => q v h' tk (by obtain ⟨t, rfl⟩ := p; exact ⟨t, by rw [Int.mul_one]⟩) }
  refine k _ _ _ _ _ Le.push W' ?_ (fun b hb => by rw [List.mem_singleton.mp hb]; exact new_none _ _ (Nat.le_refl _)) (fun b hb => .inl hb) (fun b hb => by rw [List.mem_singleton.mp hb]; exact ⟨_, Heap.get?_push_size _ rfl⟩) (fun i h st b hb => by rw [List.mem_singleton.mp hb]; exact ⟨_, st⟩)
  have := Heap.get?_push_size s.heap (o := { cls := .type "range_iterator", data := .fields #[rawInt a, rawInt n, rawInt 1] }) rfl
  simpa using this
theorem pt_range1 {nx : Str} {np : Pos} {e : Expr} {j : Int} (hf : PV prog w A s₀ (eval (.Name nx np) env) (fun u => u = .type "range")) (h : PV prog w A s₀ (eval e env) (IsI j))
    (he : starEach (e :: []) env = (false, eval e env) :: starEach [] env := by rfl) :
    PT prog w A s₀ (eval (.Call (.Name nx np) [e] [] pos) env) (fun v s' => ∃ r t u x, v = .ref r ∧ IsRange s'.heap r 0 j 1 t u x) :=
  pt_callT hf (argv1 h he) (fun vs s' l' hv => by
    obtain ⟨v, rfl, t, rfl⟩ := hv
    exact fun s Q E l q => call_range_1 (q _ _ Le.push ⟨_, _, _, _, rfl, IsRange.new ..⟩)) he rfl
theorem pt_range2 {nx : Str} {np : Pos} {e f : Expr} {i j : Int} (hf : PV prog w A s₀ (eval (.Name nx np) env) (fun u => u = .type "range")) (h : PV prog w A s₀ (eval e env) (IsI i)) (h2 : PV prog w A s₀ (eval f env) (IsI j))
    (he : starEach (e :: [f]) env = (false, eval e env) :: starEach [f] env := by rfl) (hf2 : starEach (f :: []) env = (false, eval f env) :: starEach [] env := by rfl) (hp : (backTo pos (starEach [f] env)).any (·.1) = false := by rfl) :
    PT prog w A s₀ (eval (.Call (.Name nx np) [e, f] [] pos) env) (fun v s' => ∃ r t u x, v = .ref r ∧ IsRange s'.heap r i j 1 t u x) :=
  pt_callT hf (argv2 h h2 he hf2) (fun vs s' l' hv => by
    obtain ⟨v, v', rfl, ⟨t, rfl⟩, u, rfl⟩ := hv
    exact fun s Q E l q => call_range_2 (q _ _ Le.push ⟨_, _, _, _, rfl, IsRange.new ..⟩)) he hp

/-- a comprehension's own variable -/
theorem nm_x {cenv : Env} {x : Str} {v : Value} {q : Value → Prop} (hN : ∃ mc, s.heap.Ns cenv.locals mc ∧ mc x = some v) (hq : q v) (hk : cenv.scope.kind = .function := by rfl) (hl : cenv.kindOf x = some .local := by rfl) (hd : (x == ("__debug__" : Str)) = false := by decide) :
    PV prog w A s (eval (.Name x pos) cenv) q := by
  obtain ⟨mc, hn, e⟩ := hN
  intro s₁ Q E l k
  exact wpAny_Name (wpAny_loadName_local hk hl (hn.keeps l.keep) e (k _ _ (Le.refl _) hq)) hd
/-- a name of the frame around, in a comprehension -/
theorem nm_f {cenv : Env} {y : Str} {u : Value} {c : Addr} {q : Value → Prop} (F : Fm s₀ env m s) (hv : m.lookup y = some u) (hq : q u) (hk : env.kindOf y = some .cell := by rfl) (hc : env.cells.lookup y = some c := by rfl)
    (hl : cenv.kindOf y = some .free ∨ cenv.kindOf y = some .cell := by first | exact Or.inl rfl | exact Or.inr rfl) (hc' : cenv.cells.lookup y = some c := by rfl) (hf : cenv.scope.kind = .function := by rfl)
    (hd : (y == ("__debug__" : Str)) = false := by decide) (hcd : (y == ("__classdict__" : Str)) = false := by decide) : PV prog w A s (eval (.Name y pos) cenv) q := by
  obtain ⟨ov, hi, e⟩ := F.cell y c hc
  have := e u hv hk
  subst this
  exact (pt_free hf hi hl hc' hd hcd).mono fun _ _ _ e => e ▸ hq

/-- what a comprehension over n items leaves: the values of those kept -/
structure CompOut (s₀ s' : Shared) (D : Addr) (X : List Addr) (vs : List Value) (n : Nat) (keep : Nat → Bool) (R : List Addr → Nat → Value → Shared → Prop) : Prop where
  new : s₀.heap.get? D = none
  plain : s'.heap.PlainList D vs.toArray
  all : All2 (fun v i => R X i v s') vs ((List.range n).filter keep)
  inX : D ∈ X

theorem range_filter_succ {n : Nat} (keep : Nat → Bool) : (List.range (n + 1)).filter keep = (List.range n).filter keep ++ if keep n then [n] else [] := by
  rw [List.range_succ, List.filter_append]
  cases h : keep n <;> simp [h]

/-- the loop of a list comprehension of one clause -/
theorem comp_run {elt iter : Expr} {x : Str} {px : Pos} {ifs : List Expr} {scope : Scope} {cl : List (Str × Addr)} {I : Addr} {fp wr : List Addr} {n : Nat} {P : Nat → Value → Prop} {St : Nat → Heap → Prop} {s₂ : Shared} {Z : List Addr} (hZ : ∀ b ∈ Z, ∃ o, s₀.heap.get? b = some o)
    (W : Walks prog w A I fp wr n P St) (hsz : n ≤ sizeLine) (keep : Nat → Bool) (R : List Addr → Nat → Value → Shared → Prop) {RR : Value → Addr → Result → Shared → Prop}
    (hcell : ∀ y ∈ scope.names, y.2 ≠ .cell) (hkind : scope.kind = .function) (hx : scope.names.lookup x = some .local)
    (l : Le s₀ s₂) (hst : St 0 s₂.heap) (hwr : ∀ b ∈ wr, s₀.heap.get? b = none) (hfp : ∀ b ∈ fp, ∃ o, s₂.heap.get? b = some o) (hwx : ∀ i h, St i h → ∀ b ∈ wr, ∃ o, h.get? b = some o)
    (hR : ∀ X i v s s', R X i v s → (∀ b o, b ∉ X → s.heap.get? b = some o → s'.heap.get? b = some o) → s.toks ≤ s'.toks → R X i v s')
    (hturn : ∀ X C i v s, i < n → P i v → Le s₀ s → (∀ b ∈ X, ∃ o, s.heap.get? b = some o) → (∃ mc, s.heap.Ns C mc ∧ mc x = some v) →
      PT prog w A s (forIn ifs true fun c r => if r = true then do let ok ← isTrue c (compEnvC scope cl C env) (eval c (compEnvC scope cl C env)); pure (ForInStep.yield ok) else pure (ForInStep.yield r)) (fun ok _ => ok = keep i) ∧
      (keep i = true → ∀ s', Le s s' → PT prog w A s' (eval elt (compEnvC scope cl C env)) (fun y s'' => R X i y s'')))
    (hRR : ∀ D C X vs s' mc, Le s₀ s' → CompOut s₀ s' D X vs n keep R → s₀.heap.get? C = none → (∀ b ∈ Z, b ∈ X) → C ∈ X → C ≠ D → s'.heap.Ns C mc → RR (.ref D) C (.ok .next) s') :
    wpAny (model prog w) A (newList []) (fun acc s₃ => wpAny (model prog w) A (newFunctionEnv scope env.globals cl [] env.qual none .none (some env)) (fun cenv s₄ =>
      codeAny (model prog w) A (.compStart (.ListComp elt [⟨.Name x px, iter, ifs, 0⟩] scope pos) 0 (.ref I) acc { cenv with scope := relabel scope env }) (RR acc cenv.locals) s₄) E s₃) E s₂ := by
  refine wpAny_newObj_type (wpAny_newFunctionEnv hcell (by intro y hy; simp at hy) (fun h₁ hns₁ hsb₁ => ?_) hkind)
  dsimp only at hns₁ hsb₁ ⊢
  generalize hH2 : s₂.heap.push { cls := .type "list", dict := none, data := .seq ([] : List Value).toArray } = H2 at hns₁ hsb₁ ⊢
  have hC : H2.objs.size = s₂.heap.objs.size + 1 := by rw [← hH2, Heap.size_push]
  have hDC : s₂.heap.objs.size ≠ H2.objs.size := by rw [hC]; exact Nat.ne_of_lt (Nat.lt_succ_self _)
  have below : ∀ b, b < s₂.heap.objs.size → b ≠ H2.objs.size ∧ b ≠ s₂.heap.objs.size := fun b hb => ⟨by rw [hC]; exact Nat.ne_of_lt (Nat.lt_succ_of_lt hb), Nat.ne_of_lt hb⟩
  have hfp' : ∀ b ∈ fp, b < s₂.heap.objs.size := fun b hb => (by obtain ⟨o, e⟩ := hfp b hb; exact Heap.lt_size e)
  have hDf : s₂.heap.objs.size ∉ fp := fun hm => Nat.lt_irrefl _ (hfp' _ hm)
  have hCf : H2.objs.size ∉ fp := fun hm => by have := hfp' _ hm; rw [hC] at this; exact Nat.lt_irrefl _ (Nat.lt_of_succ_lt this)
  have old : ∀ b o, s₂.heap.get? b = some o → h₁.get? b = some o := fun b o e => hsb₁.extBut b o (below b (Heap.lt_size e)).1 (Heap.get?_push_of_some _ (hH2 ▸ Heap.get?_push_of_some _ e))
  have hacc : h₁.PlainList s₂.heap.objs.size #[] := ⟨_, hsb₁.extBut _ _ hDC (Heap.get?_push_of_some _ (hH2 ▸ Heap.get?_push_size _ rfl))⟩
  have hst₁ : St 0 h₁ := W.frame _ _ _ hst fun b _ o e => old b o e
  have fresh : ∀ a, s₂.heap.objs.size ≤ a → s₀.heap.get? a = none := fun a ha => none_le l (new_none _ _ ha)
  generalize hDD : s₂.heap.objs.size = D at *
  generalize hCC : H2.objs.size = C at *
  have hX0 : ∀ b ∈ D :: C :: wr, s₀.heap.get? b = none := fun b hb => by
    rcases List.mem_cons.mp hb with rfl | hb
    · exact fresh _ (Nat.le_refl _)
    · rcases List.mem_cons.mp hb with rfl | hb
      · exact fresh _ (by rw [hC]; exact Nat.le_succ _)
      · exact hwr b hb
  have hDC' : D ≠ C := hDC
  have hX1 : ∀ b, b ∉ D :: C :: (wr ++ Z) → b ∉ D :: C :: wr := fun b h q => h (by
    rcases List.mem_cons.mp q with rfl | q
    · exact .head _
    · rcases List.mem_cons.mp q with rfl | q
      · exact List.mem_cons_of_mem _ (.head _)
      · exact List.mem_cons_of_mem _ (List.mem_cons_of_mem _ (List.mem_append_left _ q)))
  have hXZ : ∀ b, b ∈ D :: C :: (wr ++ Z) → b ∈ D :: C :: wr ∨ b ∈ Z := fun b q => by
    rcases List.mem_cons.mp q with rfl | q
    · exact .inl (.head _)
    · rcases List.mem_cons.mp q with rfl | q
      · exact .inl (List.mem_cons_of_mem _ (.head _))
      · exact (List.mem_append.mp q).imp (fun q => List.mem_cons_of_mem _ (List.mem_cons_of_mem _ q)) id
  have hDw : D ∉ wr := fun h => hDf (W.sub _ h)
  have hCw : C ∉ wr := fun h => hCf (W.sub _ h)
  have hS : ∀ s₃ : Shared, s₃ = { s₂ with heap := h₁, toks := s₂.toks + ([] : List (Str × Value)).length } → Le s₀ s₃ := by
    rintro s₃ rfl
    exact l.trans (.of_same (fun b o e => old b o e) rfl rfl)
  have loop : ∀ s₃ : Shared, s₃ = { s₂ with heap := h₁, toks := s₂.toks + ([] : List (Str × Value)).length } →
      codeAny (model prog w) A (.compLoop (.ListComp elt [⟨.Name x px, iter, ifs, 0⟩] scope pos) 0 (.ref I) (.ref D) (compEnvC scope cl C env)) (RR (.ref D) C) s₃ := by
    intro s₃ hs₃
    obtain ⟨Iv, hIv⟩ : ∃ I : Nat → Shared → Prop, ∀ k s', I k s' ↔ ∃ i vs mc, i ≤ n ∧ k = n + 1 - i ∧ Le s₀ s' ∧ s'.heap.Ns C mc ∧ s'.heap.PlainList D (vs : List Value).toArray ∧ vs.length ≤ i ∧ All2 (fun v i => R (D :: C :: (wr ++ Z)) i v s') vs ((List.range i).filter keep) ∧ St i s'.heap ∧ (∀ b ∈ D :: C :: wr, ∃ o, s'.heap.get? b = some o) := ⟨_, fun _ _ => Iff.rfl⟩
    refine codeAny_compLoop_tests Iv ?_ (n + 1)
      ((hIv _ _).mpr ⟨0, [], _, Nat.zero_le _, rfl, hS s₃ hs₃, by rw [hs₃]; exact hns₁, by rw [hs₃]; exact hacc, Nat.le_refl _, .nil, by rw [hs₃]; exact hst₁, ?_⟩)
    · intro k s' hIk
      generalize (notedBy (model prog w) A (compEnvC scope cl C env) fun e s' => RR (Value.ref D) C (.error e) s') = E1
      obtain ⟨i, vs, mc, hi, hk0, l', hn, hpl, hlen, hall, hst', hex⟩ := (hIv k s').mp hIk
      by_cases hlt : i < n
      · refine wp_tk (W.item i s' _ _ hlt hst' fun v h' tk hP hst'' hk htk => ?_)
        have hkX : ∀ b o, b ∉ D :: C :: wr → s'.heap.get? b = some o → h'.get? b = some o := fun b o hb e => hk b o (fun q => hb (List.mem_cons_of_mem _ (List.mem_cons_of_mem _ q))) e
        refine wpAny_assign_Name (wpAny_storeName_local (env := compEnvC scope cl C env) (lookup_relabel_local hx) (hn.at' fun o e => hk _ o hCw e) (fun h₂ hn₂ hs₂ => ?_) (by simp [compEnvC, relabel, hkind]))
        have hkX₂ : ∀ b o, b ∉ D :: C :: wr → s'.heap.get? b = some o → h₂.get? b = some o := fun b o hb e => hs₂.extBut b o (fun q => hb (by rw [q]; exact List.mem_cons_of_mem _ (.head _))) (hkX b o hb e)
        have l₂ : Le s₀ { s' with heap := h₂, toks := tk + 1 } := ⟨fun b o e => hkX₂ b o (fun q => by rw [hX0 b q] at e; cases e) (l'.keep b o e), l'.gens, l'.bare, l'.os, Nat.le_trans l'.tk (Nat.le_succ_of_le htk)⟩
        have hex₂ : ∀ b ∈ D :: C :: wr, ∃ o, h₂.get? b = some o := fun b hb => by
          by_cases q : b = C
          · obtain ⟨o, _, _, e, _⟩ := hn₂; exact ⟨o, by rw [q]; exact e⟩
          · by_cases q2 : b ∈ wr
            · obtain ⟨o, e⟩ := hwx _ _ hst'' b q2
              exact ⟨o, hs₂.extBut b o q e⟩
            · obtain ⟨o, e⟩ := hex b hb
              exact ⟨o, hs₂.extBut b o q (hk b o q2 e)⟩
        obtain ⟨ht, he⟩ := hturn (D :: C :: (wr ++ Z)) C i v { s' with heap := h₂, toks := tk + 1 } hlt hP l₂ (fun b hb => (hXZ b hb).elim (hex₂ b) fun hb => (by obtain ⟨o, e⟩ := hZ b hb; exact ⟨o, l₂.keep b o e⟩)) ⟨_, hn₂, by simp⟩
        refine ht.use fun ok s₃' l₃ ek => ?_
        subst ek
        have hst₂ : St (i + 1) h₂ := W.frame _ _ _ hst'' fun b hb o e => hs₂.extBut b o (fun q => hCf (by rw [show b = C from q] at hb; exact hb)) e
        have hkX₃ : ∀ b o, b ∉ D :: C :: wr → s'.heap.get? b = some o → s₃'.heap.get? b = some o := fun b o hb e => l₃.keep b o (hkX₂ b o hb e)
        have hall₃ := hall.mono fun v i r => hR _ _ _ _ s₃' r (fun b o hb e => hkX₃ b o (hX1 b hb) e) (Nat.le_trans (Nat.le_succ_of_le htk) l₃.tk)
        have hpl₃ : s₃'.heap.PlainList D vs.toArray := hpl.at fun o e => l₃.keep _ o (hs₂.extBut _ o hDC' (hk _ o hDw e))
        cases hkp : keep i with
        | false =>
          rw [if_neg (by decide)]
          refine ⟨n + 1 - (i + 1), cd_lt hk0 hlt, (hIv _ _).mpr ⟨i + 1, vs, _, hlt, rfl, l₂.trans l₃, hn₂.keeps l₃.keep, hpl₃, by (first | with_reducible assumption | exact Nat.le_succ_of_le (by with_reducible assumption) | omega), ?_, W.frame _ _ _ hst₂ fun b hb o e => l₃.keep b o e, fun b hb => (by obtain ⟨o, e⟩ := hex₂ b hb; exact ⟨o, l₃.keep b o e⟩)⟩⟩
          rw [range_filter_succ, hkp]
          simpa using hall₃
        | true =>
          rw [if_pos rfl]
          refine (he hkp s₃' l₃).use fun y s₄ l₄ hy => ?_
          have hpl₄ : s₄.heap.PlainList D vs.toArray := hpl₃.at fun o e => l₄.keep _ o e
          refine wpAny_list_append_plain (hsz := by rw [List.size_toArray]; (first | with_reducible assumption | exact Nat.le_succ_of_le (by with_reducible assumption) | omega)) hpl₄ fun h₅ hp₅ hs₅ => ?_
          have l₅ : ∀ b o, b ∉ D :: C :: wr → s₄.heap.get? b = some o → h₅.get? b = some o := fun b o hb e => hs₅.extBut b o (fun q => hb (by rw [q]; exact .head _)) e
          have hpe : vs.toArray.push y = (vs ++ [y]).toArray := by simp
          rw [hpe] at hp₅
          refine ⟨n + 1 - (i + 1), cd_lt hk0 hlt, (hIv _ _).mpr ⟨i + 1, vs ++ [y], _, hlt, rfl, ?_, ((hn₂.keeps l₃.keep).keeps l₄.keep).extBut hs₅.extBut (Ne.symm hDC'), hp₅, by rw [List.length_append]; simp; (first | with_reducible assumption | exact Nat.le_succ_of_le (by with_reducible assumption) | omega), ?_, W.frame _ _ _ hst₂ fun b hb o e => hs₅.extBut b o (fun q => hDf (q ▸ hb)) (l₄.keep b o (l₃.keep b o e)), fun b hb => ?_⟩⟩
          · exact ⟨fun b o e => l₅ b o (fun q => by rw [hX0 b q] at e; cases e) (((l₂.trans l₃).trans l₄).keep b o e), ((l₂.trans l₃).trans l₄).gens, ((l₂.trans l₃).trans l₄).bare, ((l₂.trans l₃).trans l₄).os, ((l₂.trans l₃).trans l₄).tk⟩
          · rw [range_filter_succ, hkp]
            refine All2.snoc (hall₃.mono fun v i r => hR _ _ _ _ { s₄ with heap := h₅ } r (fun b o hb e => l₅ b o (hX1 b hb) (l₄.keep b o e)) l₄.tk) (hR _ _ _ _ { s₄ with heap := h₅ } hy (fun b o hb e => l₅ b o (hX1 b hb) e) (Nat.le_refl _))
          · by_cases q : b = D
            · obtain ⟨n, e⟩ := hp₅; exact ⟨_, by rw [q]; exact e⟩
            · obtain ⟨o, e⟩ := hex₂ b hb
              exact ⟨o, hs₅.extBut b o q (l₄.keep b o (l₃.keep b o e))⟩
      · have hin : n = i := (end_eq hi hlt).symm
        clear hIk
        subst hin
        refine wp_tk (W.done s' _ _ hst' fun h' tk hk htk => ?_)
        have hkX : ∀ b o, b ∉ D :: C :: wr → s'.heap.get? b = some o → h'.get? b = some o := fun b o hb e => hk b o (fun q => hb (List.mem_cons_of_mem _ (List.mem_cons_of_mem _ q))) e
        refine hRR D C (D :: C :: (wr ++ Z)) vs _ mc ⟨fun b o e => hkX b o (fun q => by rw [hX0 b q] at e; cases e) (l'.keep b o e), l'.gens, l'.bare, l'.os, Nat.le_trans l'.tk htk⟩ ⟨hX0 _ (.head _), hpl.at fun o e => hk _ o hDw e, ?_, .head _⟩ (hX0 _ (List.mem_cons_of_mem _ (.head _))) (fun b hb => List.mem_cons_of_mem _ (List.mem_cons_of_mem _ (List.mem_append_right _ hb))) (List.mem_cons_of_mem _ (.head _)) (Ne.symm hDC) (hn.at' fun o e => hk _ o hCw e)
        exact hall.mono fun v i r => hR _ _ _ _ _ r (fun b o hb e => hkX b o (hX1 b hb) e) htk
    · intro b hb
      rw [hs₃]
      rcases List.mem_cons.mp hb with rfl | hb
      · obtain ⟨n, e⟩ := hacc; exact ⟨_, e⟩
      · rcases List.mem_cons.mp hb with rfl | hb
        · obtain ⟨o, _, _, e, _⟩ := hns₁; exact ⟨o, e⟩
        · obtain ⟨o, e⟩ := hfp b (W.sub b hb)
          exact ⟨o, old b o e⟩
  exact codeAny_compStart_list (loop _ rfl) (W.self 0 _ _ _ hst₁ (loop _ rfl))

/-- what a turn of a comprehension is asked -/
noncomputable def CompTurn (prog : Program) (w : World) (A : Around) (s₀ : Shared) (env : Env) (elt : Expr) (x : Str) (ifs : List Expr) (scope : Scope) (cl : List (Str × Addr)) (n : Nat) (P : Nat → Value → Prop) (keep : Nat → Bool) (R : List Addr → Nat → Value → Shared → Prop) : Prop :=
  ∀ X C i v s, i < n → P i v → Le s₀ s → (∀ b ∈ X, ∃ o, s.heap.get? b = some o) → (∃ mc, s.heap.Ns C mc ∧ mc x = some v) →
      PT prog w A s (forIn ifs true fun c r => if r = true then do let ok ← isTrue c (compEnvC scope cl C env) (eval c (compEnvC scope cl C env)); pure (ForInStep.yield ok) else pure (ForInStep.yield r)) (fun ok _ => ok = keep i) ∧
      (keep i = true → ∀ s', Le s s' → PT prog w A s' (eval elt (compEnvC scope cl C env)) (fun y s'' => R X i y s''))
noncomputable def RKeep (R : List Addr → Nat → Value → Shared → Prop) : Prop := ∀ X i v s s', R X i v s → (∀ b o, b ∉ X → s.heap.get? b = some o → s'.heap.get? b = some o) → s.toks ≤ s'.toks → R X i v s'

theorem pt_listcomp {elt iter : Expr} {x : Str} {px : Pos} {ifs : List Expr} {scope : Scope} {cl : List (Str × Addr)} {n : Nat} {P : Nat → Value → Prop} {PI : Value → Shared → Prop} (keep : Nat → Bool) (R : List Addr → Nat → Value → Shared → Prop)
    (hi : PT prog w A s₀ (eval iter env) PI) (hsrc : ∀ v s₁, Le s₀ s₁ → PI v s₁ → ∃ src, Src prog w A s₁ v src n P) (hsz : n ≤ sizeLine) (hR : RKeep R)
    (hturn : CompTurn prog w A s₀ env elt x ifs scope cl n P keep R)
    (hclos : closureFor scope env = pure cl := by rfl) (hcell : ∀ y ∈ scope.names, y.2 ≠ .cell := by decide) (hkind : scope.kind = .function := by rfl)
    (hnames : ∀ y ∈ scope.names, y.2 = .local → scope.names.lookup y.1 = some .local := by decide) (hx : scope.names.lookup x = some .local := by rfl)
    (hs : ∀ x, foldedSetIterable iter env x = pure x := by intro _; rfl) :
    PT prog w A s₀ (eval (.ListComp elt [⟨.Name x px, iter, ifs, 0⟩] scope pos) env) (fun v s' => ∃ D vs X, v = .ref D ∧ CompOut s₀ s' D X vs n keep R) := by
  intro s Q E l q
  rw [eval_ListComp]
  refine wpAny_comprehension_free (use := none) rfl hs hclos hkind hnames (hi s _ E l fun v s₁ l1 p1 => (hsrc v s₁ (l.trans l1) p1).elim fun _ hsr => hsr _ E fun I fp wr St s₂ l2 W st0 hwr hfs hfp hwx => ?_)
  refine comp_run (s₀ := s) (Z := []) (fun b hb => nomatch hb) (RR := fun acc C => compPost (model prog w) A E none Q acc C) W hsz keep R hcell hkind hx (l1.trans l2) st0 (fun b hb => none_le l1 (hwr b hb)) hfp hwx hR (fun X C i v s' h1 h2 h3 => hturn X C i v s' h1 h2 (l.trans h3)) ?_
  intro D C X vs s' mc l' ho hC0 _ hCX hCD hn
  refine ⟨mc, hn, fun h' hs' => ?_⟩
  have hk : ∀ b o, b ≠ C → s'.heap.get? b = some o → h'.get? b = some o := fun b o hb e => hs'.extBut b o hb e
  refine q _ _ ⟨fun b o e => hk b o (fun q => by rw [q] at e; have := l'.keep; rw [hC0] at e; cases e) (l'.keep b o e), l'.gens, l'.bare, l'.os, l'.tk⟩ ⟨D, vs, X, rfl, none_le l ho.new, ho.plain.at fun o e => hk D o (Ne.symm hCD) e, ho.all.mono fun v i r => hR _ _ _ _ _ r (fun b o hb e => hk b o (fun q => hb (q ▸ hCX)) e) (Nat.le_refl _), ho.inX⟩

/-- y = [a comprehension], into a def's own name -/
theorem wp_assign_comp {elt iter : Expr} {x y : Str} {px py spos : Pos} {ifs : List Expr} {scope : Scope} {cl : List (Str × Addr)} {n : Nat} {P : Nat → Value → Prop} {PI : Value → Shared → Prop} {rest : List Stmt} {Q : Flow → Shared → Prop} (keep : Nat → Bool) (R : List Addr → Nat → Value → Shared → Prop)
    (F : Fm s₀ env m s)
    (hi : PT prog w A s (eval iter env) PI) (hsrc : ∀ v s₁, Le s s₁ → PI v s₁ → ∃ src, Src prog w A s₁ v src n P) (hsz : n ≤ sizeLine) (hR : RKeep R)
    (hturn : CompTurn prog w A s env elt x ifs scope cl n P keep R)
    (k : ∀ D vs X s₂, CompOut s s₂ D X vs n keep R → Fm s₀ env ((y, .ref D) :: m) s₂ → Beside env s s₂ → (∀ b ∈ fAd env, b ∈ X) → wpAny (model prog w) A (execs rest env) Q E s₂)
    (hsw : swapsWith (.ListComp elt [⟨.Name x px, iter, ifs, 0⟩] scope pos) (some (.Name y py)) spos.line env = pure true := by rfl)
    (hclos : closureFor scope env = pure cl := by rfl) (hcell : ∀ y ∈ scope.names, y.2 ≠ .cell := by decide) (hkind : scope.kind = .function := by rfl)
    (hnames : ∀ y ∈ scope.names, y.2 = .local → scope.names.lookup y.1 = some .local := by decide) (hx : scope.names.lookup x = some .local := by rfl) (hy : env.kindOf y = some .local := by rfl)
    (hs : ∀ x, foldedSetIterable iter env x = pure x := by intro _; rfl) :
    wpAny (model prog w) A (execs (.Assign [.Name y py] (.ListComp elt [⟨.Name x px, iter, ifs, 0⟩] scope pos) spos :: rest) env) Q E s := by
  refine wp_cons ?_
  rw [exec_Assign_Name_used _ _ _ _ hsw]
  refine wpAny_bind (wpAny_standAt (wpAny_bind ?_))
  show wpAny _ A (do let _ ← comprehension (.ListComp elt [⟨.Name x px, iter, ifs, 0⟩] scope pos) scope env _ (newList []) false (eval iter env) (some (assign (.Name y py) env))) _ _ s
  refine wpAny_bind (wpAny_mono (wpAny_comprehension_free (use := some (assign (.Name y py) env)) (Q := fun _ s' => wpAny (model prog w) A (execs rest env) Q E s') rfl hs hclos hkind hnames
    (hi.use fun v s₁ l1 p1 => (hsrc v s₁ l1 p1).elim fun _ hsr => hsr _ E fun I fp wr St s₂ l2 W st0 hwr hfs hfp hwx => ?_)) (fun _ s' hq => wpAny_pure (wpAny_pure hq)) fun _ _ e => e)
  refine comp_run (s₀ := s) (Z := fAd env) F.there (RR := fun acc C => compPost (model prog w) A E (some (assign (.Name y py) env)) (fun _ s' => wpAny (model prog w) A (execs rest env) Q E s') acc C) W hsz keep R hcell hkind hx (l1.trans l2) st0 (fun b hb => none_le l1 (hwr b hb)) hfp hwx hR hturn ?_
  intro D C X vs s' mc l' ho hC0 hZ hCX hCD hn
  obtain ⟨hCf, hC00⟩ := F.fresh hC0
  obtain ⟨hDf, hD00⟩ := F.fresh ho.new
  show wpAny _ A (assign (.Name y py) env (.ref D)) _ _ _
  refine wpAny_assign_Name (wp_tk (wp_store (F.grow l') (.inl hy) fun s₃ F₃ B₃ g₃ htk3 => ⟨mc, hn.at' fun o e => B₃ C o hCf e, fun h' hs' => ?_⟩))
  have hk : ∀ b o, b ≠ C → s₃.heap.get? b = some o → h'.get? b = some o := fun b o hb e => hs'.extBut b o hb e
  refine k D vs X { s₃ with heap := h' } ⟨ho.new, ho.plain.at fun o e => hk D o (Ne.symm hCD) (B₃ D o hDf e), ho.all.mono fun v i r => hR _ _ _ _ _ r (fun b o hb e => hk b o (fun q => hb (q ▸ hCX)) (B₃ b o (fun q => hb (hZ b q)) e)) htk3, ho.inX⟩
    (F₃.mut (tk := s₃.toks) (ch := [C]) (fun b o hb e => hk b o (fun q => hb (by simp [q])) e) (fun b hb => by rw [List.mem_singleton.mp hb]; exact hC00) fun b hb => by rw [List.mem_singleton.mp hb]; exact hCf)
    (fun b o hb e => hk b o (fun q => by rw [q, hC0] at e; cases e) (B₃ b o hb (l'.keep b o e))) hZ
end
end Mine
end

section
open PySem PySem.W PyProof.Rows PySem.Calls
namespace Mine
section
variable {prog : Program} {w : World} {A : Around} {s₀ s s' : Shared} {env : Env} {m : Mp} {E : Value → Shared → Prop}

theorem next_strT {it : Addr} {x : Str} {t : Tok} {i c : Nat} {Q : Value → Shared → Prop} (hit : s.heap.IsStrIter it (strIterType x) x t i) (hx : x.cps[i]? = some c)
    (hQ : ∀ h', h'.IsStrIter it (strIterType x) x t (i + 1) → Heap.SameBut it s.heap h' → Q (.str ⟨#[c]⟩ s.toks) { s with heap := h', toks := s.toks + 1 }) :
    wpAny (model prog w) A (Builtin.SmallTypes.nextOf (.ref it)) Q E s := by
  unfold strIterType at hit hQ
  split at hit
  · rename_i h; rw [if_pos h] at hQ; exact wpAny_nextOf_ascii_item hit hx hQ
  · rename_i h; rw [if_neg h] at hQ; exact wpAny_nextOf_wide_item hit hx hQ

/-- enumerate over a text: the sign's token is a new one -/
theorem enum_next_strT {e it : Addr} {x : Str} {t : Tok} {i c : Nat} {old : Value} {Q : Value → Shared → Prop}
    (he : IsEnum s.heap e it i old) (hit : s.heap.IsStrIter it (strIterType x) x t i) (hx : x.cps[i]? = some c) (hne : e ≠ it)
    (hQ : ∀ T h', IsEnumOut h' e it ((i : Int) + 1) (.str ⟨#[c]⟩ s.toks) T → h'.IsStrIter it (strIterType x) x t (i + 1) → T ≠ e → T ≠ it →
      h'.IsTuple T #[.int i (s.toks + 1), .str ⟨#[c]⟩ s.toks] → (∀ b o, b ≠ e → b ≠ it → s.heap.get? b = some o → h'.get? b = some o) → Q (.ref T) { s with heap := h', toks := s.toks + 1 + 1 }) :
    wpAny (model prog w) A (Builtin.«enumerate.__next__» ⟨[.ref e], []⟩) (fun fin s' => ∃ v, fin = .done (.ret v) ∧ Q v s') E s := by
  obtain ⟨hp, g, d, tk₀, os⟩ := s
  show wpAny _ _ (field (.ref e) 2 >>= _) _ _ _
  refine wpAny_bind (wpAny_field he rfl (x := .ref it) rfl ?_)
  refine wpAny_bind (next_strT hit hx fun h₁ hit₁ hs₁ => ?_)
  replace hs₁ : Heap.SameBut it hp h₁ := hs₁
  have he₁ : IsEnum h₁ e it i old := (hs₁.2 e hne).trans he
  show wpAny _ _ (field (.ref e) 3 >>= _) _ _ ⟨h₁, g, d, tk₀ + 1, os⟩
  refine wpAny_bind (wpAny_field he₁ rfl (x := rawInt i) rfl ?_)
  show wpAny _ _ (field (.ref e) 4 >>= _) _ _ ⟨h₁, g, d, tk₀ + 1, os⟩
  refine wpAny_bind (wpAny_field he₁ rfl (x := .none) rfl ?_)
  show wpAny _ _ (mkInt i >>= _) _ _ ⟨h₁, g, d, tk₀ + 1, os⟩
  refine wpAny_bind (wpAny_mkInt ?_)
  show wpAny _ _ (setField (.ref e) 3 (rawInt ((i : Int) + 1)) >>= _) _ _ ⟨h₁, g, d, tk₀ + 1 + 1, os⟩
  refine wpAny_bind (wpAny_setField_rec he₁ (by simp) fun h₂ he₂ hs₂ => ?_)
  replace hs₂ : Heap.SameBut e h₁ h₂ := hs₂
  replace he₂ : IsEnum h₂ e it ((i : Int) + 1) old := he₂
  show wpAny _ _ (setField (.ref e) 4 .none >>= _) _ _ ⟨h₂, g, d, tk₀ + 1 + 1, os⟩
  refine wpAny_bind (wpAny_setField_rec he₂ (by simp) fun h₃ he₃ hs₃ => ?_)
  replace hs₃ : Heap.SameBut e h₂ h₃ := hs₃
  replace he₃ : IsEnum h₃ e it ((i : Int) + 1) old := he₃
  show wpAny _ _ (newTuple [.int i (tk₀ + 1), .str ⟨#[c]⟩ tk₀] >>= _) _ _ ⟨h₃, g, d, tk₀ + 1 + 1, os⟩
  refine wpAny_bind (wpAny_newTuple ?_)
  have hit₃ : h₃.IsStrIter it (strIterType x) x t (i + 1) := (by obtain ⟨o, e', r⟩ := hit₁; exact ⟨o, hs₃.extBut it o (Ne.symm hne) (hs₂.extBut it o (Ne.symm hne) e'), r⟩)
  have hel : e < hp.objs.size := Heap.lt_size he
  have hil : it < hp.objs.size := by obtain ⟨o, e', _⟩ := hit; exact Heap.lt_size e'
  have hsz : h₃.objs.size = hp.objs.size := by rw [hs₃.1, hs₂.1, hs₁.1]
  have he₄ : IsEnum (h₃.push { cls := .type "tuple", data := .seq #[.int i (tk₀ + 1), .str ⟨#[c]⟩ tk₀] }) e it ((i : Int) + 1) old := Heap.get?_push_of_some _ he₃
  have hit₄ : (h₃.push { cls := .type "tuple", data := .seq #[.int i (tk₀ + 1), .str ⟨#[c]⟩ tk₀] }).IsStrIter it (strIterType x) x t (i + 1) := let ⟨o, e', r⟩ := hit₃; ⟨o, Heap.get?_push_of_some _ e', r⟩
  have ht₄ : (h₃.push { cls := .type "tuple", data := .seq #[.int i (tk₀ + 1), .str ⟨#[c]⟩ tk₀] }).get? h₃.objs.size = some _ := Heap.get?_push_size _ rfl
  have hk₄ : ∀ b o, b ≠ e → b ≠ it → hp.get? b = some o → (h₃.push { cls := .type "tuple", data := .seq #[.int i (tk₀ + 1), .str ⟨#[c]⟩ tk₀] }).get? b = some o := fun b o hbe hbi hb =>
    Heap.get?_push_of_some _ (hs₃.extBut b o hbe (hs₂.extBut b o hbe (hs₁.extBut b o hbi hb)))
  generalize h₃.push { cls := .type "tuple", data := .seq #[.int i (tk₀ + 1), .str ⟨#[c]⟩ tk₀] } = h₄ at he₄ hit₄ ht₄ hk₄
  have hTe : h₃.objs.size ≠ e := by rw [hsz]; exact Nat.ne_of_gt hel
  have hTi : h₃.objs.size ≠ it := by rw [hsz]; exact Nat.ne_of_gt hil
  generalize h₃.objs.size = T at *
  show wpAny _ _ (Builtin.SmallTypes.ownedTupleIsFree (.ref e) >>= _) _ _ ⟨h₄, g, d, tk₀ + 1 + 1, os⟩
  refine wpAny_bind ?_
  unfold Builtin.SmallTypes.ownedTupleIsFree
  refine wpAny_bind (wpAny_field he₄ rfl (x := .none) rfl (wpAny_pure ?_))
  simp only [if_true]
  refine wpAny_bind (wpAny_rule ?_)
  refine wpAny_bind (wpAny_field he₄ rfl (x := old) rfl ?_)
  refine wpAny_bind (wpAny_setField_rec he₄ (by simp) fun h₅ he₅ hs₅ => ?_)
  replace hs₅ : Heap.SameBut e h₄ h₅ := hs₅
  replace he₅ : IsEnum h₅ e it ((i : Int) + 1) (.str ⟨#[c]⟩ tk₀) := he₅
  show wpAny _ _ (Builtin.SmallTypes.ownedTupleHandOut (.ref e) (.ref T) >>= _) _ _ ⟨h₅, g, d, tk₀ + 1 + 1, os⟩
  refine wpAny_bind ?_
  unfold Builtin.SmallTypes.ownedTupleHandOut
  refine wpAny_bind (wpAny_setField_rec he₅ (by simp) fun h₆ he₆ hs₆ => ?_)
  replace hs₆ : Heap.SameBut e h₅ h₆ := hs₆
  replace he₆ : IsEnumOut h₆ e it ((i : Int) + 1) (.str ⟨#[c]⟩ tk₀) T := he₆
  refine wpAny_setField_rec he₆ (by simp) fun h₇ he₇ hs₇ => ?_
  replace hs₇ : Heap.SameBut e h₆ h₇ := hs₇
  replace he₇ : IsEnumOut h₇ e it ((i : Int) + 1) (.str ⟨#[c]⟩ tk₀) T := he₇
  have up : ∀ b o, b ≠ e → h₄.get? b = some o → h₇.get? b = some o := fun b o hb q => hs₇.extBut b o hb (hs₆.extBut b o hb (hs₅.extBut b o hb q))
  refine wpAny_bind (wpAny_letGo (wpAny_pure ⟨_, rfl, hQ T h₇ he₇ ((by obtain ⟨o, e', r⟩ := hit₄; exact ⟨o, up it o (Ne.symm hne) e', r⟩)) hTe hTi ⟨_, up T _ hTe ht₄, rfl, _, rfl⟩ fun b o hbe hbi hb => up b o hbe (hk₄ b o hbe hbi hb)⟩))

/-- the signs of a text, with tokens not below a line -/
noncomputable def SignT (x : Str) (T : Nat) (i : Nat) (va vb : Value) : Prop := IsI i va ∧ ∃ c t, x.cps[i]? = some c ∧ vb = .str ⟨#[c]⟩ t ∧ T ≤ t
theorem pairs_strT {B : Addr → Prop} {e it : Addr} {x : Str} {t : Tok} {T : Nat} (hh : A.handled = none) (hne : e ≠ it) (he : ¬ B e) (hit : ¬ B it) :
    Pairs prog w A B (fun _ => False) [] e x.cps.size (SignT x T) (fun i s => (∃ old, IsEnum s.heap e it i old) ∧ s.heap.IsStrIter it (strIterType x) x t i ∧ T ≤ s.toks) where
  frame := fun i s s' st hk _ ht => ⟨(by obtain ⟨old, h⟩ := st.1; exact ⟨old, hk e _ (.inl he) h⟩), (by obtain ⟨o, h, r⟩ := st.2.1; exact ⟨o, hk it _ (.inl hit) h, r⟩), Nat.le_trans st.2.2 ht⟩
  item := fun i s Q E hi st _ _ k => by
    obtain ⟨⟨old, hE⟩, hS, hT⟩ := st
    have hx : x.cps[i]? = some x.cps[i] := Array.getElem?_eq_getElem hi
    have hty : s.TypeIs (.ref e) "enumerate" := ⟨_, hE, rfl⟩
    unfold pyNext
    refine wpAny_bind (wpAny_attempt (wpAny_callSpecial?_slot (name := Str.ofString "__next__") hty F.slot_enumerate_next
      (wpAny_call_entry F.slot_enumerate_next hty F.entry_enumerate_next
        (enum_next_strT hE hS hx hne fun TT h' hO hS' hTe hTi hTup hk => wpAny_pure (k TT _ fun elts kk pos Q' E' k' => ?_)) (F.args_enumerate_next_1 _))))
    refine wpAny_letOwnedTupleGo_enum hO fun h'' hE'' hs'' => k' _ _ _ ⟨⟨_, rfl⟩, _, _, hx, rfl, hT⟩ ((by obtain ⟨o, e', r⟩ := hTup; exact ⟨o, hs''.extBut TT o hTe e', r⟩)) ⟨⟨_, by simpa using hE''⟩, ((by obtain ⟨o, e', r⟩ := hS'; exact ⟨o, hs''.extBut it o (Ne.symm hne) e', r⟩)), by show T ≤ s.toks + 1 + 1; omega⟩ ?_
    exact LeB.of_heap (tk := s.toks + 1 + 1) (fun b o hb q => hs''.extBut b o (fun z => he (z ▸ hb)) (hk b o (fun z => he (z ▸ hb)) (fun z => hit (z ▸ hb)) q)) (by omega)
  done := fun s Q E st _ _ k => by
    obtain ⟨⟨old, hE⟩, hS, hT⟩ := st
    by_cases ha : strIterType x = "str_ascii_iterator"
    · rw [ha] at hS
      exact wpAny_pyNext_enum_endD (Draws.strAscii (A := A.in1) hh it x t) hE hS fun h' hx => k _ (LeB.of_heap (tk := s.toks) (fun b o hb q => hx b o (fun z => hit (z ▸ hb)) q) (Nat.le_refl _))
    · have ha' : strIterType x = "str_iterator" := by
        unfold strIterType at ha ⊢
        split at ha <;> simp_all
      rw [ha'] at hS
      exact wpAny_pyNext_enum_endD (Draws.strWide (A := A.in1) hh it x t) hE hS fun h' hx => k _ (LeB.of_heap (tk := s.toks) (fun b o hb q => hx b o (fun z => hit (z ▸ hb)) q) (Nat.le_refl _))
end
end Mine
end

section
open PySem PySem.W PyProof.Rows PySem.Calls
namespace Mine
theorem stat_key (w : World) : nsIn (_root_.Mine.hd.heap_39 w.params) cStatics sharingNotToldKey = some none := by k_is
section
variable {prog : Program} {w : World} {A : Around} {s₀ s s' : Shared} {env : Env} {m : Mp} {pos p : Pos} {E : Value → Shared → Prop}
theorem Tp.booked (T : Tp w s) : NoneBooked s.heap := by
  obtain ⟨mc, hn, _⟩ := T.lim
  refine ⟨mc, hn, ?_⟩
  have e := stat_key w
  obtain ⟨o, es, ep, ho, hd, _, hf⟩ := hn
  unfold nsIn at e
  split at e
  · rename_i c d es' n' sl q
    have := T.k _ _ q
    rw [ho] at this
    cases this
    cases hd
    split at e
    · cases e
    · rename_i he
      rw [← hf]
      unfold nsFind findBy
      rw [← Array.find?_toList, he]
      rfl
  · cases e

/-- two whole numbers of which the tokens tell them apart -/
noncomputable def IntsApart (v u : Value) : Prop := ∃ p q t r, v = .int p t ∧ u = .int q r ∧ t ≠ 0 ∧ r ≠ 0 ∧ smallInt p = true ∧ (p ≠ q → t ≠ r)
theorem o_isI {v u : Value} {p q : Int} (h : IntsApart v u) (hv : IsI p v) (hu : IsI q u) : PV prog w A s₀ (compareOp .Is v u) (IsB (p == q)) := by
  obtain ⟨p', q', t, r, rfl, rfl, h1, h2, h3, h4⟩ := h
  obtain ⟨_, e⟩ := hv; cases e
  obtain ⟨_, e⟩ := hu; cases e
  intro s Q E _ k
  show wpAny (model prog w) A (do return Value.bool (← isSame (.int p t) (.int q r))) _ _ s
  have h0 : (t == 0 || r == 0) = false := by simp [h1, h2]
  refine wpAny_bind ?_
  show wpAny (model prog w) A (if (p == q && smallInt p) = true then isSame.cachedInt t r else isSame.created (p == q) t r) _ _ s
  by_cases e : p = q
  · rw [if_pos (by rw [h3, Bool.and_true]; simpa using e)]
    unfold isSame.cachedInt
    rw [if_neg (by rw [h0]; decide)]
    exact wpAny_bind (wpAny_rule (wpAny_pure (wpAny_pure (k _ _ (Le.refl _) (by simp [e, IsB])))))
  · rw [if_neg (by simp [e])]
    unfold isSame.created
    rw [if_neg (by rw [h0]; decide), if_neg (by simpa using h4 e)]
    have : (p == q) = false := by simpa using e
    rw [this]
    exact wpAny_pure (wpAny_pure (k _ _ (Le.refl _) (by rw [this]; rfl)))
/-- `j is b or j == b`, of whole numbers -/
theorem isTrue_sameI {l r l' r' : Expr} {pa pb pc : Pos} {v u : Value} {p q : Int} {whole : Sem Value} (hl : PV prog w A s₀ (eval l env) (fun x => x = v)) (hr : PV prog w A s₀ (eval r env) (fun x => x = u)) (hl' : PV prog w A s₀ (eval l' env) (fun x => x = v)) (hr' : PV prog w A s₀ (eval r' env) (fun x => x = u))
    (h : IntsApart v u) (hv : IsI p v) (hu : IsI q u) (hm : behindInMarks .Is r = false := by with_unfolding_all rfl) (hm' : behindInMarks .Eq r' = false := by with_unfolding_all rfl) :
    PT prog w A s₀ (isTrue (.BoolOp .Or [.Compare l [.Is] [r] pa, .Compare l' [.Eq] [r'] pb] pc) env whole) (fun c _ => c = (p == q)) := by
  intro s Q E l0 k
  refine isTrue_or ((isTrue_cmp (b' := p == q) (hl.le l0) (hr.le l0) (fun a b s l ha hb => by subst ha hb; exact o_isI h hv hu) hm).use fun c s₁ l1 ec => ?_)
  subst ec
  split
  · rename_i e; exact k _ s₁ l1 (by rw [e])
  · rename_i e
    refine isTrue_or ((isTrue_cmp (b' := p == q) (hl'.le (l0.trans l1)) (hr'.le (l0.trans l1)) (fun a b s l ha hb => by subst ha hb; exact o_eqI hv hu) hm').use fun c s₂ l2 ec => ?_)
    subst ec
    rw [if_neg e]
    exact isTrue_or_nil (k _ s₂ (l1.trans l2) (by simpa using e))

theorem o_isS {v u : Value} {x y : Str} {t r : Tok} (T : Tp w s₀) (h1 : t ≠ 0) (h2 : r ≠ 0) (h3 : t ≠ r) : PT prog w A s₀ (compareOp .Is (.str x t) (.str y r)) (fun b' _ => ∃ b, b' = .bool b ∧ (b = true → (x == y) = true)) := by
  intro s Q E l k
  show wpAny (model prog w) A (do return Value.bool (← isSame (.str x t) (.str y r))) _ _ s
  have h0 : (t == 0 || r == 0) = false := by simp [h1, h2]
  refine wpAny_bind ?_
  show wpAny (model prog w) A (isSame.created (x == y) t r) _ _ s
  unfold isSame.created
  rw [if_neg (by rw [h0]; decide), if_neg (by simpa using h3)]
  have hb := (T.le l).booked
  cases hxy : (x == y) with
  | false => exact wpAny_pure (wpAny_pure (k _ _ (Le.refl _) ⟨false, rfl, fun h => nomatch h⟩))
  | true =>
    rw [if_neg (by decide)]
    refine wpAny_bind (wpAny_sharingNotTold_none hb ?_)
    first | rw [if_neg Bool.false_ne_true] | simp only [Bool.false_eq_true, if_false]
    refine wpAny_bind (wpAny_sharingNotTold_none hb ?_)
    first | rw [if_neg Bool.false_ne_true] | simp only [Bool.false_eq_true, if_false]
    exact wpAny_bind (wpAny_rule (wpAny_bind (wpAny_askSetting (wpAny_pure (wpAny_pure (k _ _ (Le.refl _) ⟨_, rfl, fun _ => hxy⟩))))))
theorem isTrue_sameS {l r l' r' : Expr} {pa pb pc : Pos} {x y : Str} {t u : Tok} {whole : Sem Value} (T : Tp w s₀) (hl : PV prog w A s₀ (eval l env) (fun z => z = .str x t)) (hr : PV prog w A s₀ (eval r env) (fun z => z = .str y u)) (hl' : PV prog w A s₀ (eval l' env) (fun z => z = .str x t)) (hr' : PV prog w A s₀ (eval r' env) (fun z => z = .str y u))
    (h1 : t ≠ 0) (h2 : u ≠ 0) (h3 : t ≠ u) (hm : behindInMarks .Is r = false := by with_unfolding_all rfl) (hm' : behindInMarks .Eq r' = false := by with_unfolding_all rfl) :
    PT prog w A s₀ (isTrue (.BoolOp .Or [.Compare l [.Is] [r] pa, .Compare l' [.Eq] [r'] pb] pc) env whole) (fun c _ => c = (x == y)) := by
  intro s Q E l0 k
  refine isTrue_or (wpAny_isTrue_Compare1 ((hl.le l0).use fun a s₁ l1 ea => (hr.le (l0.trans l1)).use fun b s₂ l2 eb => ?_) hm)
  subst ea eb
  refine (o_isS (v := .none) (u := .none) (T.le ((l0.trans l1).trans l2)) h1 h2 h3).use fun v s₃ l3 hv => ?_
  obtain ⟨b, rfl, hb⟩ := hv
  refine wpAny_truthy_bool ?_
  split
  · rename_i e; exact k _ s₃ ((l1.trans l2).trans l3) (hb e).symm
  · refine isTrue_or ((isTrue_cmp (b' := x == y) (p1 := IsS x) (p2 := IsS y) ((hl'.le (((l0.trans l1).trans l2).trans l3)).mono fun _ _ _ e => ⟨t, e⟩) ((hr'.le (((l0.trans l1).trans l2).trans l3)).mono fun _ _ _ e => ⟨u, e⟩) (fun a b s l ha hb => o_eqS ha hb) hm').use fun c s₄ l4 ec => ?_)
    subst ec
    split
    · rename_i e; exact k _ s₄ (((l1.trans l2).trans l3).trans l4) (by rw [e])
    · rename_i e; exact isTrue_or_nil (k _ s₄ (((l1.trans l2).trans l3).trans l4) (by simpa using e))

set_option maxHeartbeats 1000000 in
theorem indexI_pt {d : Nat} {l : Addr} {vs : List Value} {xs : List Int} {u : Value} {q : Int} {k : Nat} (C : Cx A (d + 1)) (T : Tp w s₀) (hl : s₀.heap.IsList l vs.toArray) (hx : Ints vs xs) (hu : IsI q u)
    (hap : ∀ v ∈ vs, IntsApart v u) (hk : xs[k]? = some q) (hlt : ∀ j, j < k → xs[j]? ≠ some q) : PV prog w A s₀ (call (.ref 42) [.ref l, u]) (IsI k) := by
  have X := T.k
  refine' pt_enter (binds := [(Str.ofString "a", .ref l), (Str.ofString "b", u)]) ?C ?T ?ho ?hcd ?hb ?hl ?c ?g ?k ?cl ?_
  ((case C => assumption); (case T => assumption); (case ho => k_is); (case hcd => k_is); (case hb => exact fun s => BindsTo.of_eq rfl); (case hl => exact locs rfl); (case c => rfl); (case g => rfl); (case k => rfl); (case cl => decide))
  intro s L s₁ l0 F hg C'
  have T1 : Tp w s₁ := T.le (l0.trans F.le)
  have hl1 : s₁.heap.IsList l vs.toArray := hl.at fun o e => (l0.trans F.le).keep _ o e
  have hls : ∃ o, s.heap.get? l = some o := by obtain ⟨o, e, _⟩ := hl; exact ⟨o, l0.keep _ o e⟩
  refine wp_forP (D := []) (src := [l]) (n := vs.length) (P := fun i va vb => IsI i va ∧ vs[i]? = some vb) (s₀ := s)
    (fun i m s' => i ≤ k ∧ m.lookup (Str.ofString "b") = some u)
    F (T.le l0) C'.hh (pt_enumL hl1 (pt_builtin T1 rfl (by k_is) rfl) (pt_local F rfl)) ?_ ?_ OwnD.nil ?_ ?_ ?_ ?_ ?_
  · rintro v s9 l9 ⟨I, it, St, Mid, rfl, h1, h2, W, hst⟩ Q E kk
    refine WalksT.self (W _ C'.hh) 0 s9 _ _ hst (kk I _ _ s9 l9 (Pairs.of (W _ C'.hh) (fun b hb => ?_) (fun b hb => ?_) fun i vals h => h) hst (fun _ f => f.elim))
    · rcases List.mem_cons.mp hb with rfl | hb
      · exact .inl fun zq0 => by obtain ⟨o, e⟩ := zq0; rw [h1] at e; cases e
      · rcases List.mem_cons.mp hb with rfl | hb
        · exact .inl fun zq1 => by obtain ⟨o, e⟩ := zq1; rw [h2] at e; cases e
        · exact .inr hb
    · rcases List.mem_cons.mp hb with rfl | hb
      · exact fun zq2 => by obtain ⟨o, e⟩ := zq2; rw [h1] at e; cases e
      · rw [List.mem_singleton.mp hb]; exact fun zq3 => by obtain ⟨o, e⟩ := zq3; rw [h2] at e; cases e
  · intro b hb
    rw [List.mem_singleton.mp hb]
    refine ⟨fun hm => ?_, fun h => nomatch h⟩
    obtain ⟨o, e⟩ := hls
    have := List.mem_singleton.mp hm
    rw [this, F.newL] at e; cases e
  · exact fun i m s9 s10 h _ => h
  · exact ⟨Nat.zero_le _, rfl⟩
  · exact fun i m s9 _ b hb => nomatch hb
  · rintro i va vb a m s9 hi ⟨hva, hvb⟩ la ha F9 ⟨hik, m1⟩
    obtain ⟨p, hp, hpv⟩ := hx.get' hvb
    have n1 : List.lookup (Str.ofString "b") ((Str.ofString "j", vb) :: (Str.ofString "i", va) :: m) = some u := (lookup_cons_ne (by decide)).trans ((lookup_cons_ne (by decide)).trans m1)
    refine wp_if1 (b := p == q) (isTrue_sameI (pt_local F9 lookup_cons_eq) (pt_local F9 n1) (pt_local F9 lookup_cons_eq) (pt_local F9 n1) (hap vb (List.mem_of_getElem? hvb)) hpv hu) (fun hb s₁₀ l10 => ?_) fun hb s₁₀ l10 => ?_
    · have e : p = q := by simpa using hb
      have : i = k := by
        rcases Nat.lt_or_eq_of_le hik with h | h
        · exact absurd (e ▸ hp) (hlt i h)
        · exact h
      subst this
      exact wp_return1 (nm (p := IsI i) (F9.grow l10) rfl hva) fun v s' l' ee => ⟨la.trans ((F9.grow l10).le.trans l'), ee⟩
    · refine wp_end ⟨_, F9.grow l10, ?_, n1⟩
      rcases Nat.lt_or_eq_of_le hik with h | h
      · exact h
      · subst h; rw [hk] at hp; cases hp; simp at hb
  · rintro m s9 F9 ⟨hik, m1⟩
    have := (List.getElem?_eq_some_iff.mp hk).1
    have := hx.len
    omega

theorem pt_enumST {nx : Str} {np : Pos} {e : Expr} {x : Str} {t : Tok} (hf : PV prog w A s₀ (eval (.Name nx np) env) (fun u => u = .type "enumerate")) (h : PV prog w A s₀ (eval e env) (fun v => v = .str x t))
    (he : starEach (e :: []) env = (false, eval e env) :: starEach [] env := by rfl) :
    PT prog w A s₀ (eval (.Call (.Name nx np) [e] [] pos) env) (fun v s' => ∃ I it, v = .ref I ∧ s₀.heap.get? I = none ∧ s₀.heap.get? it = none ∧ I ≠ it ∧ IsEnum s'.heap I it 0 .none ∧ s'.heap.IsStrIter it (strIterType x) x t 0) :=
  pt_callT hf (argv1 h he) (fun vs s' l' hv => by
    obtain ⟨v, rfl, rfl⟩ := hv
    intro s Q E l q
    refine call_enumerate_str fun h' hE hI hz hk => ?_
    have hf : ∀ a, s.heap.objs.size ≤ a → s₀.heap.get? a = none := fun a ha => none_le l' (none_le l (new_none _ _ ha))
    exact q _ _ (Le.of_heap (tk := s.toks) hk) ⟨_, _, rfl, hf _ (Nat.le_succ _), hf _ (Nat.le_refl _), Nat.succ_ne_self _, hE, hI⟩) he rfl

set_option maxHeartbeats 1000000 in
theorem indexS_pt {d : Nat} {x : Str} {t : Tok} {c : Nat} {r : Tok} {k : Nat} (C : Cx A (d + 1)) (T : Tp w s₀) (h0 : r ≠ 0) (hr : r < s₀.toks) (hk : x.cps[k]? = some c) (hlt : ∀ j, j < k → x.cps[j]? ≠ some c) :
    PV prog w A s₀ (call (.ref 42) [.str x t, .str ⟨#[c]⟩ r]) (IsI k) := by
  have X := T.k
  refine' pt_enter (binds := [(Str.ofString "a", .str x t), (Str.ofString "b", .str ⟨#[c]⟩ r)]) ?C ?T ?ho ?hcd ?hb ?hl ?c ?g ?k ?cl ?_
  ((case C => assumption); (case T => assumption); (case ho => k_is); (case hcd => k_is); (case hb => exact fun s => BindsTo.of_eq rfl); (case hl => exact locs rfl); (case c => rfl); (case g => rfl); (case k => rfl); (case cl => decide))
  intro s L s₁ l0 F hg C'
  have T1 : Tp w s₁ := T.le (l0.trans F.le)
  refine wp_forP (D := []) (src := []) (n := x.cps.size) (P := SignT x s₀.toks) (s₀ := s)
    (fun i m s' => i ≤ k ∧ m.lookup (Str.ofString "b") = some (.str ⟨#[c]⟩ r))
    F (T.le l0) C'.hh (pt_enumST (pt_builtin T1 rfl (by k_is) rfl) (pt_local F rfl)) ?_ (fun b hb => nomatch hb) OwnD.nil ?_ ?_ ?_ ?_ ?_
  · rintro v s9 l9 ⟨I, it, rfl, h1, h2, h3, hE, hS⟩ Q E kk
    refine wpAny_pyIter_enum hE (kk I _ _ s9 l9 (pairs_strT C'.hh h3 (fun zq4 => by obtain ⟨o, e⟩ := zq4; rw [h1] at e; cases e) fun zq5 => by obtain ⟨o, e⟩ := zq5; rw [h2] at e; cases e) ⟨⟨_, hE⟩, hS, Nat.le_trans (l0.trans F.le).tk l9.tk⟩ fun _ f => f.elim)
  · exact fun i m s9 s10 h _ => h
  · exact ⟨Nat.zero_le _, rfl⟩
  · exact fun i m s9 _ b hb => nomatch hb
  · rintro i va vb a m s9 hi ⟨hva, p, tp, hp, rfl, htp⟩ la ha F9 ⟨hik, m1⟩
    have n1 : List.lookup (Str.ofString "b") ((Str.ofString "j", .str ⟨#[p]⟩ tp) :: (Str.ofString "i", va) :: m) = some (.str ⟨#[c]⟩ r) := (lookup_cons_ne (by decide)).trans ((lookup_cons_ne (by decide)).trans m1)
    have T9 : Tp w s9 := T.le (l0.trans (la.trans F9.le))
    refine wp_if1 (b := (⟨#[p]⟩ : Str) == ⟨#[c]⟩) (isTrue_sameS T9 (pt_local F9 lookup_cons_eq) (pt_local F9 n1) (pt_local F9 lookup_cons_eq) (pt_local F9 n1) (fun e => by rw [e] at htp; exact absurd (Nat.lt_of_lt_of_le hr htp) (Nat.not_lt_zero _)) h0 (fun e => by rw [e] at htp; exact Nat.lt_irrefl _ (Nat.lt_of_lt_of_le hr htp))) (fun hb s₁₀ l10 => ?_) fun hb s₁₀ l10 => ?_
    · have e : p = c := by simpa using hb
      have : i = k := by
        rcases Nat.lt_or_eq_of_le hik with h | h
        · exact absurd (e ▸ hp) (hlt i h)
        · exact h
      subst this
      exact wp_return1 (nm (p := IsI i) (F9.grow l10) rfl hva) fun v s' l' ee => ⟨la.trans ((F9.grow l10).le.trans l'), ee⟩
    · refine wp_end ⟨_, F9.grow l10, ?_, n1⟩
      rcases Nat.lt_or_eq_of_le hik with h | h
      · exact h
      · subst h; rw [hk] at hp; cases hp; simp at hb
  · rintro m s9 F9 ⟨hik, m1⟩
    have := (Array.getElem?_eq_some_iff.mp hk).1
    omega

/-- the operators of operator.py -/
theorem add_pt {d : Nat} {x y : Str} {t u : Tok} (C : Cx A (d + 1)) (T : Tp w s₀) (hz : x.length + y.length ≤ sizeLine) : PV prog w A s₀ (call (.ref 21) [.str x t, .str y u]) (IsS (x ++ y)) := by
  have X := T.k
  refine' pt_enter (binds := [(Str.ofString "a", .str x t), (Str.ofString "b", .str y u)]) ?C ?T ?ho ?hcd ?hb ?hl ?c ?g ?k ?cl ?_
  ((case C => assumption); (case T => assumption); (case ho => k_is); (case hcd => k_is); (case hb => exact fun s => BindsTo.of_eq rfl); (case hl => exact locs rfl); (case c => rfl); (case g => rfl); (case k => rfl); (case cl => decide))
  intro s L s₁ l F hg C'
  exact wp_return1 (pv_binop (nmS (y := x) F rfl) (nmS (y := y) F rfl) fun _ _ _ _ ha hb => o_addS ha hb hz) fun v s' l' p => ⟨F.le.trans l', p⟩
theorem o_mulS {a b : Value} {x : Str} {n : Int} (ha : IsS x a) (hb : IsI n b) (hok : MulOk x n) : PV prog w A s₀ (binaryOp .Mult a b) (IsS (Txt.mul x n)) := by
  obtain ⟨_, rfl⟩ := ha; obtain ⟨_, rfl⟩ := hb
  exact PT.wk fun s Q E _ q => SB.mul hok fun t' k => q _ _ (fun ht => Le.toks ht) ⟨_, rfl⟩
theorem mul_pt {d : Nat} {x : Str} {t u : Tok} {n : Int} (C : Cx A (d + 1)) (T : Tp w s₀) (hok : MulOk x n) : PV prog w A s₀ (call (.ref 28) [.str x t, .int n u]) (IsS (Txt.mul x n)) := by
  have X := T.k
  refine' pt_enter (binds := [(Str.ofString "a", .str x t), (Str.ofString "b", .int n u)]) ?C ?T ?ho ?hcd ?hb ?hl ?c ?g ?k ?cl ?_
  ((case C => assumption); (case T => assumption); (case ho => k_is); (case hcd => k_is); (case hb => exact fun s => BindsTo.of_eq rfl); (case hl => exact locs rfl); (case c => rfl); (case g => rfl); (case k => rfl); (case cl => decide))
  intro s L s₁ l F hg C'
  exact wp_return1 (pv_binop (nmS (y := x) F rfl) (nmI F rfl) fun _ _ _ _ ha hb => o_mulS ha hb hok) fun v s' l' p => ⟨F.le.trans l', p⟩
theorem getitem_pt {d : Nat} {l : Addr} {vs : List Value} {i : Int} {u : Tok} {x : Value} (C : Cx A (d + 1)) (T : Tp w s₀) (hl : s₀.heap.IsList l vs.toArray)
    (hx : (0 ≤ i ∧ vs[i.toNat]? = some x) ∨ (i < 0 ∧ -(vs.length : Int) ≤ i ∧ vs[(i + vs.length).toNat]? = some x)) (hz : vs.length ≤ sizeLine) : PV prog w A s₀ (call (.ref 35) [.ref l, .int i u]) (fun v => v = x) := by
  have X := T.k
  refine' pt_enter (binds := [(Str.ofString "a", .ref l), (Str.ofString "b", .int i u)]) ?C ?T ?ho ?hcd ?hb ?hl ?c ?g ?k ?cl ?_
  ((case C => assumption); (case T => assumption); (case ho => k_is); (case hcd => k_is); (case hb => exact fun s => BindsTo.of_eq rfl); (case hl => exact locs rfl); (case c => rfl); (case g => rfl); (case k => rfl); (case cl => decide))
  intro s L s₁ l0 F hg C'
  exact wp_return1 (pt_item (hl.at fun o e => (l0.trans F.le).keep _ o e) (pt_local F rfl) (nmI F rfl) hx hz) fun v s' l' p => ⟨F.le.trans l', p⟩
end
end Mine
end

section
open PySem PySem.W PyProof.Rows PySem.Calls
namespace Mine
namespace All2
variable {α : Type} {R : Value → α → Prop}
theorem append_inv {xs ys : List α} : ∀ {vs : List Value}, All2 R vs (xs ++ ys) → ∃ v1 v2, vs = v1 ++ v2 ∧ All2 R v1 xs ∧ All2 R v2 ys := by
  induction xs with
  | nil => intro vs h; exact ⟨[], vs, rfl, .nil, h⟩
  | cons x xs ih =>
    intro vs h
    obtain ⟨v, vr, rfl, hv, hr⟩ := h.cons_inv
    obtain ⟨v1, v2, rfl, h1, h2⟩ := ih hr
    exact ⟨v :: v1, v2, rfl, .cons hv h1, h2⟩
theorem drop {vs xs} (h : All2 R vs xs) : ∀ k : Nat, All2 R (vs.drop k) (xs.drop k) := by
  induction h with
  | nil => intro k; rw [List.drop_nil, List.drop_nil]; exact .nil
  | cons hd tl ih =>
    intro k
    cases k with
    | zero => exact .cons hd tl
    | succ k => exact ih k
theorem take {vs xs} (h : All2 R vs xs) : ∀ k : Nat, All2 R (vs.take k) (xs.take k) := by
  induction h with
  | nil => intro k; rw [List.take_nil, List.take_nil]; exact .nil
  | cons hd tl ih =>
    intro k
    cases k with
    | zero => exact .nil
    | succ k => exact .cons hd (ih k)
theorem set {vs xs} (h : All2 R vs xs) {v x} (r : R v x) : ∀ k : Nat, All2 R (vs.set k v) (xs.set k x) := by
  induction h with
  | nil => intro k; exact .nil
  | cons hd tl ih =>
    intro k
    cases k with
    | zero => exact .cons r tl
    | succ k => exact .cons hd (ih k)
theorem imp_mem {R' : Value → α → Prop} {vs xs} (h : All2 R vs xs) (i : ∀ v x, v ∈ vs → x ∈ xs → R v x → R' v x) : All2 R' vs xs := by
  induction h with
  | nil => exact .nil
  | cons hd tl ih => exact .cons (i _ _ (.head _) (.head _) hd) (ih fun v x hv hx => i v x (List.mem_cons_of_mem _ hv) (List.mem_cons_of_mem _ hx))
theorem map {β : Type} {f : β → α} {Q : Value → β → Prop} {vs : List Value} {ys : List β} (h : All2 Q vs ys) (i : ∀ v y, Q v y → R v (f y)) : All2 R vs (ys.map f) := by
  induction h with
  | nil => exact .nil
  | cons hd tl ih => exact .cons (i _ _ hd) ih
/-- by the places kept -/
theorem of_range {xs : List α} (f : α → Bool) : ∀ (n : Nat), n ≤ xs.length → ∀ {vs : List Value}, All2 (fun v i => ∃ y, xs[i]? = some y ∧ R v y) vs ((List.range n).filter fun i => (xs[i]?).any f) → All2 R vs ((xs.take n).filter f)
  | 0, _, vs, h => by cases h; exact .nil
  | n + 1, hn, vs, h => by
    rw [range_filter_succ] at h
    obtain ⟨v1, v2, rfl, h1, h2⟩ := h.append_inv
    have hx : xs[n]? = some xs[n] := List.getElem?_eq_getElem hn
    rw [List.take_add_one, hx, List.filter_append]
    refine (of_range f n (Nat.le_of_succ_le hn) h1).append ?_
    have hc : (xs[n]?).any f = f xs[n] := by rw [hx]; rfl
    cases hf : f xs[n] with
    | true =>
      rw [if_pos (hc.trans hf)] at h2
      obtain ⟨v, vr, rfl, ⟨y, hy, hr⟩, hnil⟩ := h2.cons_inv
      cases hnil
      rw [hx] at hy; cases hy
      simp only [Option.toList_some, List.filter_cons_of_pos hf, List.filter_nil]
      exact .cons hr .nil
    | false =>
      rw [if_neg (by rw [hc, hf]; decide)] at h2
      cases h2
      have : List.filter f (some xs[n]).toList = [] := by simp [hf]
      rw [this]; exact .nil
end All2

section
variable {prog : Program} {w : World} {A : Around} {s₀ s s' : Shared} {env : Env} {m : Mp} {pos p : Pos} {E : Value → Shared → Prop}

/-- a comprehension over a list, of values alone -/
noncomputable def ListTurn {α : Type} (prog : Program) (w : World) (A : Around) (s₀ : Shared) (env : Env) (elt : Expr) (x : Str) (ifs : List Expr) (scope : Scope) (cl : List (Str × Addr)) (xs : List α) (Rin : Value → α → Prop) (f : α → Bool) (Q : Value → α → Prop) : Prop :=
  ∀ C v y s, y ∈ xs → Rin v y → Le s₀ s → (∃ mc, s.heap.Ns C mc ∧ mc x = some v) →
      PT prog w A s (forIn ifs true fun c r => if r = true then do let ok ← isTrue c (compEnvC scope cl C env) (eval c (compEnvC scope cl C env)); pure (ForInStep.yield ok) else pure (ForInStep.yield r)) (fun ok _ => ok = f y) ∧
      (f y = true → ∀ s', Le s s' → PV prog w A s' (eval elt (compEnvC scope cl C env)) (fun u => Q u y))
noncomputable def RList {α : Type} (xs : List α) (Q : Value → α → Prop) : List Addr → Nat → Value → Shared → Prop := fun _ i v _ => ∃ y, xs[i]? = some y ∧ Q v y
theorem rkeep_list {α : Type} {xs : List α} {Q : Value → α → Prop} : RKeep (RList xs Q) := fun _ _ _ _ _ r _ _ => r
theorem ListTurn.comp {α : Type} {elt : Expr} {x : Str} {ifs : List Expr} {scope : Scope} {cl : List (Str × Addr)} {xs : List α} {Rin : Value → α → Prop} {f : α → Bool} {Q : Value → α → Prop} {vs : List Value} (hin : All2 Rin vs xs)
    (h : ListTurn prog w A s₀ env elt x ifs scope cl xs Rin f Q) : CompTurn prog w A s₀ env elt x ifs scope cl vs.length (fun i v => vs[i]? = some v) (fun i => (xs[i]?).any f) (RList xs Q) := by
  intro X C i v s hi hv l _ hN
  obtain ⟨y, hy, r⟩ := hin.get' hv
  obtain ⟨h1, h2⟩ := h C v y s (List.mem_of_getElem? hy) r l hN
  have e : (xs[i]?).any f = f y := by rw [hy]; rfl
  exact ⟨h1.mono fun ok _ _ q => q.trans e.symm, fun hk s' l' => (h2 (e.symm.trans hk) s' l').mono fun u _ _ q => ⟨y, hy, q⟩⟩
theorem list_out {α : Type} {D : Addr} {X : List Addr} {ws vs : List Value} {xs : List α} {Rin : Value → α → Prop} {f : α → Bool} {Q : Value → α → Prop} (hin : All2 Rin vs xs) (h : CompOut s₀ s' D X ws vs.length (fun i => (xs[i]?).any f) (RList xs Q)) : All2 Q ws (xs.filter f) := by
  have e := hin.len
  have := All2.of_range f xs.length (Nat.le_refl _) (by rw [← e]; exact h.all)
  rwa [List.take_length] at this

theorem pt_listmap {α : Type} {elt iter : Expr} {x : Str} {px : Pos} {ifs : List Expr} {scope : Scope} {cl : List (Str × Addr)} {xs : List α} {Rin : Value → α → Prop} (f : α → Bool) (Q : Value → α → Prop) (hh : A.handled = none) {vs : List Value} (hin : All2 Rin vs xs)
    (hi : PT prog w A s₀ (eval iter env) (fun v s' => ∃ l, v = .ref l ∧ s'.heap.IsList l vs.toArray)) (hsz : vs.length ≤ sizeLine)
    (hturn : ListTurn prog w A s₀ env elt x ifs scope cl xs Rin f Q)
    (hclos : closureFor scope env = pure cl := by rfl) (hcell : ∀ y ∈ scope.names, y.2 ≠ .cell := by decide) (hkind : scope.kind = .function := by rfl)
    (hnames : ∀ y ∈ scope.names, y.2 = .local → scope.names.lookup y.1 = some .local := by decide) (hx : scope.names.lookup x = some .local := by rfl)
    (hs : ∀ x, foldedSetIterable iter env x = pure x := by intro _; rfl) :
    PT prog w A s₀ (eval (.ListComp elt [⟨.Name x px, iter, ifs, 0⟩] scope pos) env) (fun v s' => ∃ D ws, v = .ref D ∧ s₀.heap.get? D = none ∧ s'.heap.PlainList D ws.toArray ∧ All2 Q ws (xs.filter f)) :=
  (pt_listcomp (n := vs.length) (P := fun i v => vs[i]? = some v) (fun i => (xs[i]?).any f) (RList xs Q) hi (fun v s₁ l1 zq0 => (by obtain ⟨l, e, hl⟩ := zq0; exact ⟨[l], by rw [e]; exact src_list hh hl⟩)) hsz rkeep_list (hturn.comp hin) hclos hcell hkind hnames hx hs).mono
    fun v s' _ zq1 => (by obtain ⟨D, ws, X, e, ho⟩ := zq1; exact ⟨D, ws, e, ho.new, ho.plain, list_out hin ho⟩)
theorem wp_assign_map {α : Type} {elt iter : Expr} {x y : Str} {px py spos : Pos} {ifs : List Expr} {scope : Scope} {cl : List (Str × Addr)} {xs : List α} {Rin : Value → α → Prop} {rest : List Stmt} {Q' : Flow → Shared → Prop} (f : α → Bool) (Q : Value → α → Prop) (F : Fm s₀ env m s) (hh : A.handled = none) {vs : List Value} (hin : All2 Rin vs xs)
    (hi : PT prog w A s (eval iter env) (fun v s' => ∃ l, v = .ref l ∧ s'.heap.IsList l vs.toArray)) (hsz : vs.length ≤ sizeLine)
    (hturn : ListTurn prog w A s env elt x ifs scope cl xs Rin f Q)
    (k : ∀ D ws s₂, s.heap.get? D = none → s₂.heap.PlainList D ws.toArray → All2 Q ws (xs.filter f) → Fm s₀ env ((y, .ref D) :: m) s₂ → Beside env s s₂ → wpAny (model prog w) A (execs rest env) Q' E s₂)
    (hsw : swapsWith (.ListComp elt [⟨.Name x px, iter, ifs, 0⟩] scope pos) (some (.Name y py)) spos.line env = pure true := by rfl)
    (hclos : closureFor scope env = pure cl := by rfl) (hcell : ∀ y ∈ scope.names, y.2 ≠ .cell := by decide) (hkind : scope.kind = .function := by rfl)
    (hnames : ∀ y ∈ scope.names, y.2 = .local → scope.names.lookup y.1 = some .local := by decide) (hx : scope.names.lookup x = some .local := by rfl) (hy : env.kindOf y = some .local := by rfl)
    (hs : ∀ x, foldedSetIterable iter env x = pure x := by intro _; rfl) :
    wpAny (model prog w) A (execs (.Assign [.Name y py] (.ListComp elt [⟨.Name x px, iter, ifs, 0⟩] scope pos) spos :: rest) env) Q' E s :=
  wp_assign_comp (n := vs.length) (P := fun i v => vs[i]? = some v) (fun i => (xs[i]?).any f) (RList xs Q) F hi (fun v s₁ l1 zq2 => (by obtain ⟨l, e, hl⟩ := zq2; exact ⟨[l], by rw [e]; exact src_list hh hl⟩)) hsz rkeep_list (hturn.comp hin)
    (fun D ws X s₂ ho F₂ B₂ _ => k D ws s₂ ho.new ho.plain (list_out hin ho) F₂ B₂) hsw hclos hcell hkind hnames hx hy hs

theorem tests0 {s : Shared} {env : Env} : PT prog w A s (forIn ([] : List Expr) true fun c r => if r = true then do let ok ← isTrue c env (eval c env); pure (ForInStep.yield ok) else pure (ForInStep.yield r)) (fun ok _ => ok = true) :=
  fun s' Q E l q => wpAny_tests_nil (q _ _ (Le.refl _) rfl)
theorem tests1 {s : Shared} {env : Env} {c : Expr} {b : Bool} (h : PT prog w A s (isTrue c env (eval c env)) (fun ok _ => ok = b)) : PT prog w A s (forIn [c] true fun c r => if r = true then do let ok ← isTrue c env (eval c env); pure (ForInStep.yield ok) else pure (ForInStep.yield r)) (fun ok _ => ok = b) :=
  fun s' Q E l q => wpAny_tests_one (h s' Q E l q)

/-- parts of a list, made anew -/
theorem pt_sliceLL {value lo hi : Expr} {l : Addr} {vs : List Value} {i j : Nat} (hl : s₀.heap.IsList l vs.toArray) (hv : PV prog w A s₀ (eval value env) (fun u => u = .ref l)) (h1 : PV prog w A s₀ (eval lo env) (IsI i)) (h2 : PV prog w A s₀ (eval hi env) (IsI j)) (hz : vs.length ≤ sizeLine) (hij : i ≤ j) (hj : j ≤ vs.length)
    (ht : ∀ o r, letTemporaryGo value o r = pure () := by intro _ _; rfl) :
    PT prog w A s₀ (eval (.Subscript value (.Slice (some lo) (some hi) none p) pos) env) (fun v s' => ∃ D, v = .ref D ∧ s₀.heap.get? D = none ∧ s'.heap.PlainList D ((vs.drop i).take (j - i)).toArray) := by
  intro s Q E l0 q
  refine wpAny_Subscript_list_slice (hv s _ E l0 fun o s₁ l1 e => ?_) ht
  refine (h1.le (l0.trans l1)).use fun v1 s₂ l2 ⟨u1, e1⟩ => ?_
  refine (h2.le ((l0.trans l1).trans l2)).use fun v2 s₃ l3 ⟨u2, e2⟩ => ?_
  subst e1 e2
  refine ⟨l, vs.toArray, some (i : Int), some (j : Int), e, hl.at fun o e => (((l0.trans l1).trans l2).trans l3).keep _ o e, by simpa using hz, .int _ _, .int _ _, ?_⟩
  rw [slicePick_run _ _ _ (by simpa using hj) hij]
  have hsz : (s₃.heap.push { cls := .type "slice", data := .fields #[.int i u1, .int j u2, .none] }).objs.size = s₃.heap.objs.size + 1 := Heap.size_push ..
  refine q _ _ (((l1.trans l2).trans l3).trans ((Le.push (tk := s₃.toks)).trans (Le.push (tk := s₃.toks)))) ⟨_, rfl, none_le (((l0.trans l1).trans l2).trans l3) (new_none _ _ (Nat.le_succ _)), 0, ?_⟩
  rw [← hsz]; exact Heap.get?_push_size _ rfl
theorem pt_sliceNL {value hi : Expr} {l : Addr} {vs : List Value} {j : Nat} (hl : s₀.heap.IsList l vs.toArray) (hv : PV prog w A s₀ (eval value env) (fun u => u = .ref l)) (h2 : PV prog w A s₀ (eval hi env) (IsI j)) (hz : vs.length ≤ sizeLine)
    (ht : ∀ o r, letTemporaryGo value o r = pure () := by intro _ _; rfl) :
    PT prog w A s₀ (eval (.Subscript value (.Slice none (some hi) none p) pos) env) (fun v s' => ∃ D, v = .ref D ∧ s₀.heap.get? D = none ∧ s'.heap.PlainList D (vs.take j).toArray) := by
  intro s Q E l0 q
  refine wpAny_Subscript_list_slice (hv s _ E l0 fun o s₁ l1 e => ?_) ht
  refine wpAny_pure ?_
  refine (h2.le (l0.trans l1)).use fun v2 s₃ l3 ⟨u2, e2⟩ => ?_
  subst e2
  refine ⟨l, vs.toArray, none, some (j : Int), e, hl.at fun o e => ((l0.trans l1).trans l3).keep _ o e, by simpa using hz, .none, .int _ _, ?_⟩
  rw [slicePick_upto']
  have hsz : (s₃.heap.push { cls := .type "slice", data := .fields #[.none, .int j u2, .none] }).objs.size = s₃.heap.objs.size + 1 := Heap.size_push ..
  refine q _ _ ((l1.trans l3).trans ((Le.push (tk := s₃.toks)).trans (Le.push (tk := s₃.toks)))) ⟨_, rfl, none_le ((l0.trans l1).trans l3) (new_none _ _ (Nat.le_succ _)), 0, ?_⟩
  rw [← hsz]; exact Heap.get?_push_size _ rfl
theorem pt_sliceLN {value lo : Expr} {l : Addr} {vs : List Value} {i : Nat} (hl : s₀.heap.IsList l vs.toArray) (hv : PV prog w A s₀ (eval value env) (fun u => u = .ref l)) (h1 : PV prog w A s₀ (eval lo env) (IsI i)) (hz : vs.length ≤ sizeLine)
    (ht : ∀ o r, letTemporaryGo value o r = pure () := by intro _ _; rfl) :
    PT prog w A s₀ (eval (.Subscript value (.Slice (some lo) none none p) pos) env) (fun v s' => ∃ D, v = .ref D ∧ s₀.heap.get? D = none ∧ s'.heap.PlainList D (vs.drop i).toArray) := by
  intro s Q E l0 q
  refine wpAny_Subscript_list_slice (hv s _ E l0 fun o s₁ l1 e => ?_) ht
  refine (h1.le (l0.trans l1)).use fun v1 s₃ l3 ⟨u1, e1⟩ => ?_
  refine wpAny_pure ?_
  subst e1
  refine ⟨l, vs.toArray, some (i : Int), none, e, hl.at fun o e => ((l0.trans l1).trans l3).keep _ o e, by simpa using hz, .int _ _, .none, ?_⟩
  rw [slicePick_from']
  have hsz : (s₃.heap.push { cls := .type "slice", data := .fields #[.int i u1, .none, .none] }).objs.size = s₃.heap.objs.size + 1 := Heap.size_push ..
  refine q _ _ ((l1.trans l3).trans ((Le.push (tk := s₃.toks)).trans (Le.push (tk := s₃.toks)))) ⟨_, rfl, none_le ((l0.trans l1).trans l3) (new_none _ _ (Nat.le_succ _)), 0, ?_⟩
  rw [← hsz]; exact Heap.get?_push_size _ rfl
/-- k in a list of whole numbers -/
theorem o_inI {a b : Value} {k : Int} {l : Addr} {vs : List Value} {ns : List Int} (ha : IsI k a) (hb : b = .ref l) (hl : s₀.heap.IsList l vs.toArray) (hi : Ints vs ns) : PV prog w A s₀ (compareOp .In a b) (IsB (ns.any (· == k))) := by
  obtain ⟨_, rfl⟩ := ha; subst hb
  exact fun s Q E l0 q => PyProof.Rows.in_list_ints (hl.at fun o e => l0.keep _ o e) (ints_are hi) (q _ _ (Le.refl _) rfl)

/-- lists of whole numbers, of texts, of lists -/
noncomputable def ILs (h : Heap) (l : Addr) (xs : List Int) : Prop := ∃ vs : List Value, h.IsList l vs.toArray ∧ Ints vs xs
noncomputable def SLs (h : Heap) (l : Addr) (xs : List Str) : Prop := ∃ vs : List Value, h.IsList l vs.toArray ∧ Strs vs xs
noncomputable def Nest (h : Heap) (l : Addr) (rows : List (List Int)) : Prop := ∃ vs : List Value, h.IsList l vs.toArray ∧ All2 (fun v row => ∃ a, v = .ref a ∧ ILs h a row) vs rows
theorem ILs.keeps {h h' : Heap} {l : Addr} {xs : List Int} (x : ILs h l xs) (k : ∀ b o, h.get? b = some o → h'.get? b = some o) : ILs h' l xs := (by obtain ⟨vs, a, b⟩ := x; exact ⟨vs, a.at fun o e => k _ o e, b⟩)
theorem SLs.keeps {h h' : Heap} {l : Addr} {xs : List Str} (x : SLs h l xs) (k : ∀ b o, h.get? b = some o → h'.get? b = some o) : SLs h' l xs := (by obtain ⟨vs, a, b⟩ := x; exact ⟨vs, a.at fun o e => k _ o e, b⟩)
theorem Nest.keeps {h h' : Heap} {l : Addr} {xs : List (List Int)} (x : Nest h l xs) (k : ∀ b o, h.get? b = some o → h'.get? b = some o) : Nest h' l xs :=
  (by obtain ⟨vs, a, b⟩ := x; exact ⟨vs, a.at fun o e => k _ o e, b.mono fun _ _ zq7 => (by obtain ⟨c, e, r⟩ := zq7; exact ⟨c, e, r.keeps k⟩)⟩)
theorem pt_callLen {nx : Str} {np : Pos} {e : Expr} {n : Nat} (hf : PV prog w A s₀ (eval (.Name nx np) env) (fun u => u = .builtin "len")) (h : PT prog w A s₀ (eval e env) (fun v s' => ∃ l vs, v = .ref l ∧ s'.heap.IsList l (vs : List Value).toArray ∧ vs.length = n)) (hz : n ≤ sizeLine)
    (he : starEach (e :: []) env = (false, eval e env) :: starEach [] env := by rfl) : PV prog w A s₀ (eval (.Call (.Name nx np) [e] [] pos) env) (IsI n) :=
  pt_callB hf (args1 h he) (fun vs s' l' hv => by
    obtain ⟨v, rfl, s2, l2, l, vs, rfl, hl, rfl⟩ := hv
    exact o_lenL (hl.at fun o e => l2.keep _ o e) hz) he rfl
end
end Mine
end

section
open PySem PySem.W PyProof.Rows PySem.Calls
namespace Mine

noncomputable def signOf (signs : List Str) (r : Int) : Str := signs.getD r.toNat Str.empty
noncomputable def tourText (ring : List Int) (signs : List Str) : Str := Txt.join Str.empty (ring.map (signOf signs))
noncomputable def tourF (ring : List Int) (signs : List Str) (k : Nat) : Str := Txt.slice (tourText ring signs) (some (k : Int)) none ++ Txt.slice (tourText ring signs) none (some ((k : Int) + 1))
theorem sum_le {α : Type} (f : α → Nat) (b : Nat) : ∀ (l : List α), (∀ x ∈ l, f x ≤ b) → (l.map f).sum ≤ l.length * b
  | [], _ => by simp
  | x :: r, h => by
    have h1 := h x (.head _)
    have h2 := sum_le f b r fun y hy => h y (List.mem_cons_of_mem _ hy)
    rw [List.map_cons, List.sum_cons, List.length_cons, Nat.succ_mul]
    (first | exact Nat.le_trans (by with_reducible assumption) (by decide) | exact (Int.toNat_lt (by with_reducible assumption)).mpr (by with_reducible assumption) | omega)
theorem join_len (sep : Str) (l : List Str) (b : Nat) (h : ∀ x ∈ l, x.length ≤ b) : (Txt.join sep l).length ≤ l.length * b + l.length * sep.length := by
  rw [show Txt.join sep l = Str.join sep l from StrLaws.glued_eq_join _ _]
  refine Nat.le_trans (StrLaws.join_length_le sep l) ?_
  have := sum_le (·.length) b l h
  (first | exact Nat.le_trans (by with_reducible assumption) (by decide) | exact (Int.toNat_lt (by with_reducible assumption)).mpr (by with_reducible assumption) | omega)
theorem joinOk_small {sep : Str} {l : List Str} {b : Nat} (h : ∀ x ∈ l, x.length ≤ b) (hs : l.length * b + l.length * sep.length ≤ 16777216) : JoinOk sep l = true := by
  refine joinOk_of ?_
  have := sum_le (·.length) b l h
  (first | exact Nat.le_trans (by with_reducible assumption) (by decide) | exact (Int.toNat_lt (by with_reducible assumption)).mpr (by with_reducible assumption) | omega)
theorem sign_at {signs : List Str} {vsg : List Value} (hS : Strs vsg signs) {r : Int} (h0 : 0 ≤ r) (h1 : r < signs.length) : ∃ v, vsg[r.toNat]? = some v ∧ IsS (signOf signs r) v := by
  have hlt : r.toNat < signs.length := by (first | exact Nat.le_trans (by with_reducible assumption) (by decide) | exact (Int.toNat_lt (by with_reducible assumption)).mpr (by with_reducible assumption) | omega)
  obtain ⟨v, hv, r'⟩ := hS.get (List.getElem?_eq_getElem hlt)
  refine ⟨v, hv, ?_⟩
  unfold signOf
  rw [List.getD_eq_getElem?_getD, List.getElem?_eq_getElem hlt]
  exact r'

section
variable {prog : Program} {w : World} {A : Around} {s₀ s s' : Shared} {env : Env} {m : Mp} {E : Value → Shared → Prop}
set_option maxHeartbeats 2000000 in
theorem tour_pt {d : Nat} {lr ls : Addr} {vr vsg : List Value} {ring : List Int} {signs : List Str} {u : Value} {q : Int} {k : Nat} (C : Cx A (d + 2)) (T : Tp w s₀)
    (hr : s₀.heap.IsList lr vr.toArray) (hR : Ints vr ring) (hs : s₀.heap.IsList ls vsg.toArray) (hS : Strs vsg signs) (hu : IsI q u) (hap : ∀ v ∈ vr, IntsApart v u)
    (hk : ring[k]? = some q) (hlt : ∀ j, j < k → ring[j]? ≠ some q) (hin : ∀ r ∈ ring, 0 ≤ r ∧ r < signs.length) (hzr : ring.length ≤ 100) (hzs : signs.length ≤ 100) (hz1 : ∀ x ∈ signs, x.length ≤ 100) :
    PV prog w A s₀ (call (.ref 89) [.ref lr, u, .ref ls]) (IsS (tourF ring signs k)) := by
  have X := T.k
  have C1 : Cx A (d + 1 + 1) := C
  refine' pt_enterC (d := d + 1) (binds := [(Str.ofString "ring", .ref lr), (Str.ofString "x", u), (Str.ofString "signs", .ref ls)]) ?C ?T ?ho ?hcd ?hb ?hki ?hnd ?c ?g ?k ?_
  ((case C => assumption); (case T => assumption); (case ho => k_is); (case hcd => k_is); (case hb => rfl); (case hki => rfl); (case hnd => decide); (case c => rfl); (case g => rfl); (case k => rfl))
  intro s L s₁ l F hg C'
  have T1 : Tp w s₁ := T.le (l.trans F.le)
  have hr1 : s₁.heap.IsList lr vr.toArray := hr.at fun o e => (l.trans F.le).keep _ o e
  have hs1 : s₁.heap.IsList ls vsg.toArray := hs.at fun o e => (l.trans F.le).keep _ o e
  have hzl : sizeLine = 16777216 := sizeLine_eq
  have hsg : ∀ r ∈ ring, (signOf signs r).length ≤ 100 := fun r hr => by
    obtain ⟨h0, h1⟩ := hin r hr
    refine hz1 _ ?_
    unfold signOf
    rw [List.getD_eq_getElem?_getD, List.getElem?_eq_getElem (by (first | exact Nat.le_trans (by with_reducible assumption) (by decide) | exact (Int.toNat_lt (by with_reducible assumption)).mpr (by with_reducible assumption) | omega) : r.toNat < signs.length)]
    exact List.getElem_mem _
  -- text = ''.join([signs[k] for k in ring])
  refine wp_assign F (pt_join (texts := ring.map (signOf signs)) (pt_str _ _ _) ((pt_listmap (fun _ => true) (fun v r => IsS (signOf signs r) v) C'.hh hR ((pt_local F rfl).mono fun v s' l' e => ⟨lr, e, hr1.at fun o e => l'.keep _ o e⟩) (by rw [hR.len, hzl]; (first | exact Nat.le_trans (by with_reducible assumption) (by decide) | exact (Int.toNat_lt (by with_reducible assumption)).mpr (by with_reducible assumption) | omega)) ?_).mono fun v s' l' zq0 => (by obtain ⟨D, ws, e, _, hp, ha⟩ := zq0; exact ⟨D, ws, e, hp.isList, by
    rw [List.filter_eq_self.mpr (fun _ _ => rfl)] at ha
    exact ha.map fun _ _ h => h⟩)) (joinOk_small (b := 100) (fun x hx => ?_) ?_)) ?_
  · intro Cc v r s2 hr2 hv l2 hN
    refine ⟨tests0, fun _ s3 l3 => ?_⟩
    obtain ⟨h0, h1⟩ := hin r hr2
    obtain ⟨sv, hsv, hsS⟩ := sign_at hS h0 h1
    have F3 := (F.grow l2).grow l3
    exact pt_of_name (pt_item (hs1.at fun o e => l3.keep _ o (l2.keep _ o e)) (nm_f F3 rfl rfl) (nm_x ((by obtain ⟨mc, hn, e⟩ := hN; exact ⟨mc, hn.keeps l3.keep, e⟩)) hv) (.inl ⟨h0, hsv⟩) (by rw [hS.len, hzl]; (first | exact Nat.le_trans (by with_reducible assumption) (by decide) | exact (Int.toNat_lt (by with_reducible assumption)).mpr (by with_reducible assumption) | omega))) hsS
  · obtain ⟨r, hr, rfl⟩ := List.mem_map.mp hx
    exact hsg r hr
  · rw [List.length_map]
    have e0 : (Str.ofString "").length = 0 := rfl
    rw [e0]; (first | exact Nat.le_trans (by with_reducible assumption) (by decide) | exact (Int.toNat_lt (by with_reducible assumption)).mpr (by with_reducible assumption) | omega)
  rintro v2 s₂ l2 ⟨t2, rfl⟩ s₃ F3 B3 g3
  have T3 : Tp w s₃ := T.le (l.trans F3.le)
  have htl : (tourText ring signs).length ≤ 10000 := by
    refine Nat.le_trans (join_len _ _ 100 fun x hx => ?_) ?_
    · obtain ⟨r, hr, rfl⟩ := List.mem_map.mp hx
      exact hsg r hr
    · rw [List.length_map]
      have e0 : Str.empty.length = 0 := rfl
      rw [e0]; (first | exact Nat.le_trans (by with_reducible assumption) (by decide) | exact (Int.toNat_lt (by with_reducible assumption)).mpr (by with_reducible assumption) | omega)
  -- p = indexOf(ring, x)
  refine wp_assign F3 (pt_callF (f := 42) T3 (by k_is) (pt_global T3 rfl (by k_is)) (argv2 (nm (p := fun u => u = .ref lr) F3 rfl rfl) (nm (p := fun v => v = u) F3 rfl rfl)) fun vs s' l' hv => by
    obtain ⟨a, b, rfl, rfl, rfl⟩ := hv
    exact indexI_pt C' (T3.le l') (hr.at fun o e => (l.trans (F3.le.trans l')).keep _ o e) hR hu hap hk hlt) ?_
  intro v4 s₄ l4 h4 s₅ F5 B5 g5
  have T5 : Tp w s₅ := T.le (l.trans F5.le)
  have m5 : List.lookup (Str.ofString "text") ((Str.ofString "p", v4) :: (Str.ofString "text", Value.str (tourText ring signs) t2) :: [(Str.ofString "ring", Value.ref lr), (Str.ofString "x", u), (Str.ofString "signs", Value.ref ls)].reverse) = some (.str (tourText ring signs) t2) := rfl
  have hts : (tourText ring signs).length ≤ sizeLine := by rw [hzl]; (first | exact Nat.le_trans (by with_reducible assumption) (by decide) | exact (Int.toNat_lt (by with_reducible assumption)).mpr (by with_reducible assumption) | omega)
  refine wp_return1 (pt_callF (f := 21) T5 (by k_is) (pt_global T5 rfl (by k_is)) (argv2 (pt_sliceSN (nmS F5 m5) (nm F5 lookup_cons_eq h4) hts) (pt_sliceNS (nmS F5 m5) (pv_add_int (nm F5 lookup_cons_eq h4) (pt_int 1 _ _)) hts)) fun vs s' l' hv => by
    obtain ⟨a, b, rfl, ⟨ta, rfl⟩, tb, rfl⟩ := hv
    refine add_pt C' (T5.le l') ?_
    have h1 := Txt.slice_le (tourText ring signs) (some (k : Int)) none
    have h2 := Txt.slice_le (tourText ring signs) none (some ((k : Int) + 1))
    rw [hzl]; (first | exact Nat.le_trans (by with_reducible assumption) (by decide) | exact (Int.toNat_lt (by with_reducible assumption)).mpr (by with_reducible assumption) | omega)) fun v s' l' ee => ⟨F5.le.trans l', ee⟩
end
end Mine
end

section
open PySem PySem.W PyProof.Rows PySem.Calls
namespace Mine

noncomputable def rowOf (mates : List (List Int)) (x : Int) : List Int := mates.getD x.toNat []
noncomputable def nearIn (mates : List (List Int)) (x : Int) (ys : List Int) : List Int := ys.filter fun y => (rowOf mates x).any (· == y)
noncomputable def pieceOf (mates : List (List Int)) (signs dresses : List Str) (x : Int) (came : Int) : Str := ((Txt.mul cls came ++ signOf signs x) ++ signOf dresses x) ++ Txt.mul opn ((rowOf mates x).length - came)
noncomputable def pieceF (ring : List Int) (mates : List (List Int)) (signs dresses : List Str) (p : Nat) : Str := pieceOf mates signs dresses (ring.getD p 0) (nearIn mates (ring.getD p 0) (ring.take p)).length
noncomputable def piecesF (ring : List Int) (mates : List (List Int)) (signs dresses : List Str) : List Str := (List.range 5).map (pieceF ring mates signs dresses)
structure Wf (ring : List Int) (mates : List (List Int)) (signs dresses : List Str) : Prop where
  ring5 : ring.length = 5
  inR : ∀ r ∈ ring, 0 ≤ r ∧ r < 5
  mates5 : mates.length = 5
  rows : ∀ row ∈ mates, row.length ≤ 10
  signs5 : signs.length = 5
  dresses5 : dresses.length = 5
  sg : ∀ x ∈ signs, x.length ≤ 100
  dr : ∀ x ∈ dresses, x.length ≤ 100
theorem getD_mem {α : Type} {l : List α} {d : α} {i : Nat} (h : i < l.length) : l.getD i d ∈ l := by
  rw [List.getD_eq_getElem?_getD, List.getElem?_eq_getElem h]; exact List.getElem_mem _

section
variable {prog : Program} {w : World} {A : Around} {s₀ s s' : Shared} {env : Env} {m : Mp} {pos : Pos} {E : Value → Shared → Prop}
theorem pt_row {value slice : Expr} {lm : Addr} {mates : List (List Int)} {x : Int} (hm : Nest s₀.heap lm mates) (ho : PV prog w A s₀ (eval value env) (fun u => u = .ref lm)) (hi : PV prog w A s₀ (eval slice env) (IsI x)) (h0 : 0 ≤ x) (h1 : x < mates.length) (hz : mates.length ≤ 1000)
    (hs : ∀ t, subscripted slice false (.ref lm) (.int x t) = operate [.ref lm, .int x t] (getItem (.ref lm) (.int x t)) := by intro _; with_unfolding_all rfl) :
    PV prog w A s₀ (eval (.Subscript value slice pos) env) (fun v => ∃ a, v = .ref a ∧ ILs s₀.heap a (rowOf mates x)) := by
  obtain ⟨vs, hl, ha⟩ := hm
  have hlt : x.toNat < mates.length := by (first | with_reducible assumption | exact Int.natCast_nonneg _ | exact Nat.le_trans (by with_reducible assumption) (by decide) | exact Int.ofNat_lt.mpr (by with_reducible assumption) | exact (Int.toNat_lt (by with_reducible assumption)).mpr (by with_reducible assumption) | omega)
  obtain ⟨v, hv, r⟩ := ha.get (List.getElem?_eq_getElem hlt)
  refine pt_of_name (pt_item hl ho hi (.inl ⟨h0, hv⟩) (by rw [ha.len, sizeLine_eq]; (first | with_reducible assumption | exact Int.natCast_nonneg _ | exact Nat.le_trans (by with_reducible assumption) (by decide) | exact Int.ofNat_lt.mpr (by with_reducible assumption) | exact (Int.toNat_lt (by with_reducible assumption)).mpr (by with_reducible assumption) | omega)) hs) ?_
  unfold rowOf
  rw [List.getD_eq_getElem?_getD, List.getElem?_eq_getElem hlt]
  exact r
theorem pt_sgn {value slice : Expr} {ls : Addr} {signs : List Str} {x : Int} (hm : SLs s₀.heap ls signs) (ho : PV prog w A s₀ (eval value env) (fun u => u = .ref ls)) (hi : PV prog w A s₀ (eval slice env) (IsI x)) (h0 : 0 ≤ x) (h1 : x < signs.length) (hz : signs.length ≤ 1000)
    (hs : ∀ t, subscripted slice false (.ref ls) (.int x t) = operate [.ref ls, .int x t] (getItem (.ref ls) (.int x t)) := by intro _; with_unfolding_all rfl) :
    PV prog w A s₀ (eval (.Subscript value slice pos) env) (IsS (signOf signs x)) := by
  obtain ⟨vs, hl, ha⟩ := hm
  obtain ⟨v, hv, r⟩ := sign_at ha h0 h1
  exact pt_of_name (pt_item hl ho hi (.inl ⟨h0, hv⟩) (by rw [ha.len, sizeLine_eq]; (first | with_reducible assumption | exact Int.natCast_nonneg _ | exact Nat.le_trans (by with_reducible assumption) (by decide) | exact Int.ofNat_lt.mpr (by with_reducible assumption) | exact (Int.toNat_lt (by with_reducible assumption)).mpr (by with_reducible assumption) | omega)) hs) r
theorem pt_num {value slice : Expr} {ls : Addr} {xs : List Int} {x : Int} (hm : ILs s₀.heap ls xs) (ho : PV prog w A s₀ (eval value env) (fun u => u = .ref ls)) (hi : PV prog w A s₀ (eval slice env) (IsI x)) (h0 : 0 ≤ x) (h1 : x < xs.length) (hz : xs.length ≤ 1000)
    (hs : ∀ t, subscripted slice false (.ref ls) (.int x t) = operate [.ref ls, .int x t] (getItem (.ref ls) (.int x t)) := by intro _; with_unfolding_all rfl) :
    PV prog w A s₀ (eval (.Subscript value slice pos) env) (IsI (xs.getD x.toNat 0)) := by
  obtain ⟨vs, hl, ha⟩ := hm
  have hlt : x.toNat < xs.length := by (first | with_reducible assumption | exact Int.natCast_nonneg _ | exact Nat.le_trans (by with_reducible assumption) (by decide) | exact Int.ofNat_lt.mpr (by with_reducible assumption) | exact (Int.toNat_lt (by with_reducible assumption)).mpr (by with_reducible assumption) | omega)
  obtain ⟨v, hv, r⟩ := ha.get (List.getElem?_eq_getElem hlt)
  refine pt_of_name (pt_item hl ho hi (.inl ⟨h0, hv⟩) (by rw [ha.len, sizeLine_eq]; (first | with_reducible assumption | exact Int.natCast_nonneg _ | exact Nat.le_trans (by with_reducible assumption) (by decide) | exact Int.ofNat_lt.mpr (by with_reducible assumption) | exact (Int.toNat_lt (by with_reducible assumption)).mpr (by with_reducible assumption) | omega)) hs) ?_
  rw [List.getD_eq_getElem?_getD, List.getElem?_eq_getElem hlt]
  exact r
theorem mulOk_one {x : Str} {n : Int} (hx : x.length = 1) (h0 : n ≤ 1000) (h1 : -1000 ≤ n) : MulOk x n := by
  refine ⟨?_, fun h _ => ?_, fun h _ => ?_⟩
  · simp only [Bool.or_eq_false_iff, decide_eq_false_iff_not]; (first | with_reducible assumption | exact Int.natCast_nonneg _ | exact Nat.le_trans (by with_reducible assumption) (by decide) | exact Int.ofNat_lt.mpr (by with_reducible assumption) | exact (Int.toNat_lt (by with_reducible assumption)).mpr (by with_reducible assumption) | omega)
  · rw [hx]
    have : (1 : Int) ≤ (2 ^ 63 - 1) / n := Int.le_ediv_of_mul_le (by (first | with_reducible assumption | exact Int.natCast_nonneg _ | exact Nat.le_trans (by with_reducible assumption) (by decide) | exact Int.ofNat_lt.mpr (by with_reducible assumption) | exact (Int.toNat_lt (by with_reducible assumption)).mpr (by with_reducible assumption) | omega)) (by (first | with_reducible assumption | exact Int.natCast_nonneg _ | exact Nat.le_trans (by with_reducible assumption) (by decide) | exact Int.ofNat_lt.mpr (by with_reducible assumption) | exact (Int.toNat_lt (by with_reducible assumption)).mpr (by with_reducible assumption) | omega))
    (first | with_reducible assumption | exact Int.natCast_nonneg _ | exact Nat.le_trans (by with_reducible assumption) (by decide) | exact Int.ofNat_lt.mpr (by with_reducible assumption) | exact (Int.toNat_lt (by with_reducible assumption)).mpr (by with_reducible assumption) | omega)
  · rw [hx]
    unfold Builtin.Str.tooLong
    rw [sizeLine_eq]
    simp only [decide_eq_false_iff_not]; (first | with_reducible assumption | exact Int.natCast_nonneg _ | exact Nat.le_trans (by with_reducible assumption) (by decide) | exact Int.ofNat_lt.mpr (by with_reducible assumption) | exact (Int.toNat_lt (by with_reducible assumption)).mpr (by with_reducible assumption) | omega)
theorem mul_len {x : Str} {n : Int} (hx : x.length = 1) (h0 : n ≤ 1000) : (Txt.mul x n).length ≤ 1000 := by
  have := len_mul_leN (x := x) (n := n) (L := 1) (N := 1000) (Nat.le_of_eq hx) h0
  (first | with_reducible assumption | exact Int.natCast_nonneg _ | exact Nat.le_trans (by with_reducible assumption) (by decide) | exact Int.ofNat_lt.mpr (by with_reducible assumption) | exact (Int.toNat_lt (by with_reducible assumption)).mpr (by with_reducible assumption) | omega)

set_option maxHeartbeats 4000000 in
theorem pieces_pt {d : Nat} {lr lm ls ld : Addr} {ring : List Int} {mates : List (List Int)} {signs dresses : List Str} (C : Cx A (d + 2)) (T : Tp w s₀) (wf : Wf ring mates signs dresses)
    (hr : ILs s₀.heap lr ring) (hm : Nest s₀.heap lm mates) (hs : SLs s₀.heap ls signs) (hdd : SLs s₀.heap ld dresses) :
    PT prog w A s₀ (call (.ref 94) [.ref lr, .ref lm, .ref ls, .ref ld]) (fun v s' => ∃ D ws, v = .ref D ∧ s₀.heap.get? D = none ∧ s'.heap.PlainList D ws.toArray ∧ Strs ws (piecesF ring mates signs dresses)) := by
  have X := T.k
  have C1 : Cx A (d + 1 + 1) := C
  refine' pt_enterC (d := d + 1) (binds := [(Str.ofString "ring", .ref lr), (Str.ofString "mates", .ref lm), (Str.ofString "signs", .ref ls), (Str.ofString "dresses", .ref ld)]) ?C ?T ?ho ?hcd ?hb ?hki ?hnd ?c ?g ?k ?_
  ((case C => assumption); (case T => assumption); (case ho => k_is); (case hcd => k_is); (case hb => rfl); (case hki => rfl); (case hnd => decide); (case c => rfl); (case g => rfl); (case k => rfl))
  intro s L s₁ l F hg C'
  have hzl : sizeLine = 16777216 := sizeLine_eq
  refine wp_assign F pt_nil ?_
  rintro v2 s₂ l2 ⟨D, rfl, hD, hP⟩ s₃ F3 B3 g3
  obtain ⟨hDf, hD0⟩ := F.fresh hD
  have hP3 : s₃.heap.PlainList D ([] : List Value).toArray := hP.at fun o e => B3 D o hDf e
  have T3 : Tp w s₃ := T.le (l.trans F3.le)
  obtain ⟨JJ, hJJ⟩ : ∃ J : Nat → Mp → Shared → Prop, ∀ i m s', J i m s' ↔ (∃ ws, s'.heap.PlainList D ws.toArray ∧ Strs ws ((List.range i).map (pieceF ring mates signs dresses)) ∧ m.lookup (Str.ofString "ring") = some (.ref lr) ∧ m.lookup (Str.ofString "mates") = some (.ref lm) ∧ m.lookup (Str.ofString "signs") = some (.ref ls) ∧ m.lookup (Str.ofString "dresses") = some (.ref ld) ∧ m.lookup (Str.ofString "pieces") = some (.ref D)) := ⟨_, fun _ _ _ => Iff.rfl⟩
  refine wp_for (D := [D]) (src := []) (n := 5) (P := fun i v => IsI (0 + i) v) (s₀ := s) JJ
    F3 (pt_range1 (pt_builtin T3 rfl (by k_is) rfl) (pt_int 5 _ _)) (fun v s4 l4 zq0 => by obtain ⟨r, t, u, x, e, hrg⟩ := zq0; rw [e]; exact src_range C'.hh hrg (by decide) (by decide)) (fun b hb => nomatch hb)
    (fun b hb => by rw [List.mem_singleton.mp hb]; exact ⟨hD0, hDf, (by obtain ⟨n, e⟩ := hP3; exact ⟨_, e⟩)⟩) ?_ ?_ ?_ ?_
  · intro i m s4 s5 hj hk
    obtain ⟨ws, h1, r⟩ := (hJJ _ _ _).mp hj
    exact (hJJ _ _ _).mpr ⟨ws, h1.at fun o e => hk D (by simp) o e, r⟩
  · exact (hJJ _ _ _).mpr ⟨[], hP3, .nil, rfl, rfl, rfl, rfl, rfl⟩
  · intro i vp a m s4 hi hp la ha F4 hj
    obtain ⟨ws, h1, hW, m1, m2, m3, m4, m5⟩ := (hJJ _ _ _).mp hj
    have up : ∀ {y : Str} {v : Value}, y ≠ Str.ofString "p" → m.lookup y = some v → List.lookup y ((Str.ofString "p", vp) :: m) = some v := fun h e => (lookup_cons_ne h).trans e
    rw [Int.zero_add] at hp
    have le4 : Le s₀ s4 := l.trans (la.trans F4.le)
    have hlt : i < ring.length := by rw [wf.ring5]; exact hi
    have hxe : ring.getD ((i : Int)).toNat 0 = ring.getD i 0 := rfl
    obtain ⟨hx0, hx5⟩ := wf.inR _ (getD_mem (d := 0) hlt)
    generalize hxd : ring.getD i 0 = x at *
    -- x = ring[p]
    refine wp_assign F4 (pt_num (hr.keeps le4.keep) (pt_local F4 (up (by decide) m1)) (nm F4 lookup_cons_eq hp) (by (first | with_reducible assumption | exact Int.natCast_nonneg _ | exact Nat.le_trans (by with_reducible assumption) (by decide) | exact Int.ofNat_lt.mpr (by with_reducible assumption) | exact (Int.toNat_lt (by with_reducible assumption)).mpr (by with_reducible assumption) | omega)) (by (first | with_reducible assumption | exact Int.natCast_nonneg _ | exact Nat.le_trans (by with_reducible assumption) (by decide) | exact Int.ofNat_lt.mpr (by with_reducible assumption) | exact (Int.toNat_lt (by with_reducible assumption)).mpr (by with_reducible assumption) | omega)) (by rw [wf.ring5]; decide)) ?_
    intro v5 s₅ l5 h5 s₆ F6 B6 g6
    rw [hxe] at h5
    have le6 : Le s₀ s₆ := l.trans (la.trans F6.le)
    have T6 : Tp w s₆ := T.le le6
    have k1 := (lookup_cons_ne (x := Str.ofString "x") (v := v5) (by decide)).trans (up (by decide) m1)
    have k2 := (lookup_cons_ne (x := Str.ofString "x") (v := v5) (by decide)).trans (up (by decide) m2)
    have kp : List.lookup (Str.ofString "p") ((Str.ofString "x", v5) :: (Str.ofString "p", vp) :: m) = some vp := rfl
    have hx5' : x < mates.length := by rw [wf.mates5]; exact hx5
    obtain ⟨vr, hrl, hrI⟩ := hr.keeps le6.keep
    -- came = len([...])
    refine wp_assign F6 (pt_callLen (n := (nearIn mates x (ring.take i)).length) (pt_builtin T6 rfl (by k_is) rfl) ((pt_listmap (fun y => (rowOf mates x).any (· == y)) (fun u y => IsI y u) C'.hh (hrI.take i) ((pt_sliceNL hrl (pt_local F6 k1) (nm F6 kp hp) (by rw [hrI.len, wf.ring5, hzl]; decide)).mono fun v s' l' zq1 => (by obtain ⟨D', e, _, hp⟩ := zq1; exact ⟨D', e, hp.isList⟩)) (by rw [(hrI.take i).len, hzl, List.length_take]; (first | with_reducible assumption | exact Int.natCast_nonneg _ | exact Nat.le_trans (by with_reducible assumption) (by decide) | exact Int.ofNat_lt.mpr (by with_reducible assumption) | exact (Int.toNat_lt (by with_reducible assumption)).mpr (by with_reducible assumption) | omega)) ?_).mono fun v s' l' zq2 => (by obtain ⟨D', us, e, _, hp, ha⟩ := zq2; exact ⟨D', us, e, hp.isList, by rw [ha.len]; rfl⟩)) (by
      have : (nearIn mates x (ring.take i)).length ≤ (ring.take i).length := List.length_filter_le _ _
      rw [List.length_take] at this; rw [hzl]; (first | with_reducible assumption | exact Int.natCast_nonneg _ | exact Nat.le_trans (by with_reducible assumption) (by decide) | exact Int.ofNat_lt.mpr (by with_reducible assumption) | exact (Int.toNat_lt (by with_reducible assumption)).mpr (by with_reducible assumption) | omega))) ?_
    · intro Cc v y s7 hy hv l7 hN
      have F7 := F6.grow l7
      refine ⟨tests1 (isTrue_cmp (p2 := fun v => ∃ a, v = .ref a ∧ ILs s7.heap a (rowOf mates x)) (nm_x hN hv) (pt_row (hm.keeps (le6.trans l7).keep) (nm_f F7 k2 rfl) (nm_f F7 lookup_cons_eq h5) hx0 hx5' (by rw [wf.mates5]; decide)) fun a b s8 l8 ha zq3 => (by obtain ⟨ab, eb, vs, hl, hI⟩ := zq3; exact o_inI ha eb (hl.at fun o e => l8.keep _ o e) hI)), fun _ s8 l8 => ?_⟩
      exact nm_x ((by obtain ⟨mc, hn, e⟩ := hN; exact ⟨mc, hn.keeps l8.keep, e⟩)) hv
    intro v8 s₈ l8 h8 s₉ F9 B9 g9
    generalize hcd : (nearIn mates x (ring.take i)).length = came at h8
    have hcame : came ≤ 10 := by
      rw [← hcd]
      have : (nearIn mates x (ring.take i)).length ≤ (ring.take i).length := List.length_filter_le _ _
      rw [List.length_take] at this; (first | with_reducible assumption | exact Int.natCast_nonneg _ | exact Nat.le_trans (by with_reducible assumption) (by decide) | exact Int.ofNat_lt.mpr (by with_reducible assumption) | exact (Int.toNat_lt (by with_reducible assumption)).mpr (by with_reducible assumption) | omega)
    have le9 : Le s₀ s₉ := l.trans (la.trans F9.le)
    have T9 : Tp w s₉ := T.le le9
    have up9 : ∀ {y : Str} {v : Value}, y ≠ Str.ofString "came" → y ≠ Str.ofString "x" → y ≠ Str.ofString "p" → m.lookup y = some v → List.lookup y ((Str.ofString "came", v8) :: (Str.ofString "x", v5) :: (Str.ofString "p", vp) :: m) = some v :=
      fun h1 h2 h3 e => (lookup_cons_ne h1).trans ((lookup_cons_ne h2).trans (up h3 e))
    have q2 := up9 (by decide) (by decide) (by decide) m2
    have q3 := up9 (by decide) (by decide) (by decide) m3
    have q4 := up9 (by decide) (by decide) (by decide) m4
    have q5 := up9 (by decide) (by decide) (by decide) m5
    have qx : List.lookup (Str.ofString "x") ((Str.ofString "came", v8) :: (Str.ofString "x", v5) :: (Str.ofString "p", vp) :: m) = some v5 := rfl
    have h19 : s₉.heap.PlainList D ws.toArray := h1.at fun o e => B9 D o hDf (l8.keep _ o (B6 D o hDf (l5.keep _ o e)))
    have hrow : (rowOf mates x).length ≤ 10 := wf.rows _ (getD_mem (by (first | with_reducible assumption | exact Int.natCast_nonneg _ | exact Nat.le_trans (by with_reducible assumption) (by decide) | exact Int.ofNat_lt.mpr (by with_reducible assumption) | exact (Int.toNat_lt (by with_reducible assumption)).mpr (by with_reducible assumption) | omega)))
    have hsgx : (signOf signs x).length ≤ 100 := wf.sg _ (getD_mem (by rw [wf.signs5]; (first | with_reducible assumption | exact Int.natCast_nonneg _ | exact Nat.le_trans (by with_reducible assumption) (by decide) | exact Int.ofNat_lt.mpr (by with_reducible assumption) | exact (Int.toNat_lt (by with_reducible assumption)).mpr (by with_reducible assumption) | omega)))
    have hdrx : (signOf dresses x).length ≤ 100 := wf.dr _ (getD_mem (by rw [wf.dresses5]; (first | with_reducible assumption | exact Int.natCast_nonneg _ | exact Nat.le_trans (by with_reducible assumption) (by decide) | exact Int.ofNat_lt.mpr (by with_reducible assumption) | exact (Int.toNat_lt (by with_reducible assumption)).mpr (by with_reducible assumption) | omega)))
    have e1 : (Txt.mul cls came).length ≤ 1000 := mul_len rfl (by (first | with_reducible assumption | exact Int.natCast_nonneg _ | exact Nat.le_trans (by with_reducible assumption) (by decide) | exact Int.ofNat_lt.mpr (by with_reducible assumption) | exact (Int.toNat_lt (by with_reducible assumption)).mpr (by with_reducible assumption) | omega))
    have e2 : (Txt.mul opn ((rowOf mates x).length - came)).length ≤ 1000 := mul_len rfl (by (first | with_reducible assumption | exact Int.natCast_nonneg _ | exact Nat.le_trans (by with_reducible assumption) (by decide) | exact Int.ofNat_lt.mpr (by with_reducible assumption) | exact (Int.toNat_lt (by with_reducible assumption)).mpr (by with_reducible assumption) | omega))
    refine wp_append F9 (nm F9 q5 rfl) h19 (ha D (by simp)) hDf (pv_add_str (a := (Txt.mul cls came ++ signOf signs x) ++ signOf dresses x) (b := Txt.mul opn ((rowOf mates x).length - came))
      (pv_add_str (a := Txt.mul cls came ++ signOf signs x) (b := signOf dresses x)
        (pv_add_str (a := Txt.mul cls came) (b := signOf signs x)
          (pt_callF (f := 28) T9 (by k_is) (pt_global T9 rfl (by k_is)) (argv2 (pt_str _ _ _) (nm F9 lookup_cons_eq h8)) fun vs s' l' hv => by
            obtain ⟨a, b, rfl, ⟨ta, rfl⟩, tb, rfl⟩ := hv
            exact mul_pt (C'.le (Nat.le_refl _)) (T9.le l') (mulOk_one rfl (by (first | with_reducible assumption | exact Int.natCast_nonneg _ | exact Nat.le_trans (by with_reducible assumption) (by decide) | exact Int.ofNat_lt.mpr (by with_reducible assumption) | exact (Int.toNat_lt (by with_reducible assumption)).mpr (by with_reducible assumption) | omega)) (by (first | with_reducible assumption | exact Int.natCast_nonneg _ | exact Nat.le_trans (by with_reducible assumption) (by decide) | exact Int.ofNat_lt.mpr (by with_reducible assumption) | exact (Int.toNat_lt (by with_reducible assumption)).mpr (by with_reducible assumption) | omega))))
          (pt_sgn (hs.keeps le9.keep) (pt_local F9 q3) (nmC F9 qx h5) hx0 (by rw [wf.signs5]; exact hx5) (by rw [wf.signs5]; decide)) (by rw [hzl]; (first | with_reducible assumption | exact Int.natCast_nonneg _ | exact Nat.le_trans (by with_reducible assumption) (by decide) | exact Int.ofNat_lt.mpr (by with_reducible assumption) | exact (Int.toNat_lt (by with_reducible assumption)).mpr (by with_reducible assumption) | omega)))
        (pt_sgn (hdd.keeps le9.keep) (pt_local F9 q4) (nmC F9 qx h5) hx0 (by rw [wf.dresses5]; exact hx5) (by rw [wf.dresses5]; decide)) (by rw [hzl, Str.length_append]; (first | with_reducible assumption | exact Int.natCast_nonneg _ | exact Nat.le_trans (by with_reducible assumption) (by decide) | exact Int.ofNat_lt.mpr (by with_reducible assumption) | exact (Int.toNat_lt (by with_reducible assumption)).mpr (by with_reducible assumption) | omega)))
      (pt_callF (f := 28) T9 (by k_is) (pt_global T9 rfl (by k_is)) (argv2 (pt_str _ _ _) (pv_binop (pt_callLen (n := (rowOf mates x).length) (pt_builtin T9 rfl (by k_is) rfl) ((pt_row (hm.keeps le9.keep) (nmC (p := fun u => u = .ref lm) F9 q2 rfl) (nmC F9 qx h5) hx0 hx5' (by rw [wf.mates5]; decide)).mono fun v s' l' zq4 => (by obtain ⟨a, e, vs, hl, hI⟩ := zq4; exact ⟨a, vs, e, hl.at fun o e => l'.keep _ o e, hI.len⟩)) (by rw [hzl]; (first | with_reducible assumption | exact Int.natCast_nonneg _ | exact Nat.le_trans (by with_reducible assumption) (by decide) | exact Int.ofNat_lt.mpr (by with_reducible assumption) | exact (Int.toNat_lt (by with_reducible assumption)).mpr (by with_reducible assumption) | omega))) (nm F9 lookup_cons_eq h8) fun _ _ _ _ h1 h2 => o_sub h1 h2)) fun vs s' l' hv => by
            obtain ⟨a, b, rfl, ⟨ta, rfl⟩, tb, rfl⟩ := hv
            exact mul_pt (C'.le (Nat.le_refl _)) (T9.le l') (mulOk_one rfl (by (first | with_reducible assumption | exact Int.natCast_nonneg _ | exact Nat.le_trans (by with_reducible assumption) (by decide) | exact Int.ofNat_lt.mpr (by with_reducible assumption) | exact (Int.toNat_lt (by with_reducible assumption)).mpr (by with_reducible assumption) | omega)) (by (first | with_reducible assumption | exact Int.natCast_nonneg _ | exact Nat.le_trans (by with_reducible assumption) (by decide) | exact Int.ofNat_lt.mpr (by with_reducible assumption) | exact (Int.toNat_lt (by with_reducible assumption)).mpr (by with_reducible assumption) | omega)))) (by rw [hzl, Str.length_append, Str.length_append]; (first | with_reducible assumption | exact Int.natCast_nonneg _ | exact Nat.le_trans (by with_reducible assumption) (by decide) | exact Int.ofNat_lt.mpr (by with_reducible assumption) | exact (Int.toNat_lt (by with_reducible assumption)).mpr (by with_reducible assumption) | omega))) (by rw [hW.len, hzl, List.length_map, List.length_range]; (first | with_reducible assumption | exact Int.natCast_nonneg _ | exact Nat.le_trans (by with_reducible assumption) (by decide) | exact Int.ofNat_lt.mpr (by with_reducible assumption) | exact (Int.toNat_lt (by with_reducible assumption)).mpr (by with_reducible assumption) | omega)) ?_
    intro v10 s0' s₁₀ s₁₁ l10 h10 l10' F11 hP11 hk11 g11
    refine wp_end ⟨_, F11, (hJJ _ _ _).mpr ⟨_, hP11, ?_, up9 (by decide) (by decide) (by decide) m1, q2, q3, q4, q5⟩⟩
    rw [List.range_succ, List.map_append]
    refine hW.snoc ?_
    show IsS (pieceF ring mates signs dresses i) v10
    unfold pieceF
    rw [hxd, hcd]; exact h10
  · intro m s4 F4 hj
    obtain ⟨ws, h1, hW, m1, m2, m3, m4, m5⟩ := (hJJ _ _ _).mp hj
    exact wp_return1 (nm (p := fun v => v = .ref D) F4 m5 rfl) fun v s' l' ee => ⟨F4.le.trans l', D, ws, ee, none_le l hD0, h1.at fun o e => l'.keep _ o e, hW⟩
end
end Mine
end

section
open PySem PySem.W PyProof.Rows PySem.Calls
namespace Mine

noncomputable def between {α : Type} (l : List α) (i j : Nat) : List α := (l.drop (i + 1)).take (j - (i + 1))
noncomputable def withinF (ring : List Int) (mates : List (List Int)) (pieces : List Str) (i j : Nat) : Str :=
  (Txt.mul opn (nearIn mates (ring.getD i 0) (between ring i j)).length ++ Txt.join Str.empty (between pieces i j)) ++ Txt.mul cls (nearIn mates (ring.getD j 0) (between ring i j)).length
noncomputable def closeAt (ring : List Int) (mates : List (List Int)) (pieces : List Str) (i j : Nat) : Bool :=
  if (rowOf mates (ring.getD j 0)).any (· == ring.getD i 0) then checkF (withinF ring mates pieces i j) else true
noncomputable def closesF (ring : List Int) (mates : List (List Int)) (pieces : List Str) : Bool := (List.range 4).all fun a => (List.range (a + 1)).all fun i => closeAt ring mates pieces i (a + 1)

section
variable {prog : Program} {w : World} {A : Around} {s₀ s s' : Shared} {env : Env} {m : Mp} {pos : Pos} {E : Value → Shared → Prop}
theorem o_isntB {a b : Value} {x y : Bool} (ha : IsB x a) (hb : IsB y b) : PV prog w A s₀ (compareOp .IsNot a b) (IsB (x != y)) := by cases ha; cases hb; exact fun s Q E _ q => isnot_bool (q _ _ (Le.refl _) rfl)
theorem o_isB {a b : Value} {x y : Bool} (ha : IsB x a) (hb : IsB y b) : PV prog w A s₀ (compareOp .Is a b) (IsB (x == y)) := by cases ha; cases hb; exact fun s Q E _ q => PyProof.Rows.is_bool (q _ _ (Le.refl _) rfl)
theorem four {j : Nat} (h : j < 4) : j = 0 ∨ j = 1 ∨ j = 2 ∨ j = 3 := by (first | exact Int.natCast_nonneg _ | exact Nat.le_trans (by with_reducible assumption) (by decide) | exact Nat.lt_of_lt_of_le (by with_reducible assumption) (by decide) | exact Nat.lt_of_lt_of_eq (by with_reducible assumption) (Eq.symm (by with_reducible assumption)) | exact Nat.le_trans (by with_reducible assumption) (Nat.le_trans (Nat.le_of_eq (by with_reducible assumption)) (by decide)) | exact Nat.succ_lt_succ (by with_reducible assumption) | exact Nat.succ_le_of_lt (by with_reducible assumption) | exact (Int.natCast_add _ _).trans (Int.add_comm _ _) | omega)
theorem between_len {α : Type} (l : List α) (i j : Nat) : (between l i j).length ≤ l.length := by unfold between; rw [List.length_take, List.length_drop]; exact Nat.le_trans (Nat.min_le_right _ _) (Nat.sub_le _ _)
theorem near_len (mates : List (List Int)) (x : Int) (ys : List Int) : (nearIn mates x ys).length ≤ ys.length := List.length_filter_le _ _
theorem within_len {ring : List Int} {mates : List (List Int)} {pieces : List Str} {i j : Nat} (h5 : ring.length = 5) (hp : pieces.length = 5) (hz : ∀ x ∈ pieces, x.length ≤ 100) : (withinF ring mates pieces i j).length ≤ 1000 := by
  unfold withinF
  rw [Str.length_append, Str.length_append]
  have h1 := near_len mates (ring.getD i 0) (between ring i j)
  have h2 := near_len mates (ring.getD j 0) (between ring i j)
  have h3 := between_len ring i j
  have e1 := len_mul_leN (x := opn) (n := ((nearIn mates (ring.getD i 0) (between ring i j)).length : Int)) (L := 1) (N := 5) (Nat.le_refl _) (by (first | exact Int.natCast_nonneg _ | exact Nat.le_trans (by with_reducible assumption) (by decide) | exact Nat.lt_of_lt_of_le (by with_reducible assumption) (by decide) | exact Nat.lt_of_lt_of_eq (by with_reducible assumption) (Eq.symm (by with_reducible assumption)) | exact Nat.le_trans (by with_reducible assumption) (Nat.le_trans (Nat.le_of_eq (by with_reducible assumption)) (by decide)) | exact Nat.succ_lt_succ (by with_reducible assumption) | exact Nat.succ_le_of_lt (by with_reducible assumption) | exact (Int.natCast_add _ _).trans (Int.add_comm _ _) | omega))
  have e2 := len_mul_leN (x := cls) (n := ((nearIn mates (ring.getD j 0) (between ring i j)).length : Int)) (L := 1) (N := 5) (Nat.le_refl _) (by (first | exact Int.natCast_nonneg _ | exact Nat.le_trans (by with_reducible assumption) (by decide) | exact Nat.lt_of_lt_of_le (by with_reducible assumption) (by decide) | exact Nat.lt_of_lt_of_eq (by with_reducible assumption) (Eq.symm (by with_reducible assumption)) | exact Nat.le_trans (by with_reducible assumption) (Nat.le_trans (Nat.le_of_eq (by with_reducible assumption)) (by decide)) | exact Nat.succ_lt_succ (by with_reducible assumption) | exact Nat.succ_le_of_lt (by with_reducible assumption) | exact (Int.natCast_add _ _).trans (Int.add_comm _ _) | omega))
  have e3 := join_len Str.empty (between pieces i j) 100 fun x hx => hz x (List.mem_of_mem_drop (List.mem_of_mem_take hx))
  have e4 := between_len pieces i j
  have e0 : Str.empty.length = 0 := rfl
  rw [e0] at e3
  have e5 : (between pieces i j).length * 100 ≤ 500 := by (first | exact Int.natCast_nonneg _ | exact Nat.le_trans (by with_reducible assumption) (by decide) | exact Nat.lt_of_lt_of_le (by with_reducible assumption) (by decide) | exact Nat.lt_of_lt_of_eq (by with_reducible assumption) (Eq.symm (by with_reducible assumption)) | exact Nat.le_trans (by with_reducible assumption) (Nat.le_trans (Nat.le_of_eq (by with_reducible assumption)) (by decide)) | exact Nat.succ_lt_succ (by with_reducible assumption) | exact Nat.succ_le_of_lt (by with_reducible assumption) | exact (Int.natCast_add _ _).trans (Int.add_comm _ _) | omega)
  (first | exact Int.natCast_nonneg _ | exact Nat.le_trans (by with_reducible assumption) (by decide) | exact Nat.lt_of_lt_of_le (by with_reducible assumption) (by decide) | exact Nat.lt_of_lt_of_eq (by with_reducible assumption) (Eq.symm (by with_reducible assumption)) | exact Nat.le_trans (by with_reducible assumption) (Nat.le_trans (Nat.le_of_eq (by with_reducible assumption)) (by decide)) | exact Nat.succ_lt_succ (by with_reducible assumption) | exact Nat.succ_le_of_lt (by with_reducible assumption) | exact (Int.natCast_add _ _).trans (Int.add_comm _ _) | omega)
theorem joinOk_between {pieces : List Str} {i j : Nat} (hp : pieces.length = 5) (hz : ∀ x ∈ pieces, x.length ≤ 100) : JoinOk Str.empty (between pieces i j) = true := by
  refine joinOk_small (b := 100) (fun x hx => hz x (List.mem_of_mem_drop (List.mem_of_mem_take hx))) ?_
  have e4 := between_len pieces i j
  have e0 : Str.empty.length = 0 := rfl
  rw [e0]; (first | exact Int.natCast_nonneg _ | exact Nat.le_trans (by with_reducible assumption) (by decide) | exact Nat.lt_of_lt_of_le (by with_reducible assumption) (by decide) | exact Nat.lt_of_lt_of_eq (by with_reducible assumption) (Eq.symm (by with_reducible assumption)) | exact Nat.le_trans (by with_reducible assumption) (Nat.le_trans (Nat.le_of_eq (by with_reducible assumption)) (by decide)) | exact Nat.succ_lt_succ (by with_reducible assumption) | exact Nat.succ_le_of_lt (by with_reducible assumption) | exact (Int.natCast_add _ _).trans (Int.add_comm _ _) | omega)

theorem closes_false {ring : List Int} {mates : List (List Int)} {pieces : List Str} {i j : Nat} (hj : j < 4) (hi : i < j + 1) (h : closeAt ring mates pieces i (j + 1) = false) : closesF ring mates pieces = false := by
  cases e : closesF ring mates pieces with
  | false => rfl
  | true =>
    unfold closesF at e
    have := List.all_eq_true.mp (List.all_eq_true.mp e j (List.mem_range.mpr hj)) i (List.mem_range.mpr hi)
    rw [h] at this; cases this

set_option maxHeartbeats 4000000 in
theorem closes_pt {d : Nat} {lr lm lp : Addr} {ring : List Int} {mates : List (List Int)} {pieces : List Str} (C : Cx A (d + 4)) (T : Tp w s₀)
    (h5 : ring.length = 5) (hR : ∀ r ∈ ring, 0 ≤ r ∧ r < 5) (hm5 : mates.length = 5) (hp5 : pieces.length = 5) (hz : ∀ x ∈ pieces, x.length ≤ 100)
    (hr : ILs s₀.heap lr ring) (hm : Nest s₀.heap lm mates) (hp : SLs s₀.heap lp pieces) :
    PV prog w A s₀ (call (.ref 99) [.ref lr, .ref lm, .ref lp]) (IsB (closesF ring mates pieces)) := by
  have X := T.k
  have C1 : Cx A (d + 3 + 1) := C
  refine' pt_enterC (d := d + 3) (binds := [(Str.ofString "ring", .ref lr), (Str.ofString "mates", .ref lm), (Str.ofString "pieces", .ref lp)]) ?C ?T ?ho ?hcd ?hb ?hki ?hnd ?c ?g ?k ?_
  ((case C => assumption); (case T => assumption); (case ho => k_is); (case hcd => k_is); (case hb => rfl); (case hki => rfl); (case hnd => decide); (case c => rfl); (case g => rfl); (case k => rfl))
  intro s L s₁ l F hg C'
  have hzl : sizeLine = 16777216 := sizeLine_eq
  have T1 : Tp w s₁ := T.le (l.trans F.le)
  have hx : ∀ i, i < 5 → 0 ≤ ring.getD i 0 ∧ ring.getD i 0 < 5 := fun i hi => hR _ (getD_mem (by (first | exact Int.natCast_nonneg _ | exact Nat.le_trans (by with_reducible assumption) (by decide) | exact Nat.lt_of_lt_of_le (by with_reducible assumption) (by decide) | exact Nat.lt_of_lt_of_eq (by with_reducible assumption) (Eq.symm (by with_reducible assumption)) | exact Nat.le_trans (by with_reducible assumption) (Nat.le_trans (Nat.le_of_eq (by with_reducible assumption)) (by decide)) | exact Nat.succ_lt_succ (by with_reducible assumption) | exact Nat.succ_le_of_lt (by with_reducible assumption) | exact (Int.natCast_add _ _).trans (Int.add_comm _ _) | omega)))
  obtain ⟨JA, hJA⟩ : ∃ J : Nat → Mp → Shared → Prop, ∀ a m s', J a m s' ↔ ((∀ a', a' < a → ∀ i, i < a' + 1 → closeAt ring mates pieces i (a' + 1) = true) ∧ m.lookup (Str.ofString "ring") = some (.ref lr) ∧ m.lookup (Str.ofString "mates") = some (.ref lm) ∧ m.lookup (Str.ofString "pieces") = some (.ref lp)) := ⟨_, fun _ _ _ => Iff.rfl⟩
  refine wp_for (D := []) (src := []) (n := 4) (P := fun i v => IsI (1 + i) v) (s₀ := s) JA
    F (pt_range2 (pt_builtin T1 rfl (by k_is) rfl) (pt_int 1 _ _) (pt_int 5 _ _)) (fun v s4 l4 zq0 => by obtain ⟨r, t, u, x, e, hrg⟩ := zq0; rw [e]; exact src_range C'.hh hrg (by decide) (by decide)) (fun b hb => nomatch hb) OwnD.nil
    (fun i m s4 s5 h _ => (hJA i m s5).mpr ((hJA i m s4).mp h)) ((hJA _ _ _).mpr ⟨fun a' h => absurd h (Nat.not_lt_zero _), rfl, rfl, rfl⟩) ?_ ?_
  · intro j vj a m s4 hj hvj la ha F4 hjA
    obtain ⟨hacc, m1, m2, m3⟩ := (hJA _ _ _).mp hjA
    have T4 : Tp w s4 := T.le (l.trans (la.trans F4.le))
    have hvj : IsI ((j + 1 : Nat) : Int) vj := by rw [show ((j + 1 : Nat) : Int) = 1 + (j : Int) by (first | exact Int.natCast_nonneg _ | exact Nat.le_trans (by with_reducible assumption) (by decide) | exact Nat.lt_of_lt_of_le (by with_reducible assumption) (by decide) | exact Nat.lt_of_lt_of_eq (by with_reducible assumption) (Eq.symm (by with_reducible assumption)) | exact Nat.le_trans (by with_reducible assumption) (Nat.le_trans (Nat.le_of_eq (by with_reducible assumption)) (by decide)) | exact Nat.succ_lt_succ (by with_reducible assumption) | exact Nat.succ_le_of_lt (by with_reducible assumption) | exact (Int.natCast_add _ _).trans (Int.add_comm _ _) | omega)]; exact hvj
    have n1 := (lookup_cons_ne (x := Str.ofString "j") (v := vj) (by decide)).trans m1
    have n2 := (lookup_cons_ne (x := Str.ofString "j") (v := vj) (by decide)).trans m2
    have n3 := (lookup_cons_ne (x := Str.ofString "j") (v := vj) (by decide)).trans m3
    obtain ⟨JB, hJB⟩ : ∃ J : Nat → Mp → Shared → Prop, ∀ b m s', J b m s' ↔ ((∀ i, i < b → closeAt ring mates pieces i (j + 1) = true) ∧ m.lookup (Str.ofString "ring") = some (.ref lr) ∧ m.lookup (Str.ofString "mates") = some (.ref lm) ∧ m.lookup (Str.ofString "pieces") = some (.ref lp) ∧ m.lookup (Str.ofString "j") = some vj) := ⟨_, fun _ _ _ => Iff.rfl⟩
    refine wp_for (D := []) (src := []) (n := j + 1) (P := fun i v => IsI (0 + i) v) (s₀ := a) JB
      F4 (pt_range1 (pt_builtin T4 rfl (by k_is) rfl) (nmC F4 lookup_cons_eq hvj)) (fun v s5 l5 zq1 => by
        obtain ⟨r, t, u, x, e, hrg⟩ := zq1
        rw [e]
        have hjj : j = 0 ∨ j = 1 ∨ j = 2 ∨ j = 3 := four hj
        rcases hjj with rfl | rfl | rfl | rfl <;> exact src_range C'.hh hrg (by decide) (by decide)) (fun b hb => nomatch hb) OwnD.nil
      (fun i m s4 s5 h _ => (hJB i m s5).mpr ((hJB i m s4).mp h)) ((hJB _ _ _).mpr ⟨fun i h => absurd h (Nat.not_lt_zero _), n1, n2, n3, lookup_cons_eq⟩) ?_ ?_
    · intro i vi a2 m s5 hi hvi la2 ha2 F5 hjB
      obtain ⟨hacc2, m1, m2, m3, m4⟩ := (hJB _ _ _).mp hjB
      rw [Int.zero_add] at hvi
      have le5 : Le s₀ s5 := l.trans (la.trans (la2.trans F5.le))
      have T5 : Tp w s5 := T.le le5
      have n1 := (lookup_cons_ne (x := Str.ofString "i") (v := vi) (by decide)).trans m1
      have n2 := (lookup_cons_ne (x := Str.ofString "i") (v := vi) (by decide)).trans m2
      have n3 := (lookup_cons_ne (x := Str.ofString "i") (v := vi) (by decide)).trans m3
      have n4 := (lookup_cons_ne (x := Str.ofString "i") (v := vi) (by decide)).trans m4
      obtain ⟨hi0, hi5⟩ := hx i (by (first | exact Int.natCast_nonneg _ | exact Nat.le_trans (by with_reducible assumption) (by decide) | exact Nat.lt_of_lt_of_le (by with_reducible assumption) (by decide) | exact Nat.lt_of_lt_of_eq (by with_reducible assumption) (Eq.symm (by with_reducible assumption)) | exact Nat.le_trans (by with_reducible assumption) (Nat.le_trans (Nat.le_of_eq (by with_reducible assumption)) (by decide)) | exact Nat.succ_lt_succ (by with_reducible assumption) | exact Nat.succ_le_of_lt (by with_reducible assumption) | exact (Int.natCast_add _ _).trans (Int.add_comm _ _) | omega))
      obtain ⟨hj0, hj5⟩ := hx (j + 1) (by (first | exact Int.natCast_nonneg _ | exact Nat.le_trans (by with_reducible assumption) (by decide) | exact Nat.lt_of_lt_of_le (by with_reducible assumption) (by decide) | exact Nat.lt_of_lt_of_eq (by with_reducible assumption) (Eq.symm (by with_reducible assumption)) | exact Nat.le_trans (by with_reducible assumption) (Nat.le_trans (Nat.le_of_eq (by with_reducible assumption)) (by decide)) | exact Nat.succ_lt_succ (by with_reducible assumption) | exact Nat.succ_le_of_lt (by with_reducible assumption) | exact (Int.natCast_add _ _).trans (Int.add_comm _ _) | omega))
      -- ring[i] in mates[ring[j]]
      refine wp_if1 (b := (rowOf mates (ring.getD (j + 1) 0)).any (· == ring.getD i 0)) (isTrue_cmp (p1 := IsI (ring.getD i 0)) (p2 := fun v => ∃ a, v = .ref a ∧ ILs s5.heap a (rowOf mates (ring.getD (j + 1) 0)))
        (pt_num (x := (i : Int)) (hr.keeps le5.keep) (nmC (p := fun u => u = .ref lr) F5 n1 rfl) (nmC F5 lookup_cons_eq hvi) (by (first | exact Int.natCast_nonneg _ | exact Nat.le_trans (by with_reducible assumption) (by decide) | exact Nat.lt_of_lt_of_le (by with_reducible assumption) (by decide) | exact Nat.lt_of_lt_of_eq (by with_reducible assumption) (Eq.symm (by with_reducible assumption)) | exact Nat.le_trans (by with_reducible assumption) (Nat.le_trans (Nat.le_of_eq (by with_reducible assumption)) (by decide)) | exact Nat.succ_lt_succ (by with_reducible assumption) | exact Nat.succ_le_of_lt (by with_reducible assumption) | exact (Int.natCast_add _ _).trans (Int.add_comm _ _) | omega)) (by (first | exact Int.natCast_nonneg _ | exact Nat.le_trans (by with_reducible assumption) (by decide) | exact Nat.lt_of_lt_of_le (by with_reducible assumption) (by decide) | exact Nat.lt_of_lt_of_eq (by with_reducible assumption) (Eq.symm (by with_reducible assumption)) | exact Nat.le_trans (by with_reducible assumption) (Nat.le_trans (Nat.le_of_eq (by with_reducible assumption)) (by decide)) | exact Nat.succ_lt_succ (by with_reducible assumption) | exact Nat.succ_le_of_lt (by with_reducible assumption) | exact (Int.natCast_add _ _).trans (Int.add_comm _ _) | omega)) (by rw [h5]; decide))
        (pt_row (hm.keeps le5.keep) (nmC (p := fun u => u = .ref lm) F5 n2 rfl) (pt_num (x := ((j + 1 : Nat) : Int)) (hr.keeps le5.keep) (nmC (p := fun u => u = .ref lr) F5 n1 rfl) (nmC F5 n4 hvj) (by (first | exact Int.natCast_nonneg _ | exact Nat.le_trans (by with_reducible assumption) (by decide) | exact Nat.lt_of_lt_of_le (by with_reducible assumption) (by decide) | exact Nat.lt_of_lt_of_eq (by with_reducible assumption) (Eq.symm (by with_reducible assumption)) | exact Nat.le_trans (by with_reducible assumption) (Nat.le_trans (Nat.le_of_eq (by with_reducible assumption)) (by decide)) | exact Nat.succ_lt_succ (by with_reducible assumption) | exact Nat.succ_le_of_lt (by with_reducible assumption) | exact (Int.natCast_add _ _).trans (Int.add_comm _ _) | omega)) (by (first | exact Int.natCast_nonneg _ | exact Nat.le_trans (by with_reducible assumption) (by decide) | exact Nat.lt_of_lt_of_le (by with_reducible assumption) (by decide) | exact Nat.lt_of_lt_of_eq (by with_reducible assumption) (Eq.symm (by with_reducible assumption)) | exact Nat.le_trans (by with_reducible assumption) (Nat.le_trans (Nat.le_of_eq (by with_reducible assumption)) (by decide)) | exact Nat.succ_lt_succ (by with_reducible assumption) | exact Nat.succ_le_of_lt (by with_reducible assumption) | exact (Int.natCast_add _ _).trans (Int.add_comm _ _) | omega)) (by rw [h5]; decide)) hj0 (by rw [hm5]; exact hj5) (by rw [hm5]; decide))
        fun x y s8 l8 ha zq2 => (by obtain ⟨ab, eb, vs, hl, hI⟩ := zq2; exact o_inI ha eb (hl.at fun o e => l8.keep _ o e) hI)) (fun hb s₆ l6 => ?_) fun hb s₆ l6 => ?_
      · have F6 := F5.grow l6
        have le6 : Le s₀ s₆ := le5.trans l6
        obtain ⟨vr, hrl, hrI⟩ := hr.keeps le6.keep
        -- ahead
        refine wp_assign_map (fun y => (rowOf mates (ring.getD i 0)).any (· == y)) (fun u y => IsI y u) F6 C'.hh (vs := between vr i (j + 1)) (xs := between ring i (j + 1)) ((hrI.drop (i + 1)).take _)
          ((pt_sliceLL (i := i + 1) (j := j + 1) hrl (nmC (p := fun u => u = .ref lr) F6 n1 rfl) (pv_add_int (nmC F6 lookup_cons_eq hvi) (pt_int 1 _ _)) (nmC F6 n4 hvj) (by rw [hrI.len, h5, hzl]; decide) (by (first | exact Int.natCast_nonneg _ | exact Nat.le_trans (by with_reducible assumption) (by decide) | exact Nat.lt_of_lt_of_le (by with_reducible assumption) (by decide) | exact Nat.lt_of_lt_of_eq (by with_reducible assumption) (Eq.symm (by with_reducible assumption)) | exact Nat.le_trans (by with_reducible assumption) (Nat.le_trans (Nat.le_of_eq (by with_reducible assumption)) (by decide)) | exact Nat.succ_lt_succ (by with_reducible assumption) | exact Nat.succ_le_of_lt (by with_reducible assumption) | exact (Int.natCast_add _ _).trans (Int.add_comm _ _) | omega)) (by rw [hrI.len, h5]; (first | exact Int.natCast_nonneg _ | exact Nat.le_trans (by with_reducible assumption) (by decide) | exact Nat.lt_of_lt_of_le (by with_reducible assumption) (by decide) | exact Nat.lt_of_lt_of_eq (by with_reducible assumption) (Eq.symm (by with_reducible assumption)) | exact Nat.le_trans (by with_reducible assumption) (Nat.le_trans (Nat.le_of_eq (by with_reducible assumption)) (by decide)) | exact Nat.succ_lt_succ (by with_reducible assumption) | exact Nat.succ_le_of_lt (by with_reducible assumption) | exact (Int.natCast_add _ _).trans (Int.add_comm _ _) | omega))).mono fun v s' l' zq3 => (by obtain ⟨D', e, _, hp⟩ := zq3; exact ⟨D', e, hp.isList⟩))
          (by have := between_len vr i (j + 1); rw [hrI.len, h5] at this; rw [hzl]; (first | exact Int.natCast_nonneg _ | exact Nat.le_trans (by with_reducible assumption) (by decide) | exact Nat.lt_of_lt_of_le (by with_reducible assumption) (by decide) | exact Nat.lt_of_lt_of_eq (by with_reducible assumption) (Eq.symm (by with_reducible assumption)) | exact Nat.le_trans (by with_reducible assumption) (Nat.le_trans (Nat.le_of_eq (by with_reducible assumption)) (by decide)) | exact Nat.succ_lt_succ (by with_reducible assumption) | exact Nat.succ_le_of_lt (by with_reducible assumption) | exact (Int.natCast_add _ _).trans (Int.add_comm _ _) | omega)) ?_ ?_
        · intro Cc v y s7 hy hv l7 hN
          have F7 := F6.grow l7
          refine ⟨tests1 (isTrue_cmp (p2 := fun v => ∃ a, v = .ref a ∧ ILs s7.heap a (rowOf mates (ring.getD i 0))) (nm_x hN hv) (pt_row (hm.keeps (le6.trans l7).keep) (nm_f F7 n2 rfl) (pt_num (x := (i : Int)) (hr.keeps (le6.trans l7).keep) (nm_f F7 n1 rfl) (nm_f F7 lookup_cons_eq hvi) (by (first | exact Int.natCast_nonneg _ | exact Nat.le_trans (by with_reducible assumption) (by decide) | exact Nat.lt_of_lt_of_le (by with_reducible assumption) (by decide) | exact Nat.lt_of_lt_of_eq (by with_reducible assumption) (Eq.symm (by with_reducible assumption)) | exact Nat.le_trans (by with_reducible assumption) (Nat.le_trans (Nat.le_of_eq (by with_reducible assumption)) (by decide)) | exact Nat.succ_lt_succ (by with_reducible assumption) | exact Nat.succ_le_of_lt (by with_reducible assumption) | exact (Int.natCast_add _ _).trans (Int.add_comm _ _) | omega)) (by (first | exact Int.natCast_nonneg _ | exact Nat.le_trans (by with_reducible assumption) (by decide) | exact Nat.lt_of_lt_of_le (by with_reducible assumption) (by decide) | exact Nat.lt_of_lt_of_eq (by with_reducible assumption) (Eq.symm (by with_reducible assumption)) | exact Nat.le_trans (by with_reducible assumption) (Nat.le_trans (Nat.le_of_eq (by with_reducible assumption)) (by decide)) | exact Nat.succ_lt_succ (by with_reducible assumption) | exact Nat.succ_le_of_lt (by with_reducible assumption) | exact (Int.natCast_add _ _).trans (Int.add_comm _ _) | omega)) (by rw [h5]; decide)) hi0 (by rw [hm5]; exact hi5) (by rw [hm5]; decide)) fun a b s8 l8 ha zq4 => (by obtain ⟨ab, eb, vs, hl, hI⟩ := zq4; exact o_inI ha eb (hl.at fun o e => l8.keep _ o e) hI)), fun _ s8 l8 => ?_⟩
          exact nm_x ((by obtain ⟨mc, hn, e⟩ := hN; exact ⟨mc, hn.keeps l8.keep, e⟩)) hv
        intro DA wA s₇ hDA hPA hIA F7 B7
        obtain ⟨hDAf, hDA0⟩ := F6.fresh hDA
        have le7 : Le s₀ s₇ := l.trans (la.trans (la2.trans F7.le))
        obtain ⟨vr, hrl, hrI⟩ := hr.keeps le7.keep
        have up : ∀ {y : Str} {v u : Value} {m' : Mp}, y ≠ Str.ofString "ahead" → m'.lookup y = some v → List.lookup y ((Str.ofString "ahead", u) :: m') = some v := fun h e => (lookup_cons_ne h).trans e
        have q1 := up (u := .ref DA) (by decide) n1
        have q2 := up (u := .ref DA) (by decide) n2
        have q3 := up (u := .ref DA) (by decide) n3
        have q4 := up (u := .ref DA) (by decide) n4
        have q5 : List.lookup (Str.ofString "i") ((Str.ofString "ahead", Value.ref DA) :: (Str.ofString "i", vi) :: m) = some vi := rfl
        -- behind
        refine wp_assign_map (fun y => (rowOf mates (ring.getD (j + 1) 0)).any (· == y)) (fun u y => IsI y u) F7 C'.hh (vs := between vr i (j + 1)) (xs := between ring i (j + 1)) ((hrI.drop (i + 1)).take _)
          ((pt_sliceLL (i := i + 1) (j := j + 1) hrl (nmC (p := fun u => u = .ref lr) F7 q1 rfl) (pv_add_int (nmC F7 q5 hvi) (pt_int 1 _ _)) (nmC F7 q4 hvj) (by rw [hrI.len, h5, hzl]; decide) (by (first | exact Int.natCast_nonneg _ | exact Nat.le_trans (by with_reducible assumption) (by decide) | exact Nat.lt_of_lt_of_le (by with_reducible assumption) (by decide) | exact Nat.lt_of_lt_of_eq (by with_reducible assumption) (Eq.symm (by with_reducible assumption)) | exact Nat.le_trans (by with_reducible assumption) (Nat.le_trans (Nat.le_of_eq (by with_reducible assumption)) (by decide)) | exact Nat.succ_lt_succ (by with_reducible assumption) | exact Nat.succ_le_of_lt (by with_reducible assumption) | exact (Int.natCast_add _ _).trans (Int.add_comm _ _) | omega)) (by rw [hrI.len, h5]; (first | exact Int.natCast_nonneg _ | exact Nat.le_trans (by with_reducible assumption) (by decide) | exact Nat.lt_of_lt_of_le (by with_reducible assumption) (by decide) | exact Nat.lt_of_lt_of_eq (by with_reducible assumption) (Eq.symm (by with_reducible assumption)) | exact Nat.le_trans (by with_reducible assumption) (Nat.le_trans (Nat.le_of_eq (by with_reducible assumption)) (by decide)) | exact Nat.succ_lt_succ (by with_reducible assumption) | exact Nat.succ_le_of_lt (by with_reducible assumption) | exact (Int.natCast_add _ _).trans (Int.add_comm _ _) | omega))).mono fun v s' l' zq5 => (by obtain ⟨D', e, _, hp⟩ := zq5; exact ⟨D', e, hp.isList⟩))
          (by have := between_len vr i (j + 1); rw [hrI.len, h5] at this; rw [hzl]; (first | exact Int.natCast_nonneg _ | exact Nat.le_trans (by with_reducible assumption) (by decide) | exact Nat.lt_of_lt_of_le (by with_reducible assumption) (by decide) | exact Nat.lt_of_lt_of_eq (by with_reducible assumption) (Eq.symm (by with_reducible assumption)) | exact Nat.le_trans (by with_reducible assumption) (Nat.le_trans (Nat.le_of_eq (by with_reducible assumption)) (by decide)) | exact Nat.succ_lt_succ (by with_reducible assumption) | exact Nat.succ_le_of_lt (by with_reducible assumption) | exact (Int.natCast_add _ _).trans (Int.add_comm _ _) | omega)) ?_ ?_
        · intro Cc v y s8 hy hv l8 hN
          have F8 := F7.grow l8
          refine ⟨tests1 (isTrue_cmp (p2 := fun v => ∃ a, v = .ref a ∧ ILs s8.heap a (rowOf mates (ring.getD (j + 1) 0))) (nm_x hN hv) (pt_row (hm.keeps (le7.trans l8).keep) (nm_f F8 q2 rfl) (pt_num (x := ((j + 1 : Nat) : Int)) (hr.keeps (le7.trans l8).keep) (nm_f F8 q1 rfl) (nm_f F8 q4 hvj) (by (first | exact Int.natCast_nonneg _ | exact Nat.le_trans (by with_reducible assumption) (by decide) | exact Nat.lt_of_lt_of_le (by with_reducible assumption) (by decide) | exact Nat.lt_of_lt_of_eq (by with_reducible assumption) (Eq.symm (by with_reducible assumption)) | exact Nat.le_trans (by with_reducible assumption) (Nat.le_trans (Nat.le_of_eq (by with_reducible assumption)) (by decide)) | exact Nat.succ_lt_succ (by with_reducible assumption) | exact Nat.succ_le_of_lt (by with_reducible assumption) | exact (Int.natCast_add _ _).trans (Int.add_comm _ _) | omega)) (by (first | exact Int.natCast_nonneg _ | exact Nat.le_trans (by with_reducible assumption) (by decide) | exact Nat.lt_of_lt_of_le (by with_reducible assumption) (by decide) | exact Nat.lt_of_lt_of_eq (by with_reducible assumption) (Eq.symm (by with_reducible assumption)) | exact Nat.le_trans (by with_reducible assumption) (Nat.le_trans (Nat.le_of_eq (by with_reducible assumption)) (by decide)) | exact Nat.succ_lt_succ (by with_reducible assumption) | exact Nat.succ_le_of_lt (by with_reducible assumption) | exact (Int.natCast_add _ _).trans (Int.add_comm _ _) | omega)) (by rw [h5]; decide)) hj0 (by rw [hm5]; exact hj5) (by rw [hm5]; decide)) fun a b s9 l9 ha zq6 => (by obtain ⟨ab, eb, vs, hl, hI⟩ := zq6; exact o_inI ha eb (hl.at fun o e => l9.keep _ o e) hI)), fun _ s9 l9 => ?_⟩
          exact nm_x ((by obtain ⟨mc, hn, e⟩ := hN; exact ⟨mc, hn.keeps l9.keep, e⟩)) hv
        intro DB wB s₈ hDB hPB hIB F8 B8
        have hPA8 : s₈.heap.PlainList DA wA.toArray := hPA.at fun o e => B8 DA o hDAf e
        have le8 : Le s₀ s₈ := l.trans (la.trans (la2.trans F8.le))
        have T8 : Tp w s₈ := T.le le8
        have up2 : ∀ {y : Str} {v u : Value} {m' : Mp}, y ≠ Str.ofString "behind" → m'.lookup y = some v → List.lookup y ((Str.ofString "behind", u) :: m') = some v := fun h e => (lookup_cons_ne h).trans e
        have r3 := up2 (u := .ref DB) (by decide) q3
        have r4 := up2 (u := .ref DB) (by decide) q4
        have r5 := up2 (u := .ref DB) (by decide) q5
        have rA : List.lookup (Str.ofString "ahead") ((Str.ofString "behind", Value.ref DB) :: (Str.ofString "ahead", Value.ref DA) :: (Str.ofString "i", vi) :: m) = some (.ref DA) := rfl
        obtain ⟨vp, hpl, hpI⟩ := hp.keeps le8.keep
        have hbl := between_len ring i (j + 1)
        have hnA := near_len mates (ring.getD i 0) (between ring i (j + 1))
        have hnB := near_len mates (ring.getD (j + 1) 0) (between ring i (j + 1))
        have e1 := len_mul_leN (x := opn) (n := ((nearIn mates (ring.getD i 0) (between ring i (j + 1))).length : Int)) (L := 1) (N := 5) (Nat.le_refl _) (by (first | exact Int.natCast_nonneg _ | exact Nat.le_trans (by with_reducible assumption) (by decide) | exact Nat.lt_of_lt_of_le (by with_reducible assumption) (by decide) | exact Nat.lt_of_lt_of_eq (by with_reducible assumption) (Eq.symm (by with_reducible assumption)) | exact Nat.le_trans (by with_reducible assumption) (Nat.le_trans (Nat.le_of_eq (by with_reducible assumption)) (by decide)) | exact Nat.succ_lt_succ (by with_reducible assumption) | exact Nat.succ_le_of_lt (by with_reducible assumption) | exact (Int.natCast_add _ _).trans (Int.add_comm _ _) | omega))
        have e2 := len_mul_leN (x := cls) (n := ((nearIn mates (ring.getD (j + 1) 0) (between ring i (j + 1))).length : Int)) (L := 1) (N := 5) (Nat.le_refl _) (by (first | exact Int.natCast_nonneg _ | exact Nat.le_trans (by with_reducible assumption) (by decide) | exact Nat.lt_of_lt_of_le (by with_reducible assumption) (by decide) | exact Nat.lt_of_lt_of_eq (by with_reducible assumption) (Eq.symm (by with_reducible assumption)) | exact Nat.le_trans (by with_reducible assumption) (Nat.le_trans (Nat.le_of_eq (by with_reducible assumption)) (by decide)) | exact Nat.succ_lt_succ (by with_reducible assumption) | exact Nat.succ_le_of_lt (by with_reducible assumption) | exact (Int.natCast_add _ _).trans (Int.add_comm _ _) | omega))
        have e3 := join_len Str.empty (between pieces i (j + 1)) 100 fun x hx => hz x (List.mem_of_mem_drop (List.mem_of_mem_take hx))
        have e4 := between_len pieces i (j + 1)
        have e0 : Str.empty.length = 0 := rfl
        rw [e0] at e3
        -- within
        refine wp_assign F8 (pv_add_str (a := Txt.mul opn (nearIn mates (ring.getD i 0) (between ring i (j + 1))).length ++ Txt.join Str.empty (between pieces i (j + 1))) (b := Txt.mul cls (nearIn mates (ring.getD (j + 1) 0) (between ring i (j + 1))).length)
          (pv_add_str (a := Txt.mul opn (nearIn mates (ring.getD i 0) (between ring i (j + 1))).length) (b := Txt.join Str.empty (between pieces i (j + 1)))
            (pv_binop (pt_str _ _ _) (pt_callLen (pt_builtin T8 rfl (by k_is) rfl) ((pt_local F8 rA).mono fun v s' l' e => ⟨DA, wA, e, (hPA8.at fun o e => l'.keep _ o e).isList, hIA.len⟩) (by rw [hzl]; exact Nat.le_trans hnA (by (first | exact Int.natCast_nonneg _ | exact Nat.le_trans (by with_reducible assumption) (by decide) | exact Nat.lt_of_lt_of_le (by with_reducible assumption) (by decide) | exact Nat.lt_of_lt_of_eq (by with_reducible assumption) (Eq.symm (by with_reducible assumption)) | exact Nat.le_trans (by with_reducible assumption) (Nat.le_trans (Nat.le_of_eq (by with_reducible assumption)) (by decide)) | exact Nat.succ_lt_succ (by with_reducible assumption) | exact Nat.succ_le_of_lt (by with_reducible assumption) | exact (Int.natCast_add _ _).trans (Int.add_comm _ _) | omega)))) fun _ _ _ _ h1 h2 => o_mulS h1 h2 (mulOk_one rfl (by (first | exact Int.natCast_nonneg _ | exact Nat.le_trans (by with_reducible assumption) (by decide) | exact Nat.lt_of_lt_of_le (by with_reducible assumption) (by decide) | exact Nat.lt_of_lt_of_eq (by with_reducible assumption) (Eq.symm (by with_reducible assumption)) | exact Nat.le_trans (by with_reducible assumption) (Nat.le_trans (Nat.le_of_eq (by with_reducible assumption)) (by decide)) | exact Nat.succ_lt_succ (by with_reducible assumption) | exact Nat.succ_le_of_lt (by with_reducible assumption) | exact (Int.natCast_add _ _).trans (Int.add_comm _ _) | omega)) (by (first | exact Int.natCast_nonneg _ | exact Nat.le_trans (by with_reducible assumption) (by decide) | exact Nat.lt_of_lt_of_le (by with_reducible assumption) (by decide) | exact Nat.lt_of_lt_of_eq (by with_reducible assumption) (Eq.symm (by with_reducible assumption)) | exact Nat.le_trans (by with_reducible assumption) (Nat.le_trans (Nat.le_of_eq (by with_reducible assumption)) (by decide)) | exact Nat.succ_lt_succ (by with_reducible assumption) | exact Nat.succ_le_of_lt (by with_reducible assumption) | exact (Int.natCast_add _ _).trans (Int.add_comm _ _) | omega))))
            (pt_join (texts := between pieces i (j + 1)) (pt_str _ _ _) ((pt_sliceLL (i := i + 1) (j := j + 1) hpl (nm (p := fun u => u = .ref lp) F8 r3 rfl) (pv_add_int (nmC F8 r5 hvi) (pt_int 1 _ _)) (nmC F8 r4 hvj) (by rw [hpI.len, hp5, hzl]; decide) (by (first | exact Int.natCast_nonneg _ | exact Nat.le_trans (by with_reducible assumption) (by decide) | exact Nat.lt_of_lt_of_le (by with_reducible assumption) (by decide) | exact Nat.lt_of_lt_of_eq (by with_reducible assumption) (Eq.symm (by with_reducible assumption)) | exact Nat.le_trans (by with_reducible assumption) (Nat.le_trans (Nat.le_of_eq (by with_reducible assumption)) (by decide)) | exact Nat.succ_lt_succ (by with_reducible assumption) | exact Nat.succ_le_of_lt (by with_reducible assumption) | exact (Int.natCast_add _ _).trans (Int.add_comm _ _) | omega)) (by rw [hpI.len, hp5]; (first | exact Int.natCast_nonneg _ | exact Nat.le_trans (by with_reducible assumption) (by decide) | exact Nat.lt_of_lt_of_le (by with_reducible assumption) (by decide) | exact Nat.lt_of_lt_of_eq (by with_reducible assumption) (Eq.symm (by with_reducible assumption)) | exact Nat.le_trans (by with_reducible assumption) (Nat.le_trans (Nat.le_of_eq (by with_reducible assumption)) (by decide)) | exact Nat.succ_lt_succ (by with_reducible assumption) | exact Nat.succ_le_of_lt (by with_reducible assumption) | exact (Int.natCast_add _ _).trans (Int.add_comm _ _) | omega))).mono fun v s' l' zq7 => (by obtain ⟨D', e, _, hp⟩ := zq7; exact ⟨D', _, e, hp.isList, (hpI.drop (i + 1)).take _⟩)) (joinOk_between hp5 hz)) (by rw [hzl]; (first | exact Int.natCast_nonneg _ | exact Nat.le_trans (by with_reducible assumption) (by decide) | exact Nat.lt_of_lt_of_le (by with_reducible assumption) (by decide) | exact Nat.lt_of_lt_of_eq (by with_reducible assumption) (Eq.symm (by with_reducible assumption)) | exact Nat.le_trans (by with_reducible assumption) (Nat.le_trans (Nat.le_of_eq (by with_reducible assumption)) (by decide)) | exact Nat.succ_lt_succ (by with_reducible assumption) | exact Nat.succ_le_of_lt (by with_reducible assumption) | exact (Int.natCast_add _ _).trans (Int.add_comm _ _) | omega)))
          (pv_binop (pt_str _ _ _) (pt_callLen (pt_builtin T8 rfl (by k_is) rfl) ((pt_local F8 lookup_cons_eq).mono fun v s' l' e => ⟨DB, wB, e, (hPB.at fun o e => l'.keep _ o e).isList, hIB.len⟩) (by rw [hzl]; exact Nat.le_trans hnB (by (first | exact Int.natCast_nonneg _ | exact Nat.le_trans (by with_reducible assumption) (by decide) | exact Nat.lt_of_lt_of_le (by with_reducible assumption) (by decide) | exact Nat.lt_of_lt_of_eq (by with_reducible assumption) (Eq.symm (by with_reducible assumption)) | exact Nat.le_trans (by with_reducible assumption) (Nat.le_trans (Nat.le_of_eq (by with_reducible assumption)) (by decide)) | exact Nat.succ_lt_succ (by with_reducible assumption) | exact Nat.succ_le_of_lt (by with_reducible assumption) | exact (Int.natCast_add _ _).trans (Int.add_comm _ _) | omega)))) fun _ _ _ _ h1 h2 => o_mulS h1 h2 (mulOk_one rfl (by (first | exact Int.natCast_nonneg _ | exact Nat.le_trans (by with_reducible assumption) (by decide) | exact Nat.lt_of_lt_of_le (by with_reducible assumption) (by decide) | exact Nat.lt_of_lt_of_eq (by with_reducible assumption) (Eq.symm (by with_reducible assumption)) | exact Nat.le_trans (by with_reducible assumption) (Nat.le_trans (Nat.le_of_eq (by with_reducible assumption)) (by decide)) | exact Nat.succ_lt_succ (by with_reducible assumption) | exact Nat.succ_le_of_lt (by with_reducible assumption) | exact (Int.natCast_add _ _).trans (Int.add_comm _ _) | omega)) (by (first | exact Int.natCast_nonneg _ | exact Nat.le_trans (by with_reducible assumption) (by decide) | exact Nat.lt_of_lt_of_le (by with_reducible assumption) (by decide) | exact Nat.lt_of_lt_of_eq (by with_reducible assumption) (Eq.symm (by with_reducible assumption)) | exact Nat.le_trans (by with_reducible assumption) (Nat.le_trans (Nat.le_of_eq (by with_reducible assumption)) (by decide)) | exact Nat.succ_lt_succ (by with_reducible assumption) | exact Nat.succ_le_of_lt (by with_reducible assumption) | exact (Int.natCast_add _ _).trans (Int.add_comm _ _) | omega))))
          (by rw [hzl, Str.length_append]; (first | exact Int.natCast_nonneg _ | exact Nat.le_trans (by with_reducible assumption) (by decide) | exact Nat.lt_of_lt_of_le (by with_reducible assumption) (by decide) | exact Nat.lt_of_lt_of_eq (by with_reducible assumption) (Eq.symm (by with_reducible assumption)) | exact Nat.le_trans (by with_reducible assumption) (Nat.le_trans (Nat.le_of_eq (by with_reducible assumption)) (by decide)) | exact Nat.succ_lt_succ (by with_reducible assumption) | exact Nat.succ_le_of_lt (by with_reducible assumption) | exact (Int.natCast_add _ _).trans (Int.add_comm _ _) | omega))) ?_
        rintro v9 s₉ l9 ⟨t9, rfl⟩ s₁₀ F10 B10 g10
        have le10 : Le s₀ s₁₀ := l.trans (la.trans (la2.trans F10.le))
        have T10 : Tp w s₁₀ := T.le le10
        refine wp_if1 (b := (checkF (withinF ring mates pieces i (j + 1)) != true)) (isTrue_cmp (p1 := IsB (checkF (withinF ring mates pieces i (j + 1)))) (p2 := IsB true) (pt_callF (f := 77) T10 (by k_is) (pt_global T10 rfl (by k_is)) (argv1 (nmS F10 lookup_cons_eq)) fun vs s' l' hv => by
          obtain ⟨v, rfl, t, rfl⟩ := hv
          exact check_pt C' (T10.le l') (within_len h5 hp5 hz)) (pt_bool true _ _) fun _ _ _ _ h1 h2 => o_isntB h1 h2) (fun hb2 s₁₁ l11 => ?_) fun hb2 s₁₁ l11 => ?_
        · have hc : closeAt ring mates pieces i (j + 1) = false := by
            unfold closeAt; rw [hb, if_pos rfl]; simpa using hb2
          refine wp_return1 (pt_bool false _ _) fun v s' l' ee => ⟨la.trans (la2.trans (F10.le.trans (l11.trans l'))), ?_⟩
          rw [closes_false hj hi hc]; exact ee
        · have hc : closeAt ring mates pieces i (j + 1) = true := by
            unfold closeAt; rw [hb, if_pos rfl]; simpa using hb2
          refine wp_end (wp_end ⟨_, F10.grow l11, (hJB _ _ _).mpr ⟨fun i' hi' => ?_, ?_, ?_, ?_, ?_⟩⟩)
          · rcases Nat.lt_succ_iff_lt_or_eq.mp hi' with h | rfl
            · exact hacc2 i' h
            · exact hc
          · exact (lookup_cons_ne (by decide)).trans (up2 (by decide) q1)
          · exact (lookup_cons_ne (by decide)).trans (up2 (by decide) q2)
          · exact (lookup_cons_ne (by decide)).trans r3
          · exact (lookup_cons_ne (by decide)).trans r4
      · have hc : closeAt ring mates pieces i (j + 1) = true := by unfold closeAt; rw [hb]; rfl
        refine wp_end ⟨_, F5.grow l6, (hJB _ _ _).mpr ⟨fun i' hi' => ?_, n1, n2, n3, n4⟩⟩
        rcases Nat.lt_succ_iff_lt_or_eq.mp hi' with h | rfl
        · exact hacc2 i' h
        · exact hc
    · intro m s5 F5 hjB
      obtain ⟨hacc2, m1, m2, m3, m4⟩ := (hJB _ _ _).mp hjB
      refine wp_end ⟨_, F5, (hJA _ _ _).mpr ⟨fun a' ha' => ?_, m1, m2, m3⟩⟩
      rcases Nat.lt_succ_iff_lt_or_eq.mp ha' with h | rfl
      · exact hacc a' h
      · exact hacc2
  · intro m s4 F4 hjA
    obtain ⟨hacc, m1, m2, m3⟩ := (hJA _ _ _).mp hjA
    refine wp_return1 (pt_bool true _ _) fun v s' l' ee => ⟨F4.le.trans l', ?_⟩
    have : closesF ring mates pieces = true := by
      unfold closesF
      rw [List.all_eq_true]
      intro a ha
      rw [List.all_eq_true]
      intro i hi
      exact hacc a (List.mem_range.mp ha) i (List.mem_range.mp hi)
    rw [this]; exact ee
end
end Mine
end

section
open PySem PySem.W PyProof.Rows PySem.Calls
namespace Mine
theorem strs_are {vs : List Value} {xs : List Str} (h : Strs vs xs) : StrsAre vs xs := by
  induction h with
  | nil => exact .nil
  | cons hd _ ih => obtain ⟨t, rfl⟩ := hd; exact .cons _ _ ih
/-- the items in the order of their keys -/
noncomputable def SortOut (keys : List Str) (vs out : List Value) : Prop := ∃ ps : List (Str × Value), ps.Perm (keys.zip vs) ∧ out = ps.map Prod.snd ∧ ps.Pairwise fun p q => ¬ q.1.cps.toList < p.1.cps.toList
section
variable {prog : Program} {w : World} {A : Around} {s₀ s s' : Shared} {E : Value → Shared → Prop}
theorem Le.upd {s₀ s : Shared} {a : Addr} {f : Obj → Obj} (l : Le s₀ s) (h : s₀.heap.get? a = none) : Le s₀ { s with heap := s.heap.update a f } :=
  ⟨fun b o e => (Heap.get?_update_ne _ _ _ _ (fun q => by rw [q, h] at e; cases e)).trans (l.keep b o e), l.gens, l.bare, l.os, l.tk⟩

theorem sort_out {keys : Array Value} {vs : List Value} {kz : List Str} (hk : Strs keys.toList kz) {xs : Array Keyed} (hp : xs.Perm (keys.zip vs.toArray)) (hs : SortedToK strKind xs xs.size) : SortOut kz vs (xs.map (·.2)).toList := by
  have hl : xs.toList.Perm (keys.toList.zip vs) := by rw [← ksk_zip]; exact Array.perm_iff_toList_perm.mp hp
  have hS := strs_are hk
  refine ⟨xs.toList.map (fun p : Keyed => (strOf p.1, p.2)), ?_, ?_, ?_⟩
  · have e2 : (keys.toList.zip vs).map (fun p : Keyed => (strOf p.1, p.2)) = kz.zip vs := by
      rw [← hS.strs, List.zip_map_left]
      exact List.map_congr_left fun zq0 _ => (by obtain ⟨x, y⟩ := zq0; exact rfl)
    rw [← e2]; exact hl.map _
  · rw [Array.toList_map, List.map_map]; rfl
  · rw [List.pairwise_iff_getElem]
    intro i j hi hj hij
    have hi' : i < xs.size := by simpa using hi
    have hj' : j < xs.size := by simpa using hj
    have q := hs i j (Nat.le_of_lt hij) hj'
    have mem : ∀ k (hk : k < xs.size), ∃ x t, xs[k].1 = .str x t := fun k hk => by
      have h1 : xs[k] ∈ keys.toList.zip vs := hl.mem_iff.mp (by simp)
      exact hS.all _ (List.of_mem_zip (a := xs[k].1) (b := xs[k].2) h1).1
    obtain ⟨x, t, ex⟩ := mem i hi'
    obtain ⟨y, u, ey⟩ := mem j hj'
    rw [KK_str hi' (x := x) (t := t) (q := xs[i].2) (Prod.ext ex rfl), KK_str hj' (x := y) (t := u) (q := xs[j].2) (Prod.ext ey rfl)] at q
    simp only [List.getElem_map, Array.getElem_toList]
    rw [show strOf xs[i].1 = x by rw [ex]; rfl, show strOf xs[j].1 = y by rw [ey]; rfl]
    have q' : decide (y.cps.toList < x.cps.toList) = false := q
    exact of_decide_eq_false q'

theorem sort_tree {a : Addr} {q : Value} {vs : List Value} {kz : List Str} {n : Nat} {P : PySem.Fin → Shared → Prop} (l : Le s₀ s) (ho : s.heap.get? a = some (seqObj "list" vs.toArray n)) (ha0 : s₀.heap.get? a = none)
    (hlen : kz.length = vs.length) (h2 : 2 ≤ vs.length) (h64 : vs.length < 64)
    (turn : ∀ (i : Nat) (v : Value) (k : Str), vs[i]? = some v → kz[i]? = some k → ∀ s', Le s₀ s' → PV prog w A s' (call q [v]) (IsS k))
    (h : ∀ s' out c, Le s₀ s' → s'.heap.get? a = some (seqObj "list" out c) → SortOut kz vs out.toList → P (.done (.ret .none)) s') :
    wpAny (model prog w) A (ksk_tree a q false) P E s := by
  obtain ⟨e1, ho1⟩ : ∃ e1, (s.heap.update a (Obj.mapSeq fun _ => (#[] : Array Value))).get? a = some (seqObj "list" #[] e1) := ⟨_, get?_update_seq ho fun _ => #[]⟩
  have ha : a < s.heap.objs.size := Heap.lt_size ho
  have hzl : sizeLine = 16777216 := sizeLine_eq
  unfold ksk_tree
  refine wpAny_bind (listItems_at ho rfl ?_)
  refine wpAny_bind (listUpdate_at ho rfl ?_ (by rw [List.size_toArray, hzl]; (first | with_reducible assumption | exact Nat.lt_of_lt_of_eq (by with_reducible assumption) (Eq.symm (by with_reducible assumption)) | omega)) (Nat.zero_le _))
  refine wpAny_bind (seqEpoch_at ho1 rfl ?_)
  refine wpAny_bind (wpAny_newTuple ?_ (by show vs.length ≤ _; rw [hzl]; (first | with_reducible assumption | exact Nat.lt_of_lt_of_eq (by with_reducible assumption) (Eq.symm (by with_reducible assumption)) | omega)))
  refine wpAny_bind (wpAny_newList ?_ (Nat.zero_le _))
  refine wpAny_holding ?_
  have hkS : ((s.heap.update a (Obj.mapSeq fun _ => (#[] : Array Value))).push (seqObj "tuple" vs.toArray 0)).objs.size = s.heap.objs.size + 1 := by rw [size_push', Heap.size_update]
  have hk0 : s₀.heap.get? (s.heap.objs.size + 1) = none := none_le l (new_none _ _ (Nat.le_succ _))
  have L1 : Le s₀ { s with heap := ((s.heap.update a (Obj.mapSeq fun _ => (#[] : Array Value))).push (seqObj "tuple" vs.toArray 0)).push (seqObj "list" #[] 0) } :=
    (l.upd ha0).trans ((Le.push (tk := s.toks)).trans (Le.push (tk := s.toks)))
  have ga : (((s.heap.update a (Obj.mapSeq fun _ => (#[] : Array Value))).push (seqObj "tuple" vs.toArray 0)).push (seqObj "list" #[] 0)).get? a = some (seqObj "list" #[] e1) := Heap.get?_push_of_some _ (Heap.get?_push_of_some _ ho1)
  have gk : (((s.heap.update a (Obj.mapSeq fun _ => (#[] : Array Value))).push (seqObj "tuple" vs.toArray 0)).push (seqObj "list" #[] 0)).get? (s.heap.objs.size + 1) = some (seqObj "list" #[] 0) := by rw [← hkS]; exact Heap.get?_push_size _ rfl
  have hka : s.heap.objs.size + 1 ≠ a := Nat.ne_of_gt (Nat.lt_succ_of_lt ha)
  show wpAny (model prog w) A (ksk_rest a q false vs.toArray e1 (.ref ((s.heap.update a (Obj.mapSeq fun _ => (#[] : Array Value))).push (seqObj "tuple" vs.toArray 0)).objs.size)) P E _
  rw [hkS]
  have ga' : ({ s with heap := ((s.heap.update a (Obj.mapSeq fun _ => (#[] : Array Value))).push (seqObj "tuple" vs.toArray 0)).push (seqObj "list" #[] 0) } : Shared).heap.get? a = some (seqObj "list" #[] e1) := ga
  have gk' : ({ s with heap := ((s.heap.update a (Obj.mapSeq fun _ => (#[] : Array Value))).push (seqObj "tuple" vs.toArray 0)).push (seqObj "list" #[] 0) } : Shared).heap.get? (s.heap.objs.size + 1) = some (seqObj "list" #[] 0) := gk
  generalize s.heap.objs.size + 1 = kS at hk0 gk' hka ⊢
  generalize ({ s with heap := ((s.heap.update a (Obj.mapSeq fun _ => (#[] : Array Value))).push (seqObj "tuple" vs.toArray 0)).push (seqObj "list" #[] 0) } : Shared) = s1 at L1 ga' gk' ⊢
  unfold ksk_rest
  refine wpAny_bind (wpAny_rule ?_)
  first
    | rw [List.forIn_toArray]
    | (rw [← Array.forIn_toList]; simp only [List.toList_toArray])
    | rw [← Array.forIn_toList]
  refine wpAny_bind (ksk_fold (fun i s' => ∃ kA e, Le s₀ s' ∧ s'.heap.get? kS = some (seqObj "list" kA e) ∧ s'.heap.get? a = some (seqObj "list" #[] e1) ∧ Strs kA.toList (kz.take i)) vs 0 s1
    ⟨#[], 0, L1, gk', ga', .nil⟩ ?step ?done)
  case step =>
    rintro j x s' hx ⟨kA, e, l', nk, na, hk⟩
    simp only [Nat.zero_add] at hk ⊢
    have hj : j < vs.length := (List.getElem?_eq_some_iff.mp hx).1
    obtain ⟨k, hkj⟩ : ∃ k, kz[j]? = some k := ⟨_, List.getElem?_eq_getElem (by (first | with_reducible assumption | exact Nat.lt_of_lt_of_eq (by with_reducible assumption) (Eq.symm (by with_reducible assumption)) | omega))⟩
    have hz : kA.size ≤ vs.length := by
      have h1 := hk.len
      rw [Array.length_toList, List.length_take] at h1
      (first | with_reducible assumption | exact Nat.lt_of_lt_of_eq (by with_reducible assumption) (Eq.symm (by with_reducible assumption)) | omega)
    refine wpAny_bind (wpAny_attempt ((turn j x k hx hkj s' l').use fun v s2 l2 hv => ?_))
    have nk2 := l2.keep _ _ nk
    have na2 := l2.keep _ _ na
    have s1 := Heap.SameBut.update s2.heap kS (Obj.mapSeq (·.push v))
    obtain ⟨c2, hc2⟩ : ∃ c2, (s2.heap.update kS (Obj.mapSeq (·.push v))).get? kS = some (seqObj "list" (kA.push v) c2) := ⟨_, get?_update_seq nk2 (·.push v)⟩
    have ek : kz.take (j + 1) = kz.take j ++ [k] := by rw [List.take_add_one, hkj]; simp
    have ea : (kA.push v).toList = kA.toList ++ [v] := by simp
    refine wpAny_bind (listUpdate_at nk2 rfl ?_ (by rw [hzl]; (first | with_reducible assumption | exact Nat.lt_of_lt_of_eq (by with_reducible assumption) (Eq.symm (by with_reducible assumption)) | omega)) (Nat.le_trans (Nat.le_of_eq (Array.size_push ..)) (by rw [hzl]; (first | with_reducible assumption | exact Nat.lt_of_lt_of_eq (by with_reducible assumption) (Eq.symm (by with_reducible assumption)) | omega))))
    refine wpAny_pure ⟨rfl, kA.push v, c2, (l'.trans l2).upd hk0, hc2, (s1.2 a hka.symm).trans na2, ?_⟩
    rw [ea, ek]; exact hk.snoc hv
  case done =>
    rintro s' ⟨kA, e, l', nk, na, hk⟩
    have e3 : kz.take (0 + vs.length) = kz := List.take_of_length_le (by (first | with_reducible assumption | exact Nat.lt_of_lt_of_eq (by with_reducible assumption) (Eq.symm (by with_reducible assumption)) | omega))
    rw [e3] at hk
    have hsz : kA.size = vs.length := by have h1 := hk.len; rw [Array.length_toList] at h1; (first | with_reducible assumption | exact Nat.lt_of_lt_of_eq (by with_reducible assumption) (Eq.symm (by with_reducible assumption)) | omega)
    have hzs : (kA.zip vs.toArray).size = vs.length := by rw [Array.size_zip, hsz, List.size_toArray, Nat.min_self]
    refine wpAny_bind (listItems_at nk rfl ?_)
    unfold ksk_end
    try dsimp only
    try simp only [Bool.false_eq_true, if_false]
    have h2' : ¬ vs.toArray.size < 2 := by rw [List.size_toArray]; (first | with_reducible assumption | exact Nat.lt_of_lt_of_eq (by with_reducible assumption) (Eq.symm (by with_reducible assumption)) | omega)
    rw [if_neg h2', if_neg h2']
    obtain ⟨v₁, v₂, rest, ev⟩ : ∃ v₁ v₂ rest, kA.toList = v₁ :: v₂ :: rest := by
      have hl : 2 ≤ kA.toList.length := by rw [Array.length_toList, hsz]; exact h2
      cases q : kA.toList with
      | nil => rw [q] at hl; simp at hl
      | cons v₁ r =>
        cases r with
        | nil => rw [q] at hl; simp at hl
        | cons v₂ rest => exact ⟨v₁, v₂, rest, rfl⟩
    have ek : keyKind' kA = pure oneType' := by
      have e4 : kA = (v₁ :: v₂ :: rest).toArray := by rw [← ev, Array.toArray_toList]
      have hS := strs_are hk
      rw [ev] at hS
      rw [e4]; exact keyKind_strs hS
    rw [ek]
    refine wpAny_bind (wpAny_pure ?_)
    have hKeys : KeysOf strKind (kA.zip vs.toArray) := by
      intro p hp
      rw [ksk_zip] at hp
      obtain ⟨x, t, e⟩ := (strs_are hk).all _ (List.of_mem_zip (a := p.1) (b := p.2) hp).1
      exact ⟨x.cps.toList, by rw [e]⟩
    refine wpAny_bind (wpAny_mono (wpS_sortRunsK (κ := strKind) strKind_oneLt (a₀ := kA.zip vs.toArray) (st := SortSt.mk' oneType' (kA.zip vs.toArray) #[] 7 none)
      (Q := fun _ st' => (arrOf st').Perm (kA.zip vs.toArray) ∧ failedOf st' = none ∧ SortedToK strKind (arrOf st') (kA.zip vs.toArray).size)
      hKeys ⟨Array.Perm.refl _, rfl, rfl, rfl⟩ (by rw [hzs]; (first | with_reducible assumption | exact Nat.lt_of_lt_of_eq (by with_reducible assumption) (Eq.symm (by with_reducible assumption)) | omega)) (by rw [hzs]; exact h64) fun st' a1 a2 a3 => ⟨a1, a2, a3⟩) ?_ fun _ _ e => e)
    rintro ⟨⟨⟩, st⟩ s2 ⟨rfl, hp, hfl, hs⟩
    try dsimp only
    have hsz2 : (arrOf st).size = vs.length := by rw [hp.size_eq, hzs]
    have s3 := Heap.SameBut.update s2.heap kS (Obj.mapSeq fun _ => (#[] : Array Value))
    have na3 : (s2.heap.update kS (Obj.mapSeq fun _ => (#[] : Array Value))).get? a = some (seqObj "list" #[] e1) := (s3.2 a hka.symm).trans na
    have upd : ∀ O : Array Value, ∃ c4, ((s2.heap.update kS (Obj.mapSeq fun _ => (#[] : Array Value))).update a (Obj.mapSeq fun _ => O)).get? a = some (seqObj "list" O c4) := fun O => ⟨_, get?_update_seq na3 fun _ => O⟩
    obtain ⟨c4, hc4⟩ := upd ((arrOf st).map (·.2))
    unfold ksk_tail
    try dsimp only
    refine wpAny_bind (listUpdate_at nk rfl ?_ (by rw [hsz, hzl]; (first | with_reducible assumption | exact Nat.lt_of_lt_of_eq (by with_reducible assumption) (Eq.symm (by with_reducible assumption)) | omega)) (Nat.zero_le _))
    refine wpAny_bind (wpAny_letGo ?_)
    refine wpAny_bind (seqEpoch_at na3 rfl ?_)
    refine wpAny_bind (listUpdate_at na3 rfl ?_ (Nat.zero_le _) (by simp only [Bool.false_eq_true, if_false, Array.size_map]; rw [hsz2, hzl]; (first | with_reducible assumption | exact Nat.lt_of_lt_of_eq (by with_reducible assumption) (Eq.symm (by with_reducible assumption)) | omega)))
    rw [hfl]
    simp only [bne_self_eq_false, Bool.false_eq_true, if_false]
    exact wpAny_pure (h _ _ c4 ((l'.upd hk0).upd ha0) hc4 (sort_out hk hp (by rw [hp.size_eq]; exact hs)))

theorem o_sortedKey {q l : Addr} {vs : List Value} {kz : List Str} (hl : s₀.heap.IsList l vs.toArray) (hlen : kz.length = vs.length) (h2 : 2 ≤ vs.length) (h64 : vs.length < 64)
    (turn : ∀ (i : Nat) (v : Value) (k : Str), vs[i]? = some v → kz[i]? = some k → ∀ s', Le s₀ s' → PV prog w A.in1.in1 s' (call (.ref q) [v]) (IsS k)) :
    PT prog w A s₀ (call (.builtin "sorted") [.ref l] [(Str.ofString "key", .ref q)]) (fun v s' => ∃ D out, v = .ref D ∧ s₀.heap.get? D = none ∧ s'.heap.PlainList D (out : List Value).toArray ∧ SortOut kz vs out) := by
  intro s Q E le k
  have hzl : sizeLine = 16777216 := sizeLine_eq
  have hl' : s.heap.IsList l vs.toArray := hl.at fun o e => le.keep _ o e
  refine call_function_entry_kw kind_sorted plain_sorted entry_sorted (ksk_s1 _ _) ?_
  unfold Builtin.«sorted»
  refine wpAny_bind (m := checkCount "sorted" 1 1 _) (wpAny_pure ?_)
  refine wpAny_bind (collect_list hl' ?_ (by rw [hzl]; (first | with_reducible assumption | exact Nat.lt_of_lt_of_eq (by with_reducible assumption) (Eq.symm (by with_reducible assumption)) | omega)))
  refine wpAny_bind (wpAny_newList ?_ (by rw [hzl]; (first | with_reducible assumption | exact Nat.lt_of_lt_of_eq (by with_reducible assumption) (Eq.symm (by with_reducible assumption)) | omega)))
  have hsz : ((s.heap.push (seqObj "list" #[] 0)).update s.heap.objs.size (Obj.mapSeq (· ++ vs.toArray))).objs.size = s.heap.objs.size + 1 := by rw [Heap.size_update, size_push']
  have hoL : (((s.heap.push (seqObj "list" #[] 0)).update s.heap.objs.size (Obj.mapSeq (· ++ vs.toArray))).push (seqObj "list" vs.toArray 0)).get? (s.heap.objs.size + 1) = some (seqObj "list" vs.toArray 0) := by
    rw [← hsz]; exact Heap.get?_push_size _ rfl
  have keep : ∀ b o, s.heap.get? b = some o → (((s.heap.push (seqObj "list" #[] 0)).update s.heap.objs.size (Obj.mapSeq (· ++ vs.toArray))).push (seqObj "list" vs.toArray 0)).get? b = some o := fun b o q =>
    Heap.get?_push_of_some _ ((Heap.get?_update_ne _ _ _ _ (Nat.ne_of_lt (Heap.lt_size q))).trans (Heap.get?_push_of_some _ q))
  show wpAny _ _ _ _ _ { s with heap := ((s.heap.push (seqObj "list" #[] 0)).update s.heap.objs.size (Obj.mapSeq (· ++ vs.toArray))).push (seqObj "list" vs.toArray 0) }
  rw [hsz]
  generalize hH : ((s.heap.push (seqObj "list" #[] 0)).update s.heap.objs.size (Obj.mapSeq (· ++ vs.toArray))).push (seqObj "list" vs.toArray 0) = H at hoL keep ⊢
  have L0 : Le s { s with heap := H } := Le.of_same keep rfl rfl (Nat.le_refl _)
  have hD : s.heap.get? (s.heap.objs.size + 1) = none := new_none _ _ (Nat.le_succ _)
  refine wpAny_bind (wpAny_holding (wpAny_call_entry_kw slot_list_sort ⟨_, hoL, rfl⟩ entry_list_sort ?body (ksk_l1 _ _)))
  case body =>
    show wpAny (model prog w) A.in1.in1 (Builtin.«list.sort» ⟨[.ref (s.heap.objs.size + 1)], [(Str.ofString "key", .ref q)]⟩) _ _ _
    rw [ksk_t1]
    refine sort_tree (s₀ := s) (s := { s with heap := H }) L0 hoL hD hlen h2 h64 (fun i v k hv hk s' l' => turn i v k hv hk s' (le.trans l')) fun s' out c l' ho hout => ⟨_, rfl, ?_⟩
    have hp : s'.heap.PlainList (s.heap.objs.size + 1) out.toList.toArray := ⟨c, by rw [Array.toArray_toList]; exact ho⟩
    have hk : Q (.ref (s.heap.objs.size + 1)) s' := k _ _ l' ⟨_, out.toList, rfl, none_le le hD, hp, hout⟩
    exact wpAny_pure ⟨_, rfl, hk⟩
end
end Mine
end

section
open PySem PySem.W PyProof.Rows PySem.Calls
namespace Mine
theorem strcoll_pt {prog : Program} {w : World} {A : Around} {s₀ : Shared} {d : Nat} {a b : Str} {t u : Tok} (C : Cx A (d+1)) (T : Tp w s₀) : PV prog w A s₀ (call (.ref 84) [.str a t, .str b u]) (IsI (b2i (decide (b.cps.toList < a.cps.toList)) - b2i (decide (a.cps.toList < b.cps.toList)))) := by
  have X := T.k
  refine' pt_enter (binds := [(Str.ofString "a", .str a t), (Str.ofString "b", .str b u)]) ?C ?T ?ho ?hcd ?hb ?hl ?c ?g ?k ?cl ?_
  ((case C => assumption); (case T => assumption); (case ho => k_is); (case hcd => k_is); (case hb => exact fun s => BindsTo.of_eq rfl); (case hl => exact locs rfl); (case c => rfl); (case g => rfl); (case k => rfl); (case cl => decide))
  intro s L s₁ l F hg C'
  exact wp_return1 (pv_binop (pv_cmp (nmS F rfl) (nmS F rfl) fun _ _ _ _ => o_gtS) (pv_cmp (nmS F rfl) (nmS F rfl) fun _ _ _ _ => o_ltS) fun _ _ _ _ => o_subB) fun v s' l' p => ⟨F.le.trans l', p⟩
end Mine
end

section
open PySem PySem.W PyProof.Rows PySem.Calls
namespace Mine
open PySem.Builtin.Str (occurrences strSub partsBetween subAt strKind)

noncomputable def dots : Str := Str.ofString "..."
noncomputable def ellTail (got : Str) (e : Int) : List Str → Int → Bool
  | [], _ => true
  | w :: r, p => if findB got w p e < 0 then false else ellTail got e r (findB got w p e + w.length)
noncomputable def ellEnd (got : Str) (ws : List Str) (p e : Int) : Bool := if e < p then false else ellTail got e ws p
noncomputable def ellLast (got : Str) (ws : List Str) (z : Str) (p : Int) : Bool :=
  if z.length ≠ 0 then (if Txt.endswith got z then ellEnd got ws.dropLast p (got.length - z.length) else false) else ellEnd got ws p got.length
noncomputable def ellHead (got : Str) : List Str → Bool
  | w :: r => if w.length ≠ 0 then (if Txt.startswith got w then ellLast got r (r.getLastD Str.empty) w.length else false) else ellLast got (w :: r) ((w :: r).getLastD Str.empty) 0
  | [] => false
noncomputable def ellF (want got : Str) : Bool :=
  if (occurrences want dots 0 want.length 1).isEmpty then want == got
  else ellHead got (partsBetween want (occurrences want dots 0 want.length (want.length + 1)) dots.length)

theorem ellHead_ne {got w : Str} {r : List Str} (h : w.length ≠ 0) : ellHead got (w :: r) = if Txt.startswith got w then ellLast got r (r.getLastD Str.empty) w.length else false := if_pos h
theorem ellHead_eq {got w : Str} {r : List Str} (h : ¬ w.length ≠ 0) : ellHead got (w :: r) = ellLast got (w :: r) ((w :: r).getLastD Str.empty) 0 := if_neg h
theorem occ_more {x y : Str} (h : (occurrences x y 0 x.length 1).isEmpty = false) : (occurrences x y 0 x.length (x.length + 1)).isEmpty = false ∧ y.length ≤ x.length := by
  obtain ⟨i, h1, h2⟩ := (StrLaws.found_iff x y).mp (by rw [h]; rfl)
  refine ⟨?_, by (first | exact Nat.succ_pos _ | exact Nat.le_trans (by with_reducible assumption) (by decide) | exact Nat.le_trans (by with_reducible assumption) (by with_reducible assumption) | omega)⟩
  rcases StrLaws.occ_head x y (x.length + 1) (by (first | exact Nat.succ_pos _ | exact Nat.le_trans (by with_reducible assumption) (by decide) | exact Nat.le_trans (by with_reducible assumption) (by with_reducible assumption) | omega)) with ⟨_, hn⟩ | ⟨k, r, e, _⟩
  · exact absurd ⟨h1, h2⟩ (hn i)
  · rw [e]; rfl
theorem parts_two {x y : Str} {n : Nat} (h : (occurrences x y 0 x.length n).isEmpty = false) : ∃ a b r, partsBetween x (occurrences x y 0 x.length n) y.length = a :: b :: r := by
  cases q : occurrences x y 0 x.length n with
  | nil => rw [q] at h; cases h
  | cons c r =>
    cases r with
    | nil => exact ⟨_, _, _, rfl⟩
    | cons d r => exact ⟨_, _, _, rfl⟩
theorem seq_last {n : Nat} (h : 0 < n) : seqIndex? (-1) n = some (n - 1) := by
  rw [StrLaws.seqIndex_neg (by decide) (by (first | exact Nat.succ_pos _ | exact Nat.le_trans (by with_reducible assumption) (by decide) | exact Nat.le_trans (by with_reducible assumption) (by with_reducible assumption) | omega))]
  congr 1; (first | exact Nat.succ_pos _ | exact Nat.le_trans (by with_reducible assumption) (by decide) | exact Nat.le_trans (by with_reducible assumption) (by with_reducible assumption) | omega)
theorem eraseIdx_last {α : Type} : ∀ (l : List α), l.eraseIdx (l.length - 1) = l.dropLast
  | [] => rfl
  | [a] => rfl
  | a :: b :: r => by
    have := eraseIdx_last (b :: r)
    simp only [List.length_cons, Nat.add_sub_cancel] at this ⊢
    rw [List.eraseIdx_cons_succ, List.dropLast_cons₂, this]
theorem kind_dots (x : Str) : Builtin.Str.strKind dots ≤ Builtin.Str.strKind x := by
  have : Builtin.Str.strKind dots = 1 := by decide +kernel
  rw [this]; unfold Builtin.Str.strKind; split; decide; split <;> decide
theorem parts_le {x : Str} {k n : Nat} {cuts : List Nat} (h : x.length ≤ n) : ∀ p ∈ partsBetween x cuts k, p.length ≤ n := by
  intro p hp
  simp only [partsBetween, List.mem_map] at hp
  obtain ⟨⟨i, j⟩, _, rfl⟩ := hp
  exact Nat.le_trans (strSub_length_le ..) h
theorem parts_count (x y : Str) : (partsBetween x (occurrences x y 0 x.length (x.length + 1)) y.length).length ≤ x.length + 2 := by
  have := StrLaws.occ_length_le_len x y 0 x.length (x.length + 1)
  simp only [partsBetween, List.length_map, List.length_zip, List.length_cons, List.length_append, List.length_nil]
  (first | exact Nat.succ_pos _ | exact Nat.le_trans (by with_reducible assumption) (by decide) | exact Nat.le_trans (by with_reducible assumption) (by with_reducible assumption) | omega)
set_option maxHeartbeats 8000000 in
theorem ell_pt {prog : Program} {w : World} {A : Around} {s₀ : Shared} {d : Nat} {want got : Str} {t u : Tok} (C : Cx A (d+1)) (T : Tp w s₀) (hw : want.length ≤ 1000) (hg : got.length ≤ 1000) :
    PV prog w A s₀ (call (.ref 56) [.str want t, .str got u]) (IsB (ellF want got)) := by
  have X := T.k
  obtain ⟨tm, hM⟩ : ∃ t, nsIn (_root_.Mine.hd.heap_39 w.params) mainGlobals (Str.ofString "ELLIPSIS_MARKER") = some (some (.str dots t)) := ⟨_, by k_is⟩
  have hlen : nsIn (_root_.Mine.hd.heap_39 w.params) mainGlobals (Str.ofString "len") = some none := by k_is
  have dl : dots.length = 3 := by decide +kernel
  refine' pt_enter (binds := [(Str.ofString "want", .str want t), (Str.ofString "got", .str got u)]) ?C ?T ?ho ?hcd ?hb ?hl ?c ?g ?k ?cl ?_
  ((case C => assumption); (case T => assumption); (case ho => k_is); (case hcd => k_is); (case hb => exact fun s => BindsTo.of_eq rfl); (case hl => exact locs rfl); (case c => rfl); (case g => rfl); (case k => rfl); (case cl => decide))
  intro s L s₁ l F hgen C'
  have T1 := T.le (l.trans F.le)
  -- if ELLIPSIS_MARKER not in want: return want == got
  refine wp_if1 (isTrue_cmp (pt_of_name (p := IsS dots) (pt_global T1 rfl hM) ⟨_, rfl⟩) (nmS F rfl) fun _ _ _ _ => o_notInS) (fun hb s₂ l2 => ?_) fun hb s₂ l2 => ?_
  · have F2 := F.grow l2
    refine wp_return1 (pv_cmp (nmS F2 rfl) (nmS F2 rfl) fun _ _ _ _ => o_eqS) fun v s' l' e => ⟨F2.le.trans l', ?_⟩
    unfold ellF
    rw [if_pos hb]
    exact e
  have F2 := F.grow l2
  have T2 := T1.le l2
  obtain ⟨hne, hle⟩ := occ_more hb
  have hz : sizeLine = 16777216 := sizeLine_eq
  -- ws = want.split(ELLIPSIS_MARKER)
  refine wp_assign (P := fun v s' => ∃ D vs, v = .ref D ∧ s₂.heap.get? D = none ∧ s'.heap.PlainList D vs.toArray ∧ Strs vs (partsBetween want (occurrences want dots 0 want.length (want.length + 1)) dots.length)) F2
    (pt_methS (nmS F2 rfl) (fun _ _ _ _ h => GM.split h) (argv1 (pt_of_name (p := IsS dots) (pt_global T2 rfl hM) ⟨_, rfl⟩)) fun t' vs s' l' hv => ?_) ?_
  · obtain ⟨v, rfl, t'', rfl⟩ := hv
    exact (o_split (by rw [dl]; rfl) (kind_dots _) hne hle (by (first | exact Nat.succ_pos _ | exact Nat.le_trans (by with_reducible assumption) (by decide) | exact Nat.le_trans (by with_reducible assumption) (by with_reducible assumption) | omega))).mono fun v s'' _ zq0 => (by obtain ⟨D, vs, e, hn, h⟩ := zq0; exact ⟨D, vs, e, none_le l' hn, h⟩)
  intro v s₃ l3 hv s₄ F4 B4 g4
  obtain ⟨D, vs, rfl, hD2, hDl, hst⟩ := hv
  obtain ⟨hDf, hD0⟩ := F2.fresh hD2
  have hP4 : s₄.heap.PlainList D vs.toArray := hDl.at fun o e => B4 _ o hDf e
  have T4 := T.le (l.trans F4.le)
  obtain ⟨pa, pb, pr, hparts⟩ := parts_two hne
  have hsz : ∀ p ∈ partsBetween want (occurrences want dots 0 want.length (want.length + 1)) dots.length, p.length ≤ 1000 := parts_le hw
  have hcount : vs.length ≤ sizeLine := by
    rw [hst.len, hz]
    exact Nat.le_trans (parts_count _ _) (by (first | exact Nat.succ_pos _ | exact Nat.le_trans (by with_reducible assumption) (by decide) | exact Nat.le_trans (by with_reducible assumption) (by with_reducible assumption) | omega))
  rw [hparts] at hst hsz
  have hE : ellF want got = ellHead got (pa :: pb :: pr) := by
    unfold ellF; rw [if_neg (by rw [hb]; decide), hparts]
  -- assert len(ws) >= 2
  refine wp_assert ((isTrue_cmp (pt_callB (pt_builtin T4 rfl hlen rfl) (argv1 (nm (p := fun u => u = .ref D) F4 rfl rfl)) fun v s' l' hv => by
    obtain ⟨v, rfl, rfl⟩ := hv
    exact (o_lenL hP4.isList hcount).le l') (pt_int 2 _ _) fun _ _ _ _ => o_geI).mono fun c _ _ e => ?_) fun s₅ l5 => ?_
  · rw [e, hst.len]; simp; (first | exact Nat.succ_pos _ | exact Nat.le_trans (by with_reducible assumption) (by decide) | exact Nat.le_trans (by with_reducible assumption) (by with_reducible assumption) | omega)
  have F5 := F4.grow l5
  have T5 := T4.le l5
  have hP5 : s₅.heap.PlainList D vs.toArray := hP4.at fun o e => l5.keep _ o e
  -- startpos, endpos = (0, len(got))
  refine wp_pair F5 C'.hh (pt_pair (pt_int 0 _ _) (pt_callB (R := fun v _ => IsI got.length v) (pt_builtin T5 rfl hlen rfl) (argv1 (nmS F5 rfl)) fun v s' l' hv => by
    obtain ⟨v, rfl, t, rfl⟩ := hv
    exact o_lenS (by (first | exact Nat.succ_pos _ | exact Nat.le_trans (by with_reducible assumption) (by decide) | exact Nat.le_trans (by with_reducible assumption) (by with_reducible assumption) | omega)))) ?_
  intro vp ve s₆ s₇ hp he l6 F7 B7 g7
  have hP7 : s₇.heap.PlainList D vs.toArray := hP5.at fun o e => B7 _ o hDf (l6.keep _ o e)
  -- w = ws[0]
  obtain ⟨v0, vr, rfl, h0, hr⟩ := hst.cons_inv
  refine wp_assign F7 (pt_item (items := v0 :: vr) (x := v0) hP7.isList (nm F7 rfl rfl) (pt_int 0 _ _) (Or.inl ⟨by decide, rfl⟩) hcount) ?_
  intro v s₈ l8 ev s₉ F9 B9 g9
  subst ev
  have hP9 : s₉.heap.PlainList D (v :: vr).toArray := hP7.at fun o e => B9 _ o hDf (l8.keep _ o e)
  -- if w:
  refine wp_if_joinF (b := decide (pa.length ≠ 0)) F9 (fun FF s' => ∃ ws vs' p vp, FF [(Str.ofString "got", .str got u), (Str.ofString "ws", .ref D), (Str.ofString "startpos", vp), (Str.ofString "endpos", ve)] s' ∧ IsI p vp ∧ s'.heap.PlainList D vs'.toArray ∧ Strs vs' ws ∧
      ws ≠ [] ∧ (∀ x ∈ ws, x.length ≤ 1000) ∧ ws.length ≤ (v :: vr).length ∧ ellF want got = ellLast got ws (ws.getLastD Str.empty) p) (pt_truth (nm (p := IsS pa) F9 rfl h0) fun v s' _ e => o_truthS e (by have := hsz pa (.head _); (first | exact Nat.succ_pos _ | exact Nat.le_trans (by with_reducible assumption) (by decide) | exact Nat.le_trans (by with_reducible assumption) (by with_reducible assumption) | omega))) ?_ ?_ ?_
  · intro hne' s₁₀ l10
    have hpa : pa.length ≠ 0 := of_decide_eq_true hne'
    have F10 := F9.grow l10
    have T10 := T.le (l.trans F10.le)
    have hP10 : s₁₀.heap.PlainList D (v :: vr).toArray := hP9.at fun o e => l10.keep _ o e
    refine wp_if2 (pt_truthB (pt_methS (R := fun v _ => IsB (Txt.startswith got pa) v) (nmS F10 rfl) (fun _ _ _ _ h => GM.startswith h) (argv1 (nm (p := IsS pa) F10 rfl h0)) fun t' vs s' l' hv => by
      obtain ⟨v, rfl, t'', rfl⟩ := hv
      exact o_startswith)) (fun hsw s₁₁ l11 => ?_) fun hsw s₁₁ l11 => ?_
    · have F11 := F10.grow l11
      have T11 := T10.le l11
      refine wp_assign F11 (pt_callB (R := fun v _ => IsI pa.length v) (pt_builtin T11 rfl hlen rfl) (argv1 (nm (p := IsS pa) F11 rfl h0)) fun v s' l' hv => by
        obtain ⟨v, rfl, t, rfl⟩ := hv
        exact o_lenS (by have := hsz pa (.head _); (first | exact Nat.succ_pos _ | exact Nat.le_trans (by with_reducible assumption) (by decide) | exact Nat.le_trans (by with_reducible assumption) (by with_reducible assumption) | omega))) ?_
      intro vq s₁₂ l12 hq s₁₃ F13 B13 g13
      have hP13 : s₁₃.heap.PlainList D (v :: vr).toArray := hP10.at fun o e => B13 _ o hDf (l12.keep _ o (l11.keep _ o e))
      refine wp_del F13 hP13 hD0 hDf (nm F13 rfl rfl) (pt_int 0 _ _) (by decide) (k := 0) (by simp [seqIndex?]) hcount ?_
      intro s₁₄ F14 hP14
      refine wp_end ⟨pb :: pr, vr, pa.length, vq, F14.pick _ ⟨rfl, rfl, rfl, rfl, trivial⟩, hq, hP14, hr, by simp, fun x hx => hsz x (.tail _ hx), by rw [← hr.len]; simp, ?_⟩
      rw [hE, ellHead_ne hpa, if_pos hsw]
    · refine wp_return1 (pt_bool false _ _) fun v s' l' e => ⟨F10.le.trans (l11.trans l'), ?_⟩
      rw [hE, ellHead_ne hpa, hsw]
      exact e
  · intro hne' s₁₀ l10
    have hpa : ¬ pa.length ≠ 0 := of_decide_eq_false hne'
    have F10 := F9.grow l10
    refine ⟨pa :: pb :: pr, v :: vr, 0, vp, F10.pick _ ⟨rfl, rfl, rfl, rfl, trivial⟩, hp, hP9.at fun o e => l10.keep _ o e, hst, by simp, hsz, by rw [hst.len]; simp, ?_⟩
    rw [hE, ellHead_eq hpa]
  clear hE hP9 F9 F7 hP7 F5 hP5 F4 hP4 hst hsz
  rintro s₁₀ ⟨ws, vs', p, vp', F10, hp', hP10, hws, hwn, hwz, hwl, hE⟩
  -- w = ws[-1]
  obtain ⟨z, hz'⟩ : ∃ z, ws.getLast? = some z := by cases q : ws.getLast? with | none => exact absurd (List.getLast?_eq_none_iff.mp q) hwn | some z => exact ⟨z, rfl⟩
  obtain ⟨vz, hvz, hzS⟩ := hws.last hz'
  have hlast : ws.getLastD Str.empty = z := by rw [List.getLastD_eq_getLast?, hz']; rfl
  have hvl : 0 < vs'.length := by rw [hws.len]; cases ws with | nil => exact absurd rfl hwn | cons _ _ => simp
  have hcount' : vs'.length ≤ sizeLine := by rw [hws.len]; (first | exact Nat.succ_pos _ | exact Nat.le_trans (by with_reducible assumption) (by decide) | exact Nat.le_trans (by with_reducible assumption) (by with_reducible assumption) | omega)
  rw [hlast] at hE
  refine wp_assign F10 (pt_item (items := vs') (x := vz) (i := -1) hP10.isList (nm F10 rfl rfl) (pt_neg1 _ _) (Or.inr ⟨by decide, by (first | exact Nat.succ_pos _ | exact Nat.le_trans (by with_reducible assumption) (by decide) | exact Nat.le_trans (by with_reducible assumption) (by with_reducible assumption) | omega), by rw [show ((-1 : Int) + (vs'.length : Int)).toNat = vs'.length - 1 by (first | exact Nat.succ_pos _ | exact Nat.le_trans (by with_reducible assumption) (by decide) | exact Nat.le_trans (by with_reducible assumption) (by with_reducible assumption) | omega)]; exact hvz⟩) hcount') ?_
  intro v' s₁₁ l11 ev s₁₂ F12 B12 g12
  subst ev
  have hP12 : s₁₂.heap.PlainList D vs'.toArray := hP10.at fun o e => B12 _ o hDf (l11.keep _ o e)
  have hzz : z.length ≤ 1000 := hwz z (List.mem_of_getLast? hz')
  -- if w:
  refine wp_if_joinF (b := decide (z.length ≠ 0)) F12 (fun FF s' => ∃ ws vs' e ve, FF [(Str.ofString "got", .str got u), (Str.ofString "ws", .ref D), (Str.ofString "startpos", vp'), (Str.ofString "endpos", ve)] s' ∧ IsI e ve ∧ s'.heap.PlainList D vs'.toArray ∧ Strs vs' ws ∧
      (∀ x ∈ ws, x.length ≤ 1000) ∧ vs'.length ≤ sizeLine ∧ ellF want got = ellEnd got ws p e) (pt_truth (nm (p := IsS z) F12 rfl hzS) fun v s' _ e => o_truthS e (by (first | exact Nat.succ_pos _ | exact Nat.le_trans (by with_reducible assumption) (by decide) | exact Nat.le_trans (by with_reducible assumption) (by with_reducible assumption) | omega))) ?_ ?_ ?_
  · intro hne' s₁₃ l13
    have hpa : z.length ≠ 0 := of_decide_eq_true hne'
    have F13 := F12.grow l13
    have T13 := T.le (l.trans F13.le)
    have hP13 : s₁₃.heap.PlainList D vs'.toArray := hP12.at fun o e => l13.keep _ o e
    refine wp_if2 (pt_truthB (pt_methS (R := fun v _ => IsB (Txt.endswith got z) v) (nmS F13 rfl) (fun _ _ _ _ h => GM.endswith h) (argv1 (nm (p := IsS z) F13 rfl hzS)) fun t' vs s' l' hv => by
      obtain ⟨v, rfl, t'', rfl⟩ := hv
      exact o_endswith)) (fun hsw s₁₄ l14 => ?_) fun hsw s₁₄ l14 => ?_
    · have F14 := F13.grow l14
      have T14 := T13.le l14
      refine wp_aug F14 rfl (pt_callB (R := fun v _ => IsI z.length v) (pt_builtin T14 rfl hlen rfl) (argv1 (nm (p := IsS z) F14 rfl hzS)) fun v s' l' hv => by
        obtain ⟨v, rfl, t, rfl⟩ := hv
        exact o_lenS (by (first | exact Nat.succ_pos _ | exact Nat.le_trans (by with_reducible assumption) (by decide) | exact Nat.le_trans (by with_reducible assumption) (by with_reducible assumption) | omega))) (fun v s₁ l1 hv => o_isub he hv) ?_
      intro vq s₁₅ l15 hq s₁₆ F16 B16 g16
      have hP16 : s₁₆.heap.PlainList D vs'.toArray := hP13.at fun o e => B16 _ o hDf (l15.keep _ o (l14.keep _ o e))
      refine wp_del F16 hP16 hD0 hDf (nm F16 rfl rfl) (pt_neg1 _ _) (by decide) (k := vs'.length - 1) (seq_last hvl) hcount' ?_
      intro s₁₇ F17 hP17
      rw [eraseIdx_last] at hP17
      refine wp_end ⟨ws.dropLast, vs'.dropLast, _, vq, F17.pick _ ⟨rfl, rfl, rfl, rfl, trivial⟩, hq, hP17, hws.dropLast, fun x hx => hwz x (List.dropLast_subset _ hx), by rw [List.length_dropLast]; exact Nat.le_trans (Nat.sub_le _ _) hcount', ?_⟩
      rw [hE]; unfold ellLast
      rw [if_pos hpa, if_pos hsw]
    · refine wp_return1 (pt_bool false _ _) fun v s' l' e => ⟨F13.le.trans (l14.trans l'), ?_⟩
      rw [hE]; unfold ellLast
      rw [if_pos hpa, hsw]
      exact e
  · intro hne' s₁₃ l13
    have hpa : ¬ z.length ≠ 0 := of_decide_eq_false hne'
    have F13 := F12.grow l13
    refine ⟨ws, vs', _, ve, F13.pick _ ⟨rfl, rfl, rfl, rfl, trivial⟩, he, hP12.at fun o e => l13.keep _ o e, hws, hwz, hcount', ?_⟩
    rw [hE]; unfold ellLast
    rw [if_neg hpa]
  clear hE hP12 F12 F10 hP10 hws hwz hwl hcount' hlast hz' hvz hzS hwn
  rintro s₁₃ ⟨ws, vs', e, ve', F13, he', hP13, hws, hwz, hcount', hE⟩
  have T13 := T.le (l.trans F13.le)
  -- if startpos > endpos: return False
  refine wp_if1 (isTrue_cmp (nm F13 rfl hp') (nm F13 rfl he') fun _ _ _ _ => o_gtI) (fun hb s₁₄ l14 => ?_) fun hb s₁₄ l14 => ?_
  · refine wp_return1 (pt_bool false _ _) fun v s' l' ee => ⟨F13.le.trans (l14.trans l'), ?_⟩
    rw [hE]; unfold ellEnd
    rw [if_pos (of_decide_eq_true hb)]
    exact ee
  have hE : ellF want got = ellTail got e ws p := by rw [hE]; unfold ellEnd; rw [if_neg (of_decide_eq_false hb)]
  have F14 := F13.grow l14
  have hP14 : s₁₄.heap.PlainList D vs'.toArray := hP13.at fun o e => l14.keep _ o e
  -- for w in ws
  obtain ⟨JJ, hJJ⟩ : ∃ J : Nat → Mp → Shared → Prop, ∀ i m s', J i m s' ↔ (∃ p vp, IsI p vp ∧ m.lookup (Str.ofString "got") = some (.str got u) ∧ m.lookup (Str.ofString "startpos") = some vp ∧ m.lookup (Str.ofString "endpos") = some ve' ∧ ellF want got = ellTail got e (ws.drop i) p) := ⟨_, fun _ _ _ => Iff.rfl⟩
  refine wp_for (D := []) (src := [D]) (n := vs'.length) (P := fun i v => vs'[i]? = some v) (PI := fun v s' => v = .ref D) JJ
    F14 (nm F14 rfl rfl) (fun v s₁ l1 ev => by subst ev; exact src_list C'.hh (hP14.at fun o e => l1.keep _ o e).isList) (fun b hb => by rw [List.mem_singleton.mp hb]; exact ⟨hDf, fun h => nomatch h⟩) OwnD.nil (fun i m s4 s5 h _ => (hJJ i m s5).mpr ((hJJ i m s4).mp h))
    ((hJJ _ _ _).mpr ⟨p, vp', hp', rfl, rfl, rfl, by simpa using hE⟩) ?_ ?_
  · intro i v a m' s' hi hv la _ Fa hj
    obtain ⟨q, vq, hq, m1, m2, m3, hE⟩ := (hJJ _ _ _).mp hj
    obtain ⟨x, hx, hxS⟩ := hws.get' hv
    have hdrop : ws.drop i = x :: ws.drop (i + 1) := by
      have hlt := (List.getElem?_eq_some_iff.mp hx)
      rw [List.drop_eq_getElem_cons hlt.1, hlt.2]
    have hxz : x.length ≤ 1000 := hwz x (List.mem_of_getElem? hx)
    have k1 : List.lookup (Str.ofString "got") ((Str.ofString "w", v) :: m') = some (.str got u) := (lookup_cons_ne (by decide)).trans m1
    have k2 : List.lookup (Str.ofString "startpos") ((Str.ofString "w", v) :: m') = some vq := (lookup_cons_ne (by decide)).trans m2
    have k3 : List.lookup (Str.ofString "endpos") ((Str.ofString "w", v) :: m') = some ve' := (lookup_cons_ne (by decide)).trans m3
    have Ta := T.le (l.trans (la.trans Fa.le))
    -- startpos = got.find(w, startpos, endpos)
    refine wp_assign Fa (pt_methS (R := fun v _ => IsI (findB got x q e) v) (nmS Fa k1) (fun _ _ _ _ h => GM.find h) (argv3 (nm (p := IsS x) Fa lookup_cons_eq hxS) (nm Fa k2 hq) (nm Fa k3 he')) fun t' vs s' l' hv => by
      obtain ⟨a, b, c, rfl, ⟨_, rfl⟩, ⟨_, rfl⟩, ⟨_, rfl⟩⟩ := hv
      exact o_find4) ?_
    intro v2 s₂ l2 h2 s₃ F3 B3 g3
    refine wp_if1 (isTrue_cmp (nm F3 lookup_cons_eq h2) (pt_int 0 _ _) fun _ _ _ _ => o_ltI) (fun hb s₄ l4 => ?_) fun hb s₄ l4 => ?_
    · refine wp_return1 (pt_bool false _ _) fun v s' l' ee => ⟨la.trans (F3.le.trans (l4.trans l')), ?_⟩
      rw [hE, hdrop]; unfold ellTail
      rw [if_pos (of_decide_eq_true hb)]
      exact ee
    have F4 := F3.grow l4
    have T4 := T.le (l.trans (la.trans F4.le))
    have hE : ellF want got = ellTail got e (ws.drop (i + 1)) (findB got x q e + x.length) := by
      rw [hE, hdrop]; exact if_neg (of_decide_eq_false hb)
    -- startpos += len(w)
    refine wp_aug F4 lookup_cons_eq (pt_callB (R := fun v _ => IsI x.length v) (pt_builtin T4 rfl hlen rfl) (argv1 (nm (p := IsS x) F4 rfl hxS)) fun v s' l' hv => by
      obtain ⟨v, rfl, t, rfl⟩ := hv
      exact o_lenS (by (first | exact Nat.succ_pos _ | exact Nat.le_trans (by with_reducible assumption) (by decide) | exact Nat.le_trans (by with_reducible assumption) (by with_reducible assumption) | omega))) (fun v s₁ l1 hv => o_iadd h2 hv) ?_
    intro vq' s₅ l5 hq' s₆ F6 B6 g6
    refine wp_end ⟨_, F6, (hJJ _ _ _).mpr ⟨_, vq', hq', ?_, lookup_cons_eq, ?_, hE⟩⟩
    · exact (lookup_cons_ne (by decide)).trans ((lookup_cons_ne (by decide)).trans k1)
    · exact (lookup_cons_ne (by decide)).trans ((lookup_cons_ne (by decide)).trans k3)
  · intro m' s' F' hj
    obtain ⟨q, vq, hq, m1, m2, m3, hE⟩ := (hJJ _ _ _).mp hj
    refine wp_return1 (pt_bool true _ _) fun v s'' l' ee => ⟨F'.le.trans l', ?_⟩
    rw [hE, hws.len, List.drop_length]
    exact ee
end Mine
end

section
open PySem PySem.W PyProof.Rows PySem.Calls
namespace Mine
section
variable {prog : Program} {w : World} {A : Around} {s₀ s s' : Shared} {env : Env} {m : Mp} {pos p pos' : Pos} {E : Value → Shared → Prop} {Q : Flow → Shared → Prop}
theorem o_mod {a b : Value} {x y : Int} (ha : IsI x a) (hb : IsI y b) (h : 0 < y) : PV prog w A s₀ (binaryOp .Mod a b) (IsI (x % y)) := by
  obtain ⟨_, rfl⟩ := ha; obtain ⟨_, rfl⟩ := hb
  exact fun s Q E _ q => mod_int (by (first | exact Int.le_of_lt (by with_reducible assumption) | omega)) (q _ _ Le.toks ⟨_, by rw [Int.fmod_eq_emod_of_nonneg _ (by (first | exact Int.le_of_lt (by with_reducible assumption) | omega))]⟩)
theorem o_fdiv {a b : Value} {x y : Int} (ha : IsI x a) (hb : IsI y b) (h : 0 < y) (hp : Builtin.divisionGoesByPylong x y = false) : PV prog w A s₀ (binaryOp .FloorDiv a b) (IsI (x / y)) := by
  obtain ⟨_, rfl⟩ := ha; obtain ⟨_, rfl⟩ := hb
  exact fun s Q E _ q => floordiv_int (by (first | exact Int.le_of_lt (by with_reducible assumption) | omega)) (q _ _ Le.toks ⟨_, by rw [Int.fdiv_eq_ediv_of_nonneg _ (by (first | exact Int.le_of_lt (by with_reducible assumption) | omega))]⟩) (.inl hp)
theorem o_mulI {a b : Value} {x y : Int} (ha : IsI x a) (hb : IsI y b) (h : IntMulOk x y) : PV prog w A s₀ (binaryOp .Mult a b) (IsI (x * y)) := by
  obtain ⟨_, rfl⟩ := ha; obtain ⟨_, rfl⟩ := hb
  exact fun s Q E _ q => mul_int (q _ _ Le.toks ⟨_, rfl⟩) h
theorem o_pow {a b : Value} {x y : Int} (ha : IsI x a) (hb : IsI y b) (h : 0 ≤ y) (h2 : (Builtin.Int.intBits x : Int) * y ≤ 2 ^ 27) : PV prog w A s₀ (binaryOp .Pow a b) (IsI (x ^ y.toNat)) := by
  obtain ⟨_, rfl⟩ := ha; obtain ⟨_, rfl⟩ := hb
  exact fun s Q E _ q => pow_int h h2 (q _ _ Le.toks ⟨_, rfl⟩)
theorem noPylong {x y : Int} (h : y.natAbs < 2 ^ 30) : Builtin.divisionGoesByPylong x y = false := by
  unfold Builtin.divisionGoesByPylong
  have : y.natAbs.log2 / 30 = 0 := by
    rcases Nat.eq_zero_or_pos y.natAbs with e | e
    · rw [e]; rfl
    · exact Nat.div_eq_of_lt ((Nat.log2_lt (by (first | exact Int.le_of_lt (by with_reducible assumption) | omega))).mpr h)
  simp only [this]
  split <;> simp
theorem pt_chr {nx : Str} {np : Pos} {e : Expr} {i : Int} (hf : PV prog w A s₀ (eval (.Name nx np) env) (fun u => u = .builtin "chr")) (h : PV prog w A s₀ (eval e env) (IsI i)) (h0 : 0 ≤ i) (h1 : i ≤ 1114111)
    (he : starEach (e :: []) env = (false, eval e env) :: starEach [] env := by rfl) : PT prog w A s₀ (eval (.Call (.Name nx np) [e] [] pos) env) (fun v s' => ∃ t : Nat, v = .str ⟨#[i.toNat]⟩ t ∧ s₀.toks ≤ t ∧ t < s'.toks) :=
  pt_callB hf (argv1 h he) (fun vs s' l' hv => by
    obtain ⟨v, rfl, t, rfl⟩ := hv
    exact fun s Q E l q => chr_of_range h0 h1 (q _ _ Le.toks ⟨_, rfl, Nat.le_trans l'.tk l.tk, Nat.lt_succ_self _⟩)) he rfl

/-- lists written out, of values alone -/
inductive Args (prog : Program) (w : World) (A : Around) (env : Env) (s₀ : Shared) : List Expr → List (Value → Prop) → Prop
  | nil : Args prog w A env s₀ [] []
  | cons {e rest p ps} : PV prog w A s₀ (eval e env) p → starEach (e :: rest) env = (false, eval e env) :: starEach rest env → Args prog w A env s₀ rest ps → Args prog w A env s₀ (e :: rest) (p :: ps)
theorem Args.pt {es : List Expr} {ps : List (Value → Prop)} (h : Args prog w A env s₀ es ps) : PT prog w A s₀ (spliced (backTo pos (starEach es env))) (fun vs _ => All2 (fun v p => p v) vs ps) := by
  induction h with
  | nil => exact args0 fun _ _ => .nil
  | cons h1 he hr ih => exact argsC he h1 (fun v s₁ l _ => (show PT prog w A s₁ _ _ from ih.le l)) fun v s₁ vs s₂ _ p1 _ p2 => .cons p1 p2
theorem pt_display {es : List Expr} {ps : List (Value → Prop)} (h : Args prog w A env s₀ es ps) (hz : ps.length ≤ sizeLine) :
    PT prog w A s₀ (eval (.List es pos) env) (fun v s' => ∃ D vs, v = .ref D ∧ s₀.heap.get? D = none ∧ s'.heap.PlainList D (vs : List Value).toArray ∧ All2 (fun v p => p v) vs ps) := by
  intro s Q E l q
  refine wpAny_List_spliced (h.pt s _ E l fun vs s₁ l1 hv => ⟨by rw [hv.len]; exact hz, ?_⟩)
  exact q _ _ (l1.trans (Le.push (tk := s₁.toks))) ⟨_, vs, rfl, none_le (l.trans l1) (new_none _ _ (Nat.le_refl _)), ⟨_, Heap.get?_push_size _ rfl⟩, hv⟩
theorem args_ints {vs : List Value} : ∀ {xs : List Int}, All2 (fun v p => p v) vs (xs.map fun i => IsI i) → Ints vs xs
  | [], h => by cases h; exact .nil
  | x :: r, h => by obtain ⟨v, vr, rfl, h1, h2⟩ := h.cons_inv; exact .cons h1 (args_ints h2)
theorem args_strs {vs : List Value} : ∀ {xs : List Str}, All2 (fun v p => p v) vs (xs.map fun i => IsS i) → Strs vs xs
  | [], h => by cases h; exact .nil
  | x :: r, h => by obtain ⟨v, vr, rfl, h1, h2⟩ := h.cons_inv; exact .cons h1 (args_strs h2)

/-- script[k::5] -/
theorem pt_sliceStep {value lo st : Expr} {la : Addr} {vs : List Value} {xs : List Int} {i k : Int} {ops : Addr → Addr → List Value} (hl : s₀.heap.IsList la vs.toArray) (hx : Ints vs xs) (hv : PV prog w A s₀ (eval value env) (fun u => u = .ref la)) (h1 : PV prog w A s₀ (eval lo env) (IsI i)) (h2 : PV prog w A s₀ (eval st env) (IsI k)) (hk : k ≠ 0) (hz : vs.length ≤ sizeLine)
    (ht : ∀ o r, letTemporaryGo value o r = pure () := by intro _ _; rfl)
    (hs : ∀ a b, subscripted (.Slice (some lo) none (some st) p) false (.ref a) (.ref b) = operate (ops a b) (getItem (.ref a) (.ref b)) := by intro _ _; with_unfolding_all rfl) :
    PT prog w A s₀ (eval (.Subscript value (.Slice (some lo) none (some st) p) pos) env) (fun v s' => ∃ D ys, v = .ref D ∧ ILs s'.heap D ys) := by
  refine pt_subscript hv (P2 := fun v s' => ∃ vl vk, IsI i vl ∧ IsI k vk ∧ ∃ a, v = .ref a ∧ s'.heap.IsSliceOf a vl .none vk) (fun o s₁ l0 e => ?_) fun o v s₁ s₂ l1 e l2 hv => ?_
  · intro s Q E l q
    refine wpAny_Slice ((h1.le (l0.trans l)).use fun vl s₂ l2 hvl => ?_)
    refine wpAny_pure ?_
    refine (h2.le ((l0.trans l).trans l2)).use fun vk s₃ l3 hvk => ?_
    exact q _ _ ((l2.trans l3).trans (Le.push (tk := s₃.toks))) ⟨vl, vk, hvl, hvk, _, rfl, Heap.IsSliceOf.new ..⟩
  · subst e
    obtain ⟨vl, vk, ⟨tl, rfl⟩, ⟨tk, rfl⟩, a, rfl, hsl⟩ := hv
    intro s Q E l q
    have hl' : s.heap.IsList la vs.toArray := hl.at fun o e => ((l1.trans l2).trans l).keep _ o e
    have hsl' : s.heap.IsSliceOf a (.int i tl) .none (.int k tk) := (by obtain ⟨o, e, r⟩ := hsl; exact ⟨o, l.keep _ _ e, r⟩)
    have hnone : s₀.heap.get? s.heap.objs.size = none := none_le ((l1.trans l2).trans l) (new_none _ _ (Nat.le_refl _))
    refine tail_any (T := "list") hl'.typeIs slot_list_getitem.lookup (wpAny_getItem_list_slice hl' hsl' (.int _ _) .none (.int _ _) (by simpa using hk) ?_ (by simpa using hz)) (hs _ _)
    have hI := ints_of ((ints_are hx).pick (some i) none (some k))
    exact q _ _ (Le.push (tk := s.toks)) ⟨_, _, rfl, (slicePick vs.toArray (some i) none (some k)).toList, ⟨_, Heap.get?_push_size _ rfl, rfl, 0, by simp⟩, hI⟩
/-- sum of a list of whole numbers -/
theorem o_sum {la : Addr} {xs : List Int} (hh : A.handled = none) (hl : ILs s₀.heap la xs) : PT prog w A s₀ (call (.builtin "sum") [.ref la]) (fun v _ => ∃ i, IsI i v) := by
  refine PT.wk fun s Q E l q => ?_
  obtain ⟨vs, hl, hI⟩ := hl
  obtain ⟨ys, hy⟩ : ∃ ys : Array (Int × Tok), intItems ys = vs.toArray := by
    have key : ∀ {vs : List Value} {xs : List Int}, Ints vs xs → ∃ ys : List (Int × Tok), ys.map (fun p => Value.int p.1 p.2) = vs := by
      intro vs xs h
      induction h with
      | nil => exact ⟨[], rfl⟩
      | cons hd _ ih => obtain ⟨t, rfl⟩ := hd; obtain ⟨ys, rfl⟩ := ih; exact ⟨(_, t) :: ys, rfl⟩
    obtain ⟨ys, e⟩ := key hI
    exact ⟨ys.toArray, by simp [intItems, ← e]⟩
  have hl' : s.heap.IsList la (intItems ys) := by rw [hy]; exact hl.at fun o e => l.keep _ o e
  exact sum_intListG hh hl' fun h' tk t' hk => q _ _ (fun ht => Le.of_heap hk ht) ⟨_, _, rfl⟩
theorem o_max {a b : Value} {x y : Int} (hh : A.handled = none) (ha : IsI x a) (hb : IsI y b) : PV prog w A s₀ (call (.builtin "max") [a, b]) (IsI (max x y)) := by
  obtain ⟨ta, rfl⟩ := ha; obtain ⟨tb, rfl⟩ := hb
  refine PT.wk fun s Q E l q => max_two_ints hh fun h' tk hk => q _ _ (fun ht => Le.of_heap hk ht) ?_
  by_cases h : y > x
  · rw [if_pos h]; exact ⟨tb, by rw [show max x y = y by (first | exact Int.le_of_lt (by with_reducible assumption) | omega)]⟩
  · rw [if_neg h]; exact ⟨ta, by rw [show max x y = x by (first | exact Int.le_of_lt (by with_reducible assumption) | omega)]⟩

/-- xs[i] = e -/
theorem wp_setitem {o ix e : Expr} {rest : List Stmt} {D : Addr} {items : List Value} {i : Int} {j : Nat} {q : Value → Prop} (F : Fm s₀ env m s) (ho : PV prog w A s (eval o env) (fun u => u = .ref D)) (hi : PV prog w A s (eval ix env) (IsI i)) (he : PV prog w A s (eval e env) q)
    (hl : s.heap.PlainList D items.toArray) (h0 : s₀.heap.get? D = none) (h1 : D ∉ fAd env) (hij : (0 ≤ i ∧ i.toNat = j) ∨ (i < 0 ∧ (i + items.length).toNat = j ∧ -(items.length : Int) ≤ i)) (hj : j < items.length) (hz : items.length ≤ 1000)
    (k : ∀ v s₁ s₂, q v → Le s s₁ → Fm s₀ env m s₂ → s₂.heap.PlainList D (items.set j v).toArray → (∀ b o, b ≠ D → s₁.heap.get? b = some o → s₂.heap.get? b = some o) → wpAny (model prog w) A (execs rest env) Q E s₂)
    (hs : swapsWith e (some (.Subscript o ix pos')) pos.line env = pure false := by rfl) :
    wpAny (model prog w) A (execs (.Assign [.Subscript o ix pos'] e pos :: rest) env) Q E s := by
  refine wp_cons (wpAny_Assign_Subscript (he.use fun v s₁ l1 hv => (ho.le l1).use fun ov s₂ l2 eo => (hi.le (l1.trans l2)).use fun iv s₃ l3 ei => ?_) hs)
  subst eo
  obtain ⟨t, rfl⟩ := ei
  have l := (l1.trans l2).trans l3
  obtain ⟨n, hn⟩ := hl.at (h' := s₃.heap) fun o e => l.keep _ o e
  have key : ∀ h', h' = s₃.heap.update D (Obj.mapSeq fun x => x.setIfInBounds j v) → wpAny (model prog w) A (execs rest env) Q E { s₃ with heap := h' } := by
    rintro h' rfl
    have hsb := Heap.SameBut.update s₃.heap D (Obj.mapSeq fun x => x.setIfInBounds j v)
    have hks : ∀ b o, b ∉ [D] → s₃.heap.get? b = some o → (s₃.heap.update D (Obj.mapSeq fun x => x.setIfInBounds j v)).get? b = some o := fun b o hb e => (hsb.2 b (fun q => hb (by simp [q]))).trans e
    refine k v s₃ { s₃ with heap := _ } hv l ((F.grow l).mut (tk := s₃.toks) (ch := [D]) hks (fun b hb => by rw [List.mem_singleton.mp hb]; exact h0) fun b hb => by rw [List.mem_singleton.mp hb]; exact h1) ?_ fun b o hb e => hks b o (by simpa using hb) e
    have := get?_update_seq (c := "list") (n := n) hn (fun x => x.setIfInBounds j v)
    rw [show items.toArray.setIfInBounds j v = (items.set j v).toArray by simp] at this
    exact ⟨_, this⟩
  rcases hij with ⟨h0', e⟩ | ⟨h0', e, h2⟩
  · refine ki_setAt hn h0' (by (first | exact Int.le_of_lt (by with_reducible assumption) | omega)) (by rw [List.size_toArray]; (first | exact Int.le_of_lt (by with_reducible assumption) | omega)) ?_
    rw [e]; exact key _ rfl
  · refine ki_setBack hn h0' (by rw [List.size_toArray]; exact h2) (by (first | exact Int.le_of_lt (by with_reducible assumption) | omega)) ?_
    rw [List.size_toArray, e]; exact key _ rfl
/-- an if expression -/
theorem pt_ifexp {test body orelse : Expr} {b : Bool} {R : Value → Shared → Prop} (h : PT prog w A s₀ (isTrue test env (eval test env)) (fun c _ => c = b)) (k1 : b = true → PT prog w A s₀ (eval body env) R) (k2 : b = false → PT prog w A s₀ (eval orelse env) R) :
    PT prog w A s₀ (eval (.IfExp test body orelse pos) env) R := by
  intro s Q E l q
  refine wpAny_IfExp ((h s _ E l) fun c s₁ l1 ec => ?_)
  subst ec
  split
  · rename_i e; exact ((k1 e).le (l.trans l1)).use fun v s₂ l2 hv => q v s₂ (l1.trans l2) hv
  · rename_i e; exact ((k2 (by simpa using e)).le (l.trans l1)).use fun v s₂ l2 hv => q v s₂ (l1.trans l2) hv
/-- a whole number written out -/
theorem pt_intT (i : Int) (k : Nat) (pos : Pos) : PT prog w A s₀ (eval (.Constant (.int i) k pos) env) (fun v s' => ∃ t, v = .int i t ∧ s₀.toks ≤ t ∧ t < s'.toks) :=
  fun s Q E l q => wpAny_Constant_int (q _ _ Le.toks ⟨_, rfl, l.tk, Nat.lt_succ_self _⟩)

/-- values written out, with tokens that go up -/
inductive IncI : Nat → Nat → List Value → List Int → Prop
  | nil {lo hi} : lo ≤ hi → IncI lo hi [] []
  | cons {lo hi t i vs xs} : lo ≤ t → IncI (t + 1) hi vs xs → IncI lo hi (.int i t :: vs) (i :: xs)
theorem IncI.lo {a b c : Nat} {vs xs} (h : IncI b c vs xs) (l : a ≤ b) : IncI a c vs xs := by
  cases h with
  | nil h => exact .nil (Nat.le_trans l h)
  | cons h r => exact .cons (Nat.le_trans l h) r
theorem IncI.len {a b : Nat} {vs xs} (h : IncI a b vs xs) : vs.length = xs.length := by
  induction h with
  | nil _ => rfl
  | cons _ _ ih => simp [ih]
theorem argsT1 {e : Expr} {rest : List Expr} {P1 : Value → Shared → Prop} {P2 : Shared → List Value → Shared → Prop} {R : List Value → Shared → Prop} (he : starEach (e :: rest) env = (false, eval e env) :: starEach rest env)
    (h1 : PT prog w A s₀ (eval e env) P1) (h2 : ∀ v s₁, Le s₀ s₁ → P1 v s₁ → PT prog w A s₁ (spliced (backTo pos (starEach rest env))) (P2 s₁))
    (h3 : ∀ v s₁ vs s₂, Le s₀ s₁ → P1 v s₁ → Le s₁ s₂ → P2 s₁ vs s₂ → R (v :: vs) s₂) : PT prog w A s₀ (spliced (backTo pos (starEach (e :: rest) env))) R := by
  intro s Q E l q
  rw [he]
  refine spliced_cons (h1 s _ E l fun v s₁ l1 p1 => h2 v s₁ (l.trans l1) p1 s₁ _ E (Le.refl _) fun vs s₂ l2 p2 => q _ s₂ (l1.trans l2) (h3 v s₁ vs s₂ (l.trans l1) p1 l2 p2))
theorem argsT : ∀ (es : List (Int × Nat × Pos)) {s₀ : Shared}, PT prog w A s₀ (spliced (backTo pos (starEach (es.map fun e => Expr.Constant (.int e.1) e.2.1 e.2.2) env))) (fun vs s' => IncI s₀.toks s'.toks vs (es.map (·.1)))
  | [], s₀ => args0 fun s l => .nil l.tk
  | e :: r, s₀ => argsT1 (P2 := fun s₁ vs s' => IncI s₁.toks s'.toks vs (r.map (·.1))) (by rfl) (pt_intT e.1 e.2.1 e.2.2) (fun v s₁ l zq0 => (by obtain ⟨t, _⟩ := zq0; exact argsT r (s₀ := s₁))) fun v s₁ vs s₂ l zq1 l2 h3 => by
      obtain ⟨t, e, h1, h2⟩ := zq1
      subst e
      exact .cons h1 (h3.lo h2)
theorem pt_displayT (es : List (Int × Nat × Pos)) (hz : es.length ≤ sizeLine) :
    PT prog w A s₀ (eval (.List (es.map fun e => Expr.Constant (.int e.1) e.2.1 e.2.2) pos) env) (fun v s' => ∃ D vs, v = .ref D ∧ s₀.heap.get? D = none ∧ s'.heap.PlainList D (vs : List Value).toArray ∧ IncI s₀.toks s'.toks vs (es.map (·.1))) := by
  intro s Q E l q
  refine wpAny_List_spliced (argsT es s _ E (Le.refl _) fun vs s₁ l1 hv => ⟨?_, ?_⟩)
  · rw [hv.len, List.length_map]; exact hz
  · exact q _ _ (l1.trans (Le.push (tk := s₁.toks))) ⟨_, vs, rfl, none_le (l.trans l1) (new_none _ _ (Nat.le_refl _)), ⟨_, Heap.get?_push_size _ rfl⟩, hv.lo l.tk⟩

theorem wp_assignT {x : Str} {px pos : Pos} {value : Expr} {rest : List Stmt} {P : Value → Shared → Prop} (F : Fm s₀ env m s) (h : PT prog w A s (eval value env) P)
    (k : ∀ v s₁, Le s s₁ → P v s₁ → ∀ s₂, Fm s₀ env ((x, v) :: m) s₂ → Beside env s₁ s₂ → s₁.toks ≤ s₂.toks → wpAny (model prog w) A (execs rest env) Q E s₂)
    (hx : env.kindOf x = some .local ∨ (env.kindOf x = some .cell ∧ (env.cells.lookup x).isSome = true) := by first | exact Or.inl rfl | exact Or.inr ⟨rfl, rfl⟩)
    (hs : swapsWith value (some (.Name x px)) pos.line env = pure false := by rfl) :
    wpAny (model prog w) A (execs (.Assign [.Name x px] value pos :: rest) env) Q E s :=
  wpAny_execs_cons (wpAny_Assign_Name (h.use fun v s₁ l p => wp_tk (wp_store (F.grow l) hx fun s₂ F₂ b g htk => k v s₁ l p s₂ F₂ b htk)) hs)
/-- texts with their tokens -/
noncomputable def STs (s : Shared) (l : Addr) (xs : List Str) : Prop := ∃ vs : List Value, s.heap.IsList l vs.toArray ∧ All2 (fun v x => ∃ t : Nat, v = .str x t ∧ t ≠ 0 ∧ t < s.toks) vs xs
theorem STs.sls {l : Addr} {xs : List Str} (h : STs s l xs) : SLs s.heap l xs := (by obtain ⟨vs, a, b⟩ := h; exact ⟨vs, a, b.mono fun _ _ zq2 => (by obtain ⟨t, e, _⟩ := zq2; exact ⟨t, e⟩)⟩)
theorem STs.le {l : Addr} {xs : List Str} (h : STs s l xs) (k : Le s s') : STs s' l xs := (by obtain ⟨vs, a, b⟩ := h; exact ⟨vs, a.at fun o e => k.keep _ o e, b.mono fun _ _ zq3 => (by obtain ⟨t, e, h0, h1⟩ := zq3; exact ⟨t, e, h0, Nat.lt_of_lt_of_le h1 k.tk⟩)⟩)
theorem IncI.ints {a b : Nat} {vs xs} (h : IncI a b vs xs) : Ints vs xs := by
  induction h with
  | nil _ => exact .nil
  | cons _ _ ih => exact .cons ⟨_, rfl⟩ ih
theorem IncI.lt {a b : Nat} {vs xs} (h : IncI a b vs xs) : a + xs.length ≤ b := by
  induction h with
  | nil h => simpa using h
  | cons h1 _ ih => simp only [List.length_cons] at *; (first | exact Int.le_of_lt (by with_reducible assumption) | omega)
theorem mem4 : ∀ k ∈ ([1, 2, 3, 4] : List Int), 1 ≤ k ∧ k < 5 := by decide
theorem mem5 : ∀ k ∈ ([0, 1, 2, 3, 4] : List Int), 0 ≤ k ∧ k < 5 := by decide
theorem at5 : ∀ k ∈ ([0, 1, 2, 3, 4] : List Int), ([0, 1, 2, 3, 4] : List Int)[k.toNat]? = some k ∧ k.toNat < 5 := by decide
theorem IncI.le {a b : Nat} {vs xs} (h : IncI a b vs xs) : a ≤ b := by
  induction h with
  | nil h => exact h
  | cons h1 _ ih => exact Nat.le_trans h1 (Nat.le_of_succ_le ih)
theorem IncI.at' {a b : Nat} {vs xs} (h : IncI a b vs xs) : ∀ (i : Nat) (x : Int), xs[i]? = some x → ∃ t : Nat, vs[i]? = some (.int x t) ∧ a ≤ t ∧ t < b := by
  induction h with
  | nil h => intro i x e; cases e
  | @cons lo hi t i0 vs xs h1 h2 ih =>
    intro i x e
    cases i with
    | zero => cases e; exact ⟨t, rfl, h1, h2.le⟩
    | succ i =>
      obtain ⟨u, e2, a1, a2⟩ := ih i x e
      exact ⟨u, e2, Nat.le_trans h1 (Nat.le_of_succ_le a1), a2⟩
theorem IncI.up {a b : Nat} {vs xs} (h : IncI a b vs xs) : ∀ (i j : Nat) (x y : Int), i < j → xs[i]? = some x → xs[j]? = some y → ∃ t u : Nat, vs[i]? = some (.int x t) ∧ vs[j]? = some (.int y u) ∧ t < u := by
  induction h with
  | nil h => intro i j x y _ e; cases e
  | @cons lo hi t i0 vs xs h1 h2 ih =>
    intro i j x y hij e1 e2
    cases j with
    | zero => exact absurd hij (Nat.not_lt_zero _)
    | succ j =>
      cases i with
      | zero =>
        cases e1
        obtain ⟨u, e3, a1, _⟩ := h2.at' j y e2
        exact ⟨t, u, rfl, e3, a1⟩
      | succ i => exact ih i j x y (Nat.lt_of_succ_lt_succ hij) e1 e2
end
end Mine
end

section
open PySem PySem.W PyProof.Rows PySem.Calls
namespace Mine
noncomputable def lawDef : List Stmt × Scope := match PySem.Challenge.pw_wr0023_01.main.body.getLast? with
  | some (.FunctionDef _ _ body _ _ _ scope _ _ _) => (body, scope)
  | _ => ([], ⟨.function, [], false, false, []⟩)
/-- law's statements from the k-th on, and its frame -/
@[irreducible] noncomputable def lawFrom (k : Nat) : List Stmt := lawDef.1.drop k
noncomputable def lawScope : Scope := lawDef.2
noncomputable abbrev lawEnv (L fa : Addr) : Env := envOfC (Str.ofString "law") lawScope L fa (.ref 103)
theorem law_len : lawDef.1.length = 32 := by decide +kernel
theorem lawStep (k : Nat) (h : k < 32) : lawFrom k = lawDef.1[k]'(by rw [law_len]; exact h) :: lawFrom (k + 1) := by unfold lawFrom; exact List.drop_eq_getElem_cons _
section
variable {prog : Program} {w : World} {A : Around} {s₀ s : Shared} {m : Mp} {Q : Flow → Shared → Prop} {E : Value → Shared → Prop} {L fa : Addr} {d : Nat}
theorem Fm.rebase {env : Env} (F : Fm s₀ env m s) (D : List Addr) (hD : ∀ b ∈ D, s₀.heap.get? b = none := by intro b hb; exact nomatch hb) : ∃ a, Le s₀ a ∧ Fm a env m s ∧ ∀ b o, b ∉ fAd env → b ∉ D → s.heap.get? b = some o → a.heap.get? b = some o :=
  ⟨anchor env D s, anchor_ge F hD, anchor_fm F D, fun b o h1 h2 e => anchor_get e h1 h2⟩
theorem Fm.rebaseD {env : Env} (F : Fm s₀ env m s) (D : List Addr) (hD : ∀ b ∈ D, s₀.heap.get? b = none) : ∃ a, Le s₀ a ∧ Fm a env m s ∧ (∀ b o, b ∉ fAd env → b ∉ D → s.heap.get? b = some o → a.heap.get? b = some o) ∧ ∀ b ∈ D, a.heap.get? b = none :=
  ⟨anchor env D s, anchor_ge F hD, anchor_fm F D, fun b o h1 h2 e => anchor_get e h1 h2, fun b hb => anchor_no hb⟩
/-- a new base with the same tokens -/
theorem Fm.rebaseT {env : Env} (F : Fm s₀ env m s) (D : List Addr) (hD : ∀ b ∈ D, s₀.heap.get? b = none) : ∃ a, Le s₀ a ∧ Fm a env m s ∧ (∀ b o, b ∉ fAd env → b ∉ D → s.heap.get? b = some o → a.heap.get? b = some o) ∧ (∀ b ∈ D, a.heap.get? b = none) ∧ a.toks = s.toks :=
  ⟨anchor env D s, anchor_ge F hD, anchor_fm F D, fun b o h1 h2 e => anchor_get e h1 h2, fun b hb => anchor_no hb, rfl⟩
/-- the sign of a thing -/
noncomputable def sgnOf (ns : List Int) (k : Nat) : Str := ⟨#[(20000 + 3000 * (k : Int) + ns.getD k 0 / 360).toNat]⟩
noncomputable def signsF (ns : List Int) : List Str := (List.range 5).map (sgnOf ns)
structure Nums (ns : List Int) : Prop where
  len : ns.length = 5
  bnd : ∀ n ∈ ns, 0 ≤ n ∧ n < 1000000

theorem choose_ints {vs : List Value} {l : List Nat} {lo hi : Int} (h : All2 (fun v (_ : Nat) => ∃ n, IsI n v ∧ lo ≤ n ∧ n < hi) vs l) : ∃ ns, Ints vs ns ∧ ns.length = l.length ∧ ∀ n ∈ ns, lo ≤ n ∧ n < hi := by
  induction h with
  | nil => exact ⟨[], .nil, rfl, fun _ h => nomatch h⟩
  | cons hd _ ih =>
    obtain ⟨n, h1, h2⟩ := hd
    obtain ⟨ns, h3, h4, h5⟩ := ih
    refine ⟨n :: ns, .cons h1 h3, by simp [h4], fun x hx => ?_⟩
    rcases List.mem_cons.mp hx with rfl | hx
    · exact h2
    · exact h5 x hx
theorem range_all (n : Nat) : (List.range n).filter (fun _ => true) = List.range n := List.filter_eq_self.mpr fun _ _ => rfl

set_option maxHeartbeats 4000000 in
theorem phA {l : Addr} (C : Cx A (d + 1)) (T : Tp w s₀) (F : Fm s₀ (lawEnv L fa) m s) (hsc : m.lookup (Str.ofString "script") = some (.ref l)) {vs : List Value} {xs : List Int} (hl : s₀.heap.IsList l vs.toArray) (hx : Ints vs xs) (hz : vs.length ≤ 63)
    (k : ∀ ns a s' lb ln ls, Nums ns → Le s₀ a → ILs a.heap ln ns → STs a ls (signsF ns) → 0 < a.toks → Fm a (lawEnv L fa) ((Str.ofString "signs", .ref ls) :: (Str.ofString "numbers", .ref ln) :: (Str.ofString "base", .ref lb) :: m) s' → wpAny (model prog w) A (execs (lawFrom 3) (lawEnv L fa)) Q E s') :
    wpAny (model prog w) A (execs (lawFrom 0) (lawEnv L fa)) Q E s := by
  have hzl : sizeLine = 16777216 := sizeLine_eq
  rw [lawStep 0 (by decide)]
  refine wp_assignT F (pt_displayT [(77, _, _), (145, _, _), (244, _, _), (292, _, _), (62, _, _)] (by rw [hzl]; decide)) ?_
  rintro v1 s₁ l1 ⟨lb, vb, rfl, hb0, hbP, hbA⟩ s₂ F2 B2 g2
  have hbI := hbA.ints
  have h0t : 0 < s₂.toks := by have := hbA.lt; simp only [List.map_cons, List.map_nil, List.length_cons, List.length_nil] at this; (first | exact Int.natCast_nonneg _ | exact Nat.le_trans (by with_reducible assumption) (by decide) | exact Int.ofNat_lt.mpr (by with_reducible assumption) | exact Int.emod_nonneg _ (by decide) | exact Int.emod_lt_of_pos _ (by decide) | exact Nat.lt_of_lt_of_le (by with_reducible assumption) (Nat.le_trans (by with_reducible assumption) (by with_reducible assumption)) | omega)
  obtain ⟨hbf, _⟩ := F.fresh hb0
  have hb2 : s₂.heap.PlainList lb vb.toArray := hbP.at fun o e => B2 lb o hbf e
  have T2 : Tp w s₂ := T.le F2.le
  have n1 : List.lookup (Str.ofString "script") ((Str.ofString "base", Value.ref lb) :: m) = some (.ref l) := (lookup_cons_ne (by decide)).trans hsc
  -- numbers
  rw [lawStep 1 (by decide)]
  refine wp_assignT F2 (pt_listcomp (n := 5) (P := fun i v => IsI (0 + i) v) (fun _ => true) (fun _ _ v _ => ∃ n, IsI n v ∧ 0 ≤ n ∧ n < 1000000) (pt_range1 (pt_builtin T2 rfl (by k_is) rfl) (pt_int 5 _ _))
    (fun v s4 l4 zq0 => (by obtain ⟨r, t, u, x, e, hrg⟩ := zq0; exact ⟨[], by rw [e]; exact src_range C.hh hrg (by decide) (by decide)⟩)) (by rw [hzl]; decide) (fun _ _ _ _ _ r _ _ => r) ?_) ?_
  · intro X Cc i v s3 hi hv l3 hX hN
    refine ⟨tests0, fun _ s4 l4 => ?_⟩
    rw [Int.zero_add] at hv
    have F4 := (F2.grow l3).grow l4
    have T4 : Tp w s4 := T.le F4.le
    have hN4 : ∃ mc, s4.heap.Ns Cc mc ∧ mc (Str.ofString "k") = some v := (by obtain ⟨mc, hn, e⟩ := hN; exact ⟨mc, hn.keeps l4.keep, e⟩)
    have hb4 : ILs s4.heap lb [77, 145, 244, 292, 62] := ⟨vb, (hb2.at fun o e => (l3.trans l4).keep _ o e).isList, hbI⟩
    have hl4 : s4.heap.IsList l vs.toArray := hl.at fun o e => F4.le.keep _ o e
    refine (pv_binop (p1 := fun v => ∃ i, IsI i v) (p2 := IsI 1000000) (pv_binop (p1 := IsI _) (p2 := fun v => ∃ i, IsI i v) (pt_num (x := (i : Int)) hb4 (nm_f F4 lookup_cons_eq rfl) (nm_x hN4 hv) (by (first | exact Int.natCast_nonneg _ | exact Nat.le_trans (by with_reducible assumption) (by decide) | exact Int.ofNat_lt.mpr (by with_reducible assumption) | exact Int.emod_nonneg _ (by decide) | exact Int.emod_lt_of_pos _ (by decide) | exact Nat.lt_of_lt_of_le (by with_reducible assumption) (Nat.le_trans (by with_reducible assumption) (by with_reducible assumption)) | omega)) (by simp; (first | exact Int.natCast_nonneg _ | exact Nat.le_trans (by with_reducible assumption) (by decide) | exact Int.ofNat_lt.mpr (by with_reducible assumption) | exact Int.emod_nonneg _ (by decide) | exact Int.emod_lt_of_pos _ (by decide) | exact Nat.lt_of_lt_of_le (by with_reducible assumption) (Nat.le_trans (by with_reducible assumption) (by with_reducible assumption)) | omega)) (by simp))
      (pt_callB (pt_builtin T4 rfl (by k_is) rfl) (args1 (pt_sliceStep hl4 hx (nm_f F4 n1 rfl) (nm_x hN4 hv) (pt_int 5 _ _) (by decide) (by rw [hzl]; (first | exact Int.natCast_nonneg _ | exact Nat.le_trans (by with_reducible assumption) (by decide) | exact Int.ofNat_lt.mpr (by with_reducible assumption) | exact Int.emod_nonneg _ (by decide) | exact Int.emod_lt_of_pos _ (by decide) | exact Nat.lt_of_lt_of_le (by with_reducible assumption) (Nat.le_trans (by with_reducible assumption) (by with_reducible assumption)) | omega)))) fun vs s' l' hv => by
        obtain ⟨v, rfl, s2, l2, D, ys, rfl, hD⟩ := hv
        exact o_sum C.hh (hD.keeps l2.keep)) fun a b s2 _ ha zq1 => (by obtain ⟨j, hb⟩ := zq1; exact (o_add ha hb).mono fun _ _ _ e => ⟨_, e⟩))
      ((pv_binop (pt_int 10 _ _) (pt_int 6 _ _) fun _ _ _ _ h1 h2 => o_pow h1 h2 (by decide) (by decide)).mono fun _ _ _ e => e) fun a b s2 _ zq2 hb => (by obtain ⟨j, ha⟩ := zq2; exact (o_mod ha hb (by decide)).mono fun v s' l' e => (⟨_, e, by (first | exact Int.natCast_nonneg _ | exact Nat.le_trans (by with_reducible assumption) (by decide) | exact Int.ofNat_lt.mpr (by with_reducible assumption) | exact Int.emod_nonneg _ (by decide) | exact Int.emod_lt_of_pos _ (by decide) | exact Nat.lt_of_lt_of_le (by with_reducible assumption) (Nat.le_trans (by with_reducible assumption) (by with_reducible assumption)) | omega), by (first | exact Int.natCast_nonneg _ | exact Nat.le_trans (by with_reducible assumption) (by decide) | exact Int.ofNat_lt.mpr (by with_reducible assumption) | exact Int.emod_nonneg _ (by decide) | exact Int.emod_lt_of_pos _ (by decide) | exact Nat.lt_of_lt_of_le (by with_reducible assumption) (Nat.le_trans (by with_reducible assumption) (by with_reducible assumption)) | omega)⟩ : ∃ n, IsI n v ∧ 0 ≤ n ∧ n < 1000000)))
  rintro v3 s₃ l3 ⟨ln, vn, X, rfl, ho⟩ s₄ F4 B4 g4
  have hA := ho.all
  rw [range_all] at hA
  obtain ⟨ns, hnI, hnl, hnb⟩ := choose_ints hA
  have hns : Nums ns := ⟨hnl, hnb⟩
  have hlnf := (F2.fresh ho.new).1
  have hln : s₄.heap.PlainList ln vn.toArray := ho.plain.at fun o e => B4 ln o hlnf e
  have T4 : Tp w s₄ := T.le F4.le
  have h0t4 : 0 < s₄.toks := by have := l3.tk; (first | exact Int.natCast_nonneg _ | exact Nat.le_trans (by with_reducible assumption) (by decide) | exact Int.ofNat_lt.mpr (by with_reducible assumption) | exact Int.emod_nonneg _ (by decide) | exact Int.emod_lt_of_pos _ (by decide) | exact Nat.lt_of_lt_of_le (by with_reducible assumption) (Nat.le_trans (by with_reducible assumption) (by with_reducible assumption)) | omega)
  -- signs
  rw [lawStep 2 (by decide)]
  refine wp_assignT F4 (pt_listcomp (n := 5) (P := fun i v => IsI (0 + i) v) (fun _ => true) (fun _ i v s => ∃ t : Nat, v = .str (sgnOf ns i) t ∧ t ≠ 0 ∧ t < s.toks) (pt_range1 (pt_builtin T4 rfl (by k_is) rfl) (pt_int 5 _ _))
    (fun v s4 l4 zq3 => (by obtain ⟨r, t, u, x, e, hrg⟩ := zq3; exact ⟨[], by rw [e]; exact src_range C.hh hrg (by decide) (by decide)⟩)) (by rw [hzl]; decide) (fun _ _ _ _ _ zq4 _ htk => (by obtain ⟨t, e, h0, h1⟩ := zq4; exact ⟨t, e, h0, Nat.lt_of_lt_of_le h1 htk⟩)) ?_) ?_
  · intro X Cc i v s3 hi hv l3 hX hN
    refine ⟨tests0, fun _ s5 l5 => ?_⟩
    rw [Int.zero_add] at hv
    have F5 := (F4.grow l3).grow l5
    have T5 : Tp w s5 := T.le F5.le
    have hN5 : ∃ mc, s5.heap.Ns Cc mc ∧ mc (Str.ofString "k") = some v := (by obtain ⟨mc, hn, e⟩ := hN; exact ⟨mc, hn.keeps l5.keep, e⟩)
    have hn5 : ILs s5.heap ln ns := ⟨vn, (hln.at fun o e => (l3.trans l5).keep _ o e).isList, hnI⟩
    have hni : i < ns.length := by rw [hns.len]; exact hi
    obtain ⟨b0, b1⟩ := hns.bnd _ (getD_mem (d := 0) hni)
    have hd0 : 0 ≤ ns.getD i 0 / 360 := Int.ediv_nonneg b0 (by decide)
    have hd1 : ns.getD i 0 / 360 ≤ 2777 := by (first | exact Int.natCast_nonneg _ | exact Nat.le_trans (by with_reducible assumption) (by decide) | exact Int.ofNat_lt.mpr (by with_reducible assumption) | exact Int.emod_nonneg _ (by decide) | exact Int.emod_lt_of_pos _ (by decide) | exact Nat.lt_of_lt_of_le (by with_reducible assumption) (Nat.le_trans (by with_reducible assumption) (by with_reducible assumption)) | omega)
    refine PT.mono (pt_chr (i := 20000 + 3000 * (i : Int) + ns.getD i 0 / 360) (pt_builtin T5 rfl (by k_is) rfl) (pv_add_int (pv_add_int (pt_int 20000 _ _) (pv_binop (pt_int 3000 _ _) (nm_x hN5 hv) fun _ _ _ _ h1 h2 => o_mulI h1 h2 ?_)) (pv_binop (pt_num (x := (i : Int)) hn5 (nm_f F5 lookup_cons_eq rfl) (nm_x hN5 hv) (by (first | exact Int.natCast_nonneg _ | exact Nat.le_trans (by with_reducible assumption) (by decide) | exact Int.ofNat_lt.mpr (by with_reducible assumption) | exact Int.emod_nonneg _ (by decide) | exact Int.emod_lt_of_pos _ (by decide) | exact Nat.lt_of_lt_of_le (by with_reducible assumption) (Nat.le_trans (by with_reducible assumption) (by with_reducible assumption)) | omega)) (by (first | exact Int.natCast_nonneg _ | exact Nat.le_trans (by with_reducible assumption) (by decide) | exact Int.ofNat_lt.mpr (by with_reducible assumption) | exact Int.emod_nonneg _ (by decide) | exact Int.emod_lt_of_pos _ (by decide) | exact Nat.lt_of_lt_of_le (by with_reducible assumption) (Nat.le_trans (by with_reducible assumption) (by with_reducible assumption)) | omega)) (by rw [hns.len]; decide)) (pt_int 360 _ _) fun _ _ _ _ h1 h2 => o_fdiv h1 h2 (by decide) (noPylong (by decide)))) (by (first | exact Int.natCast_nonneg _ | exact Nat.le_trans (by with_reducible assumption) (by decide) | exact Int.ofNat_lt.mpr (by with_reducible assumption) | exact Int.emod_nonneg _ (by decide) | exact Int.emod_lt_of_pos _ (by decide) | exact Nat.lt_of_lt_of_le (by with_reducible assumption) (Nat.le_trans (by with_reducible assumption) (by with_reducible assumption)) | omega)) (by (first | exact Int.natCast_nonneg _ | exact Nat.le_trans (by with_reducible assumption) (by decide) | exact Int.ofNat_lt.mpr (by with_reducible assumption) | exact Int.emod_nonneg _ (by decide) | exact Int.emod_lt_of_pos _ (by decide) | exact Nat.lt_of_lt_of_le (by with_reducible assumption) (Nat.le_trans (by with_reducible assumption) (by with_reducible assumption)) | omega))) (fun v s' l' zq5 => (by obtain ⟨t, e, h0, h1⟩ := zq5; exact (⟨t, e, by have := (l3.trans l5).tk; (first | exact Int.natCast_nonneg _ | exact Nat.le_trans (by with_reducible assumption) (by decide) | exact Int.ofNat_lt.mpr (by with_reducible assumption) | exact Int.emod_nonneg _ (by decide) | exact Int.emod_lt_of_pos _ (by decide) | exact Nat.lt_of_lt_of_le (by with_reducible assumption) (Nat.le_trans (by with_reducible assumption) (by with_reducible assumption)) | omega), h1⟩ : ∃ t : Nat, v = .str (sgnOf ns i) t ∧ t ≠ 0 ∧ t < s'.toks)))
    unfold IntMulOk
    rw [show decide (Builtin.Int.intBits 3000 > shortFactorBits) = false by decide +kernel]
    simp
  rintro v5 s₅ l5 ⟨ls, vsg, X2, rfl, ho2⟩ s₆ F6 B6 g6
  have hA2 := ho2.all
  rw [range_all] at hA2
  have hS : All2 (fun v x => ∃ t : Nat, v = .str x t ∧ t ≠ 0 ∧ t < s₅.toks) vsg (signsF ns) := hA2.map fun _ _ h => h
  have hlsf := (F4.fresh ho2.new).1
  have hln6 : s₆.heap.PlainList ln vn.toArray := hln.at fun o e => B6 ln o hlnf (l5.keep _ o e)
  have hls6 : s₆.heap.PlainList ls vsg.toArray := ho2.plain.at fun o e => B6 ls o hlsf e
  obtain ⟨a, la, Fa, ka, _, kt⟩ := F6.rebaseT [] (by intro b hb; exact nomatch hb)
  exact k ns a s₆ lb ln ls hns la ⟨vn, (hln6.at fun o e => ka ln o hlnf (by simp) e).isList, hnI⟩ ⟨vsg, (hls6.at fun o e => ka ls o hlsf (by simp) e).isList, hS.mono fun v x zq6 => (by obtain ⟨t, e, h0, h1⟩ := zq6; exact ⟨t, e, h0, by (first | exact Int.natCast_nonneg _ | exact Nat.le_trans (by with_reducible assumption) (by decide) | exact Int.ofNat_lt.mpr (by with_reducible assumption) | exact Int.emod_nonneg _ (by decide) | exact Int.emod_lt_of_pos _ (by decide) | exact Nat.lt_of_lt_of_le (by with_reducible assumption) (Nat.le_trans (by with_reducible assumption) (by with_reducible assumption)) | omega)⟩)⟩ (by have := l3.tk; have := l5.tk; (first | exact Int.natCast_nonneg _ | exact Nat.le_trans (by with_reducible assumption) (by decide) | exact Int.ofNat_lt.mpr (by with_reducible assumption) | exact Int.emod_nonneg _ (by decide) | exact Int.emod_lt_of_pos _ (by decide) | exact Nat.lt_of_lt_of_le (by with_reducible assumption) (Nat.le_trans (by with_reducible assumption) (by with_reducible assumption)) | omega)) Fa
end
end Mine
end

section
open PySem PySem.W PyProof.Rows PySem.Calls
namespace Mine
noncomputable def dressOpts : List Str := ["", "\")\"", "\\(", "\\\\", "\"\\\")(\""]
noncomputable def dressOf (n : Int) : Str := dressOpts.getD (n / 72 % 5).toNat Str.empty
noncomputable def dressesF (ns : List Int) : List Str := [Str.empty, dressOf (ns.getD 1 0), Str.empty, dressOf (ns.getD 3 0), Str.empty]
section
variable {prog : Program} {w : World} {A : Around} {s₀ s s' : Shared} {m : Mp} {env : Env} {pos : Pos} {Q : Flow → Shared → Prop} {E : Value → Shared → Prop} {L fa : Addr} {d : Nat}
theorem src_tuple {t : Addr} {items : List Value} (hh : A.handled = none) (hl : s.heap.IsTuple t items.toArray) : Src prog w A s (.ref t) [t] items.length (fun i v => items[i]? = some v) := by
  intro Q E k
  obtain ⟨o, ho, r⟩ := id hl
  refine wpAny_pyIter_tuple hl ?_
  have hne : t ≠ s.heap.objs.size := Nat.ne_of_lt (Heap.lt_size ho)
  have W := Walks.tuple (prog := prog) (w := w) hh s.heap.objs.size t hne items.toArray
  have e : items.toArray.size = items.length := List.size_toArray
  rw [e] at W
  have W' : Walks prog w A s.heap.objs.size [s.heap.objs.size, t] [s.heap.objs.size] items.length (fun i v => items[i]? = some v) _ :=
    { W with item := fun i s Q E hi st q => W.item i s Q E hi st fun v h' tk p => q v h' tk (by simpa using p) }
  exact k _ _ _ _ _ Le.push W' ⟨⟨_, Heap.get?_push_size _ rfl, rfl, rfl⟩, ⟨o, Heap.get?_push_of_some _ ho, r⟩⟩ (fun b hb => by rw [List.mem_singleton.mp hb]; exact new_none _ _ (Nat.le_refl _)) (fun b hb => by
    rcases List.mem_cons.mp hb with rfl | hb
    · exact .inl (.head _)
    · exact .inr hb) (fun b hb => by
    rcases List.mem_cons.mp hb with rfl | hb
    · exact ⟨_, Heap.get?_push_size _ rfl⟩
    · rw [List.mem_singleton.mp hb]; exact ⟨_, Heap.get?_push_of_some _ ho⟩) (fun i h st b hb => by
    rw [List.mem_singleton.mp hb]; obtain ⟨⟨o, e, _⟩, _⟩ := st; exact ⟨o, e⟩)
/-- an item of a list of texts that is made on the way -/
theorem pt_itemS {value slice : Expr} {xs : List Str} {i : Int} (ho : PT prog w A s₀ (eval value env) (fun v s' => ∃ l, v = .ref l ∧ SLs s'.heap l xs)) (hi : PV prog w A s₀ (eval slice env) (IsI i)) (h0 : 0 ≤ i) (h1 : i < xs.length) (hz : xs.length ≤ 1000)
    (hs : ∀ l t, subscripted slice false (.ref l) (.int i t) = operate [.ref l, .int i t] (getItem (.ref l) (.int i t)) := by intro _ _; with_unfolding_all rfl) :
    PV prog w A s₀ (eval (.Subscript value slice pos) env) (IsS (xs.getD i.toNat Str.empty)) := by
  refine pt_subscript ho (fun _ _ l _ => hi.le l) fun o v s₁ s₂ l1 ⟨l, e, vs, hl, hS⟩ l2 ⟨t, ei⟩ => ?_
  subst e ei
  intro s Q E le q
  have hl' : s.heap.IsList l vs.toArray := hl.at fun o e => (l2.trans le).keep _ o e
  have hlt : i.toNat < xs.length := by (first | exact Int.natCast_nonneg _ | exact Int.ofNat_lt.mpr (by with_reducible assumption) | exact (Int.toNat_lt (by with_reducible assumption)).mpr (by with_reducible assumption) | exact Int.emod_nonneg _ (by decide) | exact Int.emod_lt_of_pos _ (by decide) | omega)
  obtain ⟨v, hv, r⟩ := hS.get (List.getElem?_eq_getElem hlt)
  refine tail_any (T := "list") hl'.typeIs slot_list_getitem.lookup (wpAny_getItem_list hl' h0 (by (first | exact Int.natCast_nonneg _ | exact Int.ofNat_lt.mpr (by with_reducible assumption) | exact (Int.toNat_lt (by with_reducible assumption)).mpr (by with_reducible assumption) | exact Int.emod_nonneg _ (by decide) | exact Int.emod_lt_of_pos _ (by decide) | omega)) (by simpa using hv) (q _ _ (Le.refl _) ?_)) (hs l t)
  rw [List.getD_eq_getElem?_getD, List.getElem?_eq_getElem hlt]; exact r

theorem Src.mono {v : Value} {src : List Addr} {n : Nat} {P P' : Nat → Value → Prop} (h : Src prog w A s v src n P) (i : ∀ k v, P k v → P' k v) : Src prog w A s v src n P' := fun Q E k =>
  h Q E fun I fp wr St s₂ l W st h1 h2 h3 h4 => k I fp wr St s₂ l { W with item := fun j s Q E hi st q => W.item j s Q E hi st fun v h' tk p => q v h' tk (i _ _ p) } st h1 h2 h3 h4
/-- a tuple written out -/
theorem pt_tuple {es : List Expr} {kk : Nat} {ps : List (Value → Prop)} (h : Args prog w A env s₀ es ps) (hz : ps.length ≤ sizeLine) :
    PT prog w A s₀ (eval (.Tuple es kk pos) env) (fun v s' => ∃ t vs, v = .ref t ∧ s₀.heap.get? t = none ∧ s'.heap.IsTuple t (vs : List Value).toArray ∧ All2 (fun v p => p v) vs ps) := by
  intro s Q E l q
  refine wpAny_Tuple_spliced (h.pt s _ E l fun vs s₁ l1 hv => ⟨by rw [hv.len]; exact hz, ?_⟩)
  exact q _ _ (l1.trans (Le.push (tk := s₁.toks))) ⟨_, vs, rfl, none_le (l.trans l1) (new_none _ _ (Nat.le_refl _)), ⟨_, Heap.get?_push_size _ rfl, rfl, _, rfl⟩, hv⟩
theorem tuple_src {D : List Addr} {v : Value} {ps : List (Value → Prop)} {P : Nat → Value → Prop} (F : Fm s₀ env m s) (hh : A.handled = none) (hD : ∀ b ∈ D, ∃ o, s.heap.get? b = some o) (h : ∃ t vs, v = .ref t ∧ s.heap.get? t = none ∧ s'.heap.IsTuple t (vs : List Value).toArray ∧ All2 (fun v p => p v) vs ps)
    (hP : ∀ i v p, ps[i]? = some p → p v → P i v) : ∃ src, Src prog w A s' v src ps.length P ∧ ∀ b ∈ src, b ∉ fAd env ∧ b ∉ D := by
  obtain ⟨t, vs, rfl, h0, ht, hA⟩ := h
  refine ⟨[t], ?_, fun b hb => ?_⟩
  · have := src_tuple (prog := prog) (w := w) hh ht
    rw [hA.len] at this
    exact this.mono fun i v hv => by
      obtain ⟨p, hp, r⟩ := hA.get' hv
      exact hP i v p hp r
  · rw [List.mem_singleton.mp hb]
    refine ⟨(F.fresh h0).1, fun hm => ?_⟩
    obtain ⟨o, e⟩ := hD t hm
    rw [h0] at e; cases e

noncomputable def dressAt (ns : List Int) : Nat → List Str
  | 0 => List.replicate 5 Str.empty
  | i + 1 => (dressAt ns i).set (2 * i + 1) (dressOf (ns.getD (2 * i + 1) 0))
theorem dressAt_len (ns : List Int) : ∀ i, (dressAt ns i).length = 5
  | 0 => rfl
  | i + 1 => by rw [dressAt, List.length_set]; exact dressAt_len ns i
theorem dressAt_two (ns : List Int) : dressAt ns 2 = dressesF ns := rfl

set_option maxHeartbeats 4000000 in
theorem phB {ns : List Int} {ln ls : Addr} (C : Cx A (d + 1)) (T : Tp w s₀) (F : Fm s₀ (lawEnv L fa) [(Str.ofString "signs", .ref ls), (Str.ofString "numbers", .ref ln)] s) (hns : Nums ns) (hn : ILs s₀.heap ln ns)
    (k : ∀ a s' ld, Le s₀ a → SLs a.heap ld (dressesF ns) → Fm a (lawEnv L fa) [(Str.ofString "dresses", .ref ld), (Str.ofString "signs", .ref ls), (Str.ofString "numbers", .ref ln)] s' → wpAny (model prog w) A (execs (lawFrom 5) (lawEnv L fa)) Q E s') :
    wpAny (model prog w) A (execs (lawFrom 3) (lawEnv L fa)) Q E s := by
  have hzl : sizeLine = 16777216 := sizeLine_eq
  rw [lawStep 3 (by decide)]
  refine wp_assign F (pt_display (ps := (List.replicate 5 Str.empty).map fun i => IsS i) (.cons (pt_str _ _ _) rfl (.cons (pt_str _ _ _) rfl (.cons (pt_str _ _ _) rfl (.cons (pt_str _ _ _) rfl (.cons (pt_str _ _ _) rfl .nil))))) (by rw [hzl]; decide)) ?_
  rintro v1 s₁ l1 ⟨ld, vd, rfl, hd0, hdP, hdA⟩ s₂ F2 B2 g2
  obtain ⟨hdf, hd00⟩ := F.fresh hd0
  have hdS := args_strs hdA
  have hd2 : s₂.heap.PlainList ld vd.toArray := hdP.at fun o e => B2 ld o hdf e
  -- for k in (1, 3)
  rw [lawStep 4 (by decide)]
  refine wp_forE (D := [ld]) (n := 2) (P := fun i v => IsI (2 * (i : Int) + 1) v) (s₀ := s₀)
    (fun i m s' => m.lookup (Str.ofString "dresses") = some (.ref ld) ∧ m.lookup (Str.ofString "signs") = some (.ref ls) ∧ m.lookup (Str.ofString "numbers") = some (.ref ln) ∧ ∃ vs, s'.heap.PlainList ld (vs : List Value).toArray ∧ Strs vs (dressAt ns i))
    F2 (pt_tuple (ps := [IsI 1, IsI 3]) (.cons (pt_int _ _ _) rfl (.cons (pt_int _ _ _) rfl .nil)) (by rw [hzl]; decide)) ?_ (fun b hb => by rw [List.mem_singleton.mp hb]; exact ⟨hd00, hdf, (by obtain ⟨n, e⟩ := hd2; exact ⟨_, e⟩)⟩) ?_ ⟨rfl, rfl, rfl, vd, hd2, hdS⟩ ?_ ?_
  · intro v s3 l3 h
    refine tuple_src F2 C.hh (fun b hb => by rw [List.mem_singleton.mp hb]; obtain ⟨n, e⟩ := hd2; exact ⟨_, e⟩) h fun i v p hp hv => ?_
    match i, hp with
    | 0, hp => cases hp; exact hv
    | 1, hp => cases hp; exact hv
  · rintro i m s3 s4 ⟨a1, a2, a3, vs, h1, h2⟩ hk
    exact ⟨a1, a2, a3, vs, h1.at fun o e => hk ld (by simp) o e, h2⟩
  · rintro i vk a m s3 hi hvk la ha F3 ⟨a1, a2, a3, vs, h1, h2⟩
    have n1 := (lookup_cons_ne (x := Str.ofString "k") (v := vk) (by decide)).trans a1
    have n2 := (lookup_cons_ne (x := Str.ofString "k") (v := vk) (by decide)).trans a2
    have n3 := (lookup_cons_ne (x := Str.ofString "k") (v := vk) (by decide)).trans a3
    have hvk' : IsI ((2 * i + 1 : Nat) : Int) vk := hvk
    have hn3 := hn.keeps (la.trans F3.le).keep
    have hni : 2 * i + 1 < ns.length := by rw [hns.len]; (first | exact Int.natCast_nonneg _ | exact Int.ofNat_lt.mpr (by with_reducible assumption) | exact (Int.toNat_lt (by with_reducible assumption)).mpr (by with_reducible assumption) | exact Int.emod_nonneg _ (by decide) | exact Int.emod_lt_of_pos _ (by decide) | omega)
    obtain ⟨b0, b1⟩ := hns.bnd _ (getD_mem (d := 0) hni)
    refine wp_setitem (j := 2 * i + 1) F3 (nmC (p := fun u => u = .ref ld) F3 n1 rfl) (nmC F3 lookup_cons_eq hvk') (pt_itemS (xs := dressOpts) (i := ns.getD (2 * i + 1) 0 / 72 % 5) ((pt_display (ps := dressOpts.map fun i => IsS i) (.cons (pt_str _ _ _) rfl (.cons (pt_str _ _ _) rfl (.cons (pt_str _ _ _) rfl (.cons (pt_str _ _ _) rfl (.cons (pt_str _ _ _) rfl .nil))))) (by rw [hzl]; decide)).mono fun v s' l' zq2 => (by obtain ⟨D', vs', e, _, hp, hA⟩ := zq2; exact ⟨D', e, vs', hp.isList, args_strs hA⟩))
      (pv_binop (pv_binop (pt_num (x := ((2 * i + 1 : Nat) : Int)) hn3 (nmC (p := fun u => u = .ref ln) F3 n3 rfl) (nmC F3 lookup_cons_eq hvk') (by (first | exact Int.natCast_nonneg _ | exact Int.ofNat_lt.mpr (by with_reducible assumption) | exact (Int.toNat_lt (by with_reducible assumption)).mpr (by with_reducible assumption) | exact Int.emod_nonneg _ (by decide) | exact Int.emod_lt_of_pos _ (by decide) | omega)) (by (first | exact Int.natCast_nonneg _ | exact Int.ofNat_lt.mpr (by with_reducible assumption) | exact (Int.toNat_lt (by with_reducible assumption)).mpr (by with_reducible assumption) | exact Int.emod_nonneg _ (by decide) | exact Int.emod_lt_of_pos _ (by decide) | omega)) (by rw [hns.len]; decide)) (pt_int 72 _ _) fun _ _ _ _ h1 h2 => o_fdiv h1 h2 (by decide) (noPylong (by decide))) (pt_int 5 _ _) fun _ _ _ _ h1 h2 => o_mod h1 h2 (by decide)) (by (first | exact Int.natCast_nonneg _ | exact Int.ofNat_lt.mpr (by with_reducible assumption) | exact (Int.toNat_lt (by with_reducible assumption)).mpr (by with_reducible assumption) | exact Int.emod_nonneg _ (by decide) | exact Int.emod_lt_of_pos _ (by decide) | omega)) (by show _ < ((5 : Nat) : Int); (first | exact Int.natCast_nonneg _ | exact Int.ofNat_lt.mpr (by with_reducible assumption) | exact (Int.toNat_lt (by with_reducible assumption)).mpr (by with_reducible assumption) | exact Int.emod_nonneg _ (by decide) | exact Int.emod_lt_of_pos _ (by decide) | omega)) (by decide)) h1 (ha ld (by simp)) hdf (.inl ⟨by (first | exact Int.natCast_nonneg _ | exact Int.ofNat_lt.mpr (by with_reducible assumption) | exact (Int.toNat_lt (by with_reducible assumption)).mpr (by with_reducible assumption) | exact Int.emod_nonneg _ (by decide) | exact Int.emod_lt_of_pos _ (by decide) | omega), by (first | exact Int.natCast_nonneg _ | exact Int.ofNat_lt.mpr (by with_reducible assumption) | exact (Int.toNat_lt (by with_reducible assumption)).mpr (by with_reducible assumption) | exact Int.emod_nonneg _ (by decide) | exact Int.emod_lt_of_pos _ (by decide) | omega)⟩) (by rw [h2.len, dressAt_len]; (first | exact Int.natCast_nonneg _ | exact Int.ofNat_lt.mpr (by with_reducible assumption) | exact (Int.toNat_lt (by with_reducible assumption)).mpr (by with_reducible assumption) | exact Int.emod_nonneg _ (by decide) | exact Int.emod_lt_of_pos _ (by decide) | omega)) (by rw [h2.len, dressAt_len]; decide) ?_
    intro v s4 s5 hv l4 F5 hP5 hk5
    exact wp_end ⟨_, F5, n1, n2, n3, _, hP5, h2.set hv _⟩
  · rintro m s3 F3 ⟨a1, a2, a3, vs, h1, h2⟩
    obtain ⟨a, la, Fa, ka⟩ := F3.rebase []
    have hS : SLs a.heap ld (dressesF ns) := by
      rw [← dressAt_two]; exact ⟨vs, (h1.at fun o e => ka ld o hdf (by simp) e).isList, h2⟩
    have Fp := Fa.pick [(Str.ofString "dresses", .ref ld), (Str.ofString "signs", .ref ls), (Str.ofString "numbers", .ref ln)] ⟨a1, a2, a3, trivial⟩
    exact k a s3 ld la hS Fp
end
end Mine
end

section
open PySem PySem.W PyProof.Rows PySem.Calls
namespace Mine
noncomputable def par (ns : List Int) (k : Nat) : Int := ns.getD k 0 % (k : Int)
noncomputable def addTo (rows : List (List Int)) (j : Nat) (x : Int) : List (List Int) := rows.set j (rows.getD j [] ++ [x])
noncomputable def matesAt (ns : List Int) : Nat → List (List Int)
  | 0 => List.replicate 5 []
  | i + 1 => addTo (addTo (matesAt ns i) (i + 1) (par ns (i + 1))) (par ns (i + 1)).toNat ((i + 1 : Nat) : Int)
theorem addTo_rows {rows : List (List Int)} {j b : Nat} {x : Int} (h : ∀ row ∈ rows, row.length ≤ b) : ∀ row ∈ addTo rows j x, row.length ≤ b + 1 := by
  intro row hr
  unfold addTo at hr
  rcases List.mem_or_eq_of_mem_set hr with h1 | rfl
  · exact Nat.le_succ_of_le (h row h1)
  · rw [List.length_append]
    have : (rows.getD j []).length ≤ b := by
      by_cases hj : j < rows.length
      · exact h _ (getD_mem hj)
      · rw [List.getD_eq_getElem?_getD, List.getElem?_eq_none (by (first | exact Int.natCast_nonneg _ | exact Nat.succ_pos _ | exact Nat.lt_of_lt_of_le (by with_reducible assumption) (by decide) | exact Nat.lt_of_lt_of_eq (by with_reducible assumption) (Eq.symm (by with_reducible assumption)) | exact Int.ofNat_lt.mpr (by with_reducible assumption) | exact Int.emod_nonneg _ (by decide) | exact Int.emod_lt_of_pos _ (by decide) | exact Nat.succ_lt_succ (by with_reducible assumption) | exact (Int.natCast_add _ _).trans (Int.add_comm _ _) | omega))]; exact Nat.zero_le _
    simpa using this
theorem matesAt_rows (ns : List Int) : ∀ i, ∀ row ∈ matesAt ns i, row.length ≤ 2 * i
  | 0 => fun row h => by rw [List.eq_of_mem_replicate h]; exact Nat.le_refl _
  | i + 1 => addTo_rows (b := 2 * i + 1) (addTo_rows (matesAt_rows ns i))
theorem addTo_len (rows : List (List Int)) (j : Nat) (x : Int) : (addTo rows j x).length = rows.length := List.length_set
theorem matesAt_len (ns : List Int) : ∀ i, (matesAt ns i).length = 5
  | 0 => rfl
  | i + 1 => by rw [matesAt, addTo_len, addTo_len]; exact matesAt_len ns i
noncomputable def letter (ns : List Int) (k : Nat) : Str := Txt.item "pq" (ns.getD k 0 / 12 % 2)
noncomputable def nameOf (ns : List Int) (k : Nat) : Str := Txt.mul (letter ns k) (1 + ns.getD k 0 / 24 % 3) ++ sgnOf ns k
noncomputable def namesAt (ns : List Int) : Nat → List Str
  | 0 => [Str.empty]
  | i + 1 => namesAt ns i ++ [nameOf ns (i + 1)]
theorem namesAt_len (ns : List Int) : ∀ i, (namesAt ns i).length = i + 1
  | 0 => rfl
  | i + 1 => by rw [namesAt, List.length_append, namesAt_len ns i]; rfl
noncomputable def RowsAt (h : Heap) (rs : List Addr) (rows : List (List Int)) : Prop := rows.length = 5 ∧ ∀ j, j < 5 → ∃ vs : List Value, h.PlainList (rs.getD j 0) vs.toArray ∧ Ints vs (rows.getD j [])
theorem RowsAt.keep {h h' : Heap} {rs : List Addr} {rows : List (List Int)} (R : RowsAt h rs rows) (hl : rs.length = 5) (k : ∀ b o, b ∈ rs → h.get? b = some o → h'.get? b = some o) : RowsAt h' rs rows :=
  ⟨R.1, fun j hj => (by obtain ⟨vs, a, b⟩ := R.2 j hj; exact ⟨vs, a.at fun o e => k _ o (getD_mem (by (first | exact Int.natCast_nonneg _ | exact Nat.succ_pos _ | exact Nat.lt_of_lt_of_le (by with_reducible assumption) (by decide) | exact Nat.lt_of_lt_of_eq (by with_reducible assumption) (Eq.symm (by with_reducible assumption)) | exact Int.ofNat_lt.mpr (by with_reducible assumption) | exact Int.emod_nonneg _ (by decide) | exact Int.emod_lt_of_pos _ (by decide) | exact Nat.succ_lt_succ (by with_reducible assumption) | exact (Int.natCast_add _ _).trans (Int.add_comm _ _) | omega))) e, b⟩)⟩
theorem RowsAt.add {h h' : Heap} {rs : List Addr} {rows : List (List Int)} (R : RowsAt h rs rows) (hl : rs.length = 5) (hn : rs.Nodup) {j : Nat} (hj : j < 5) {vs : List Value} {v : Value} {x : Int} (hv : IsI x v) (hI : Ints vs (rows.getD j []))
    (hp : h'.PlainList (rs.getD j 0) (vs ++ [v]).toArray) (k : ∀ b o, b ≠ rs.getD j 0 → h.get? b = some o → h'.get? b = some o) : RowsAt h' rs (addTo rows j x) := by
  refine ⟨by unfold addTo; rw [List.length_set]; exact R.1, fun i hi => ?_⟩
  have hr := R.1
  by_cases e : i = j
  · subst e
    refine ⟨_, hp, ?_⟩
    have : (addTo rows i x).getD i [] = rows.getD i [] ++ [x] := by unfold addTo; rw [List.getD_eq_getElem?_getD, List.getElem?_set_self (by (first | exact Int.natCast_nonneg _ | exact Nat.succ_pos _ | exact Nat.lt_of_lt_of_le (by with_reducible assumption) (by decide) | exact Nat.lt_of_lt_of_eq (by with_reducible assumption) (Eq.symm (by with_reducible assumption)) | exact Int.ofNat_lt.mpr (by with_reducible assumption) | exact Int.emod_nonneg _ (by decide) | exact Int.emod_lt_of_pos _ (by decide) | exact Nat.succ_lt_succ (by with_reducible assumption) | exact (Int.natCast_add _ _).trans (Int.add_comm _ _) | omega))]; rfl
    rw [this]; exact hI.snoc hv
  · obtain ⟨us, h1, h2⟩ := R.2 i hi
    refine ⟨us, h1.at fun o e' => k _ o (fun q => e ?_) e', ?_⟩
    · have h3 : rs[i]? = rs[j]? := by
        rw [List.getD_eq_getElem?_getD, List.getD_eq_getElem?_getD, List.getElem?_eq_getElem (by (first | exact Int.natCast_nonneg _ | exact Nat.succ_pos _ | exact Nat.lt_of_lt_of_le (by with_reducible assumption) (by decide) | exact Nat.lt_of_lt_of_eq (by with_reducible assumption) (Eq.symm (by with_reducible assumption)) | exact Int.ofNat_lt.mpr (by with_reducible assumption) | exact Int.emod_nonneg _ (by decide) | exact Int.emod_lt_of_pos _ (by decide) | exact Nat.succ_lt_succ (by with_reducible assumption) | exact (Int.natCast_add _ _).trans (Int.add_comm _ _) | omega) : i < rs.length), List.getElem?_eq_getElem (by (first | exact Int.natCast_nonneg _ | exact Nat.succ_pos _ | exact Nat.lt_of_lt_of_le (by with_reducible assumption) (by decide) | exact Nat.lt_of_lt_of_eq (by with_reducible assumption) (Eq.symm (by with_reducible assumption)) | exact Int.ofNat_lt.mpr (by with_reducible assumption) | exact Int.emod_nonneg _ (by decide) | exact Int.emod_lt_of_pos _ (by decide) | exact Nat.succ_lt_succ (by with_reducible assumption) | exact (Int.natCast_add _ _).trans (Int.add_comm _ _) | omega) : j < rs.length)] at q
        rw [List.getElem?_eq_getElem (by (first | exact Int.natCast_nonneg _ | exact Nat.succ_pos _ | exact Nat.lt_of_lt_of_le (by with_reducible assumption) (by decide) | exact Nat.lt_of_lt_of_eq (by with_reducible assumption) (Eq.symm (by with_reducible assumption)) | exact Int.ofNat_lt.mpr (by with_reducible assumption) | exact Int.emod_nonneg _ (by decide) | exact Int.emod_lt_of_pos _ (by decide) | exact Nat.succ_lt_succ (by with_reducible assumption) | exact (Int.natCast_add _ _).trans (Int.add_comm _ _) | omega) : i < rs.length), List.getElem?_eq_getElem (by (first | exact Int.natCast_nonneg _ | exact Nat.succ_pos _ | exact Nat.lt_of_lt_of_le (by with_reducible assumption) (by decide) | exact Nat.lt_of_lt_of_eq (by with_reducible assumption) (Eq.symm (by with_reducible assumption)) | exact Int.ofNat_lt.mpr (by with_reducible assumption) | exact Int.emod_nonneg _ (by decide) | exact Int.emod_lt_of_pos _ (by decide) | exact Nat.succ_lt_succ (by with_reducible assumption) | exact (Int.natCast_add _ _).trans (Int.add_comm _ _) | omega) : j < rs.length)]
        exact congrArg some q
      exact (List.getElem?_inj (by (first | exact Int.natCast_nonneg _ | exact Nat.succ_pos _ | exact Nat.lt_of_lt_of_le (by with_reducible assumption) (by decide) | exact Nat.lt_of_lt_of_eq (by with_reducible assumption) (Eq.symm (by with_reducible assumption)) | exact Int.ofNat_lt.mpr (by with_reducible assumption) | exact Int.emod_nonneg _ (by decide) | exact Int.emod_lt_of_pos _ (by decide) | exact Nat.succ_lt_succ (by with_reducible assumption) | exact (Int.natCast_add _ _).trans (Int.add_comm _ _) | omega)) hn).mp h3
    · have : (addTo rows j x).getD i [] = rows.getD i [] := by unfold addTo; rw [List.getD_eq_getElem?_getD, List.getElem?_set_ne (Ne.symm e), ← List.getD_eq_getElem?_getD]
      rw [this]; exact h2
section
variable {prog : Program} {w : World} {A : Around} {s₀ s s' : Shared} {m : Mp} {env : Env} {pos : Pos} {Q : Flow → Shared → Prop} {E : Value → Shared → Prop} {L fa : Addr} {d : Nat}
theorem argsD {e : Expr} {rest : List Expr} {P1 : Value → Shared → Prop} {P2 : Shared → List Value → Shared → Prop} {R : List Value → Shared → Prop} (he : starEach (e :: rest) env = (false, eval e env) :: starEach rest env)
    (h1 : PT prog w A s₀ (eval e env) P1) (h2 : ∀ v s₁, Le s₀ s₁ → P1 v s₁ → PT prog w A s₁ (spliced (backTo pos (starEach rest env))) (P2 s₁))
    (h3 : ∀ v s₁ vs s₂, Le s₀ s₁ → P1 v s₁ → Le s₁ s₂ → P2 s₁ vs s₂ → R (v :: vs) s₂) : PT prog w A s₀ (spliced (backTo pos (starEach (e :: rest) env))) R := by
  intro s Q E l q
  rw [he]
  refine spliced_cons (h1 s _ E l fun v s₁ l1 p1 => h2 v s₁ (l.trans l1) p1 s₁ _ E (Le.refl _) fun vs s₂ l2 p2 => q _ s₂ (l1.trans l2) (h3 v s₁ vs s₂ (l.trans l1) p1 l2 p2))
inductive Nils (env : Env) : List Expr → Prop
  | nil : Nils env []
  | cons {p rest} : starEach (.List [] p :: rest) env = (false, eval (.List [] p) env) :: starEach rest env → Nils env rest → Nils env (.List [] p :: rest)
theorem Nils.pt {es : List Expr} (h : Nils env es) : ∀ {s₀ : Shared}, PT prog w A s₀ (spliced (backTo pos (starEach es env))) (fun vs s' => ∃ rs : List Addr, vs = rs.map Value.ref ∧ rs.length = es.length ∧ rs.Nodup ∧ ∀ r ∈ rs, s₀.heap.get? r = none ∧ s'.heap.PlainList r ([] : List Value).toArray) := by
  induction h with
  | nil => intro s₀; exact args0 fun _ _ => ⟨[], rfl, rfl, List.nodup_nil, fun r h => nomatch h⟩
  | cons he _ ih =>
    intro s₀
    refine argsD he pt_nil (fun v s₁ l _ => ih (s₀ := s₁)) fun v s₁ vs s₂ l1 ⟨D, e, h0, hp⟩ l2 ⟨rs, e2, h1, h2, h3⟩ => ?_
    refine ⟨D :: rs, by rw [e, e2]; rfl, by simp [h1], List.nodup_cons.mpr ⟨fun hm => ?_, h2⟩, fun r hr => ?_⟩
    · obtain ⟨n, e⟩ := hp
      have := (h3 D hm).1
      rw [e] at this; cases this
    · rcases List.mem_cons.mp hr with rfl | hr
      · exact ⟨h0, hp.at fun o e => l2.keep _ o e⟩
      · exact ⟨none_le l1 (h3 r hr).1, (h3 r hr).2⟩
theorem pt_rows {es : List Expr} (h : Nils env es) (hz : es.length ≤ sizeLine) : PT prog w A s₀ (eval (.List es pos) env) (fun v s' => ∃ lm rs, v = .ref lm ∧ s₀.heap.get? lm = none ∧ s'.heap.PlainList lm ((rs : List Addr).map Value.ref).toArray ∧ rs.length = es.length ∧ rs.Nodup ∧ lm ∉ rs ∧ ∀ r ∈ rs, s₀.heap.get? r = none ∧ s'.heap.PlainList r ([] : List Value).toArray) := by
  intro s Q E l q
  refine wpAny_List_spliced ((h.pt (s₀ := s)).use fun vs s₁ l1 hv => ?_)
  obtain ⟨rs, rfl, h1, h2, h3⟩ := hv
  refine ⟨by rw [List.length_map, h1]; exact hz, ?_⟩
  have hn := new_none s₁.heap s₁.heap.objs.size (Nat.le_refl _)
  refine q _ _ (l1.trans (Le.push (tk := s₁.toks))) ⟨_, rs, rfl, none_le (l.trans l1) hn, ⟨_, Heap.get?_push_size _ rfl⟩, h1, h2, fun hm => ?_, fun r hr => ⟨none_le l (h3 r hr).1, (h3 r hr).2.at fun o e => Heap.get?_push_of_some _ e⟩⟩
  obtain ⟨n, e⟩ := (h3 _ hm).2
  rw [hn] at e; cases e
/-- a sign of a text -/
theorem pt_itemT {value slice : Expr} {x : Str} {i : Int} (ho : PV prog w A s₀ (eval value env) (IsS x)) (hi : PV prog w A s₀ (eval slice env) (IsI i)) (h0 : 0 ≤ i) (h1 : i < x.length) (hz : x.length ≤ 1000)
    (hs : ∀ t u, subscripted slice false (.str x t) (.int i u) = operate [.str x t, .int i u] (getItem (.str x t) (.int i u)) := by intro _ _; with_unfolding_all rfl) (ht : ∀ t r, letTemporaryGo value (.str x t) r = pure () := by intro _ _; with_unfolding_all rfl) :
    PV prog w A s₀ (eval (.Subscript value slice pos) env) (IsS (Txt.item x i)) := by
  refine pt_subscript ho (fun _ _ l _ => hi.le l) fun o v s₁ s₂ l1 ⟨t, e⟩ l2 ⟨u, ei⟩ => ?_
  subst e ei
  intro s Q E le q
  refine PyProof.Rows.item_str ?_ (by (first | exact Int.natCast_nonneg _ | exact Nat.succ_pos _ | exact Nat.lt_of_lt_of_le (by with_reducible assumption) (by decide) | exact Nat.lt_of_lt_of_eq (by with_reducible assumption) (Eq.symm (by with_reducible assumption)) | exact Int.ofNat_lt.mpr (by with_reducible assumption) | exact Int.emod_nonneg _ (by decide) | exact Int.emod_lt_of_pos _ (by decide) | exact Nat.succ_lt_succ (by with_reducible assumption) | exact (Int.natCast_add _ _).trans (Int.add_comm _ _) | omega)) h1 (fun _ => q _ _ Le.toks ⟨_, rfl⟩) (hs t u) (ht t)
  exact fitsSsize_of (N := 9223372036854775808) (by (first | exact Int.natCast_nonneg _ | exact Nat.succ_pos _ | exact Nat.lt_of_lt_of_le (by with_reducible assumption) (by decide) | exact Nat.lt_of_lt_of_eq (by with_reducible assumption) (Eq.symm (by with_reducible assumption)) | exact Int.ofNat_lt.mpr (by with_reducible assumption) | exact Int.emod_nonneg _ (by decide) | exact Int.emod_lt_of_pos _ (by decide) | exact Nat.succ_lt_succ (by with_reducible assumption) | exact (Int.natCast_add _ _).trans (Int.add_comm _ _) | omega)) (by (first | exact Int.natCast_nonneg _ | exact Nat.succ_pos _ | exact Nat.lt_of_lt_of_le (by with_reducible assumption) (by decide) | exact Nat.lt_of_lt_of_eq (by with_reducible assumption) (Eq.symm (by with_reducible assumption)) | exact Int.ofNat_lt.mpr (by with_reducible assumption) | exact Int.emod_nonneg _ (by decide) | exact Int.emod_lt_of_pos _ (by decide) | exact Nat.succ_lt_succ (by with_reducible assumption) | exact (Int.natCast_add _ _).trans (Int.add_comm _ _) | omega)) (Int.le_refl _)

theorem item_len (x : Str) (i : Int) : (Txt.item x i).length = 1 := rfl
theorem par_bnd {ns : List Int} (hns : Nums ns) {k : Nat} (hk : 0 < k) : 0 ≤ par ns k ∧ par ns k < k := by
  unfold par; exact ⟨Int.emod_nonneg _ (by (first | exact Int.natCast_nonneg _ | exact Nat.succ_pos _ | exact Nat.lt_of_lt_of_le (by with_reducible assumption) (by decide) | exact Nat.lt_of_lt_of_eq (by with_reducible assumption) (Eq.symm (by with_reducible assumption)) | exact Int.ofNat_lt.mpr (by with_reducible assumption) | exact Int.emod_nonneg _ (by decide) | exact Int.emod_lt_of_pos _ (by decide) | exact Nat.succ_lt_succ (by with_reducible assumption) | exact (Int.natCast_add _ _).trans (Int.add_comm _ _) | omega)), Int.emod_lt_of_pos _ (by (first | exact Int.natCast_nonneg _ | exact Nat.succ_pos _ | exact Nat.lt_of_lt_of_le (by with_reducible assumption) (by decide) | exact Nat.lt_of_lt_of_eq (by with_reducible assumption) (Eq.symm (by with_reducible assumption)) | exact Int.ofNat_lt.mpr (by with_reducible assumption) | exact Int.emod_nonneg _ (by decide) | exact Int.emod_lt_of_pos _ (by decide) | exact Nat.succ_lt_succ (by with_reducible assumption) | exact (Int.natCast_add _ _).trans (Int.add_comm _ _) | omega))⟩
theorem nums_at {ns : List Int} (hns : Nums ns) {k : Nat} (hk : k < 5) : 0 ≤ ns.getD k 0 ∧ ns.getD k 0 < 1000000 := hns.bnd _ (getD_mem (by rw [hns.len]; exact hk))

set_option maxHeartbeats 8000000 in
theorem phC {ns : List Int} {ln ls ld : Addr} (C : Cx A (d + 1)) (T : Tp w s₀) (F : Fm s₀ (lawEnv L fa) [(Str.ofString "dresses", .ref ld), (Str.ofString "signs", .ref ls), (Str.ofString "numbers", .ref ln)] s) (hns : Nums ns) (hn : ILs s₀.heap ln ns) (hS : SLs s₀.heap ls (signsF ns))
    (k : ∀ a s' lm rs lw vw, Le s₀ a → a.heap.PlainList lm ((rs : List Addr).map Value.ref).toArray → rs.length = 5 → RowsAt a.heap rs (matesAt ns 4) → a.heap.PlainList lw (vw : List Value).toArray → Strs vw (namesAt ns 4) →
      Fm a (lawEnv L fa) [(Str.ofString "names", .ref lw), (Str.ofString "mates", .ref lm), (Str.ofString "dresses", .ref ld), (Str.ofString "signs", .ref ls), (Str.ofString "numbers", .ref ln)] s' → wpAny (model prog w) A (execs (lawFrom 8) (lawEnv L fa)) Q E s') :
    wpAny (model prog w) A (execs (lawFrom 5) (lawEnv L fa)) Q E s := by
  have hzl : sizeLine = 16777216 := sizeLine_eq
  rw [lawStep 5 (by decide)]
  refine wp_assign F (pt_rows (.cons rfl (.cons rfl (.cons rfl (.cons rfl (.cons rfl .nil))))) (by rw [hzl]; decide)) ?_
  rintro v1 s₁ l1 ⟨lm, rs, rfl, hm0, hmP, hrl, hrn, hmr, hrs⟩ s₂ F2 B2 g2
  replace hrl : rs.length = 5 := hrl
  obtain ⟨hmf, hm00⟩ := F.fresh hm0
  have hrf : ∀ r ∈ rs, r ∉ fAd (lawEnv L fa) ∧ s₀.heap.get? r = none := fun r hr => F.fresh (hrs r hr).1
  have hm2 : s₂.heap.PlainList lm (rs.map Value.ref).toArray := hmP.at fun o e => B2 lm o hmf e
  have hr2 : ∀ r ∈ rs, s₂.heap.PlainList r ([] : List Value).toArray := fun r hr => (hrs r hr).2.at fun o e => B2 r o (hrf r hr).1 e
  -- names
  rw [lawStep 6 (by decide)]
  refine wp_assign F2 (pt_display (ps := [Str.empty].map fun i => IsS i) (.cons (pt_str _ _ _) rfl .nil) (by rw [hzl]; decide)) ?_
  rintro v3 s₃ l3 ⟨lw, vw, rfl, hw0, hwP, hwA⟩ s₄ F4 B4 g4
  obtain ⟨hwf, hw00⟩ := F2.fresh hw0
  have hwr : lw ∉ rs := fun hm => by obtain ⟨n, e⟩ := hr2 lw hm; rw [hw0] at e; cases e
  have hwm : lw ≠ lm := fun q => by obtain ⟨n, e⟩ := hm2; rw [← q, hw0] at e; cases e
  have hw4 : s₄.heap.PlainList lw vw.toArray := hwP.at fun o e => B4 lw o hwf e
  have hm4 : s₄.heap.PlainList lm (rs.map Value.ref).toArray := hm2.at fun o e => B4 lm o hmf (l3.keep _ o e)
  have hr4 : ∀ r ∈ rs, s₄.heap.PlainList r ([] : List Value).toArray := fun r hr => (hr2 r hr).at fun o e => B4 r o (hrf r hr).1 (l3.keep _ o e)
  have R4 : RowsAt s₄.heap rs (matesAt ns 0) := ⟨rfl, fun j hj => ⟨[], hr4 _ (getD_mem (by (first | exact Int.natCast_nonneg _ | exact Nat.succ_pos _ | exact Nat.lt_of_lt_of_le (by with_reducible assumption) (by decide) | exact Nat.lt_of_lt_of_eq (by with_reducible assumption) (Eq.symm (by with_reducible assumption)) | exact Int.ofNat_lt.mpr (by with_reducible assumption) | exact Int.emod_nonneg _ (by decide) | exact Int.emod_lt_of_pos _ (by decide) | exact Nat.succ_lt_succ (by with_reducible assumption) | exact (Int.natCast_add _ _).trans (Int.add_comm _ _) | omega))), by
    have : (matesAt ns 0).getD j [] = [] := by
      match j, hj with
      | 0, _ | 1, _ | 2, _ | 3, _ | 4, _ => rfl
    rw [this]; exact .nil⟩⟩
  have T4 : Tp w s₄ := T.le F4.le
  -- the loop
  rw [lawStep 7 (by decide)]
  obtain ⟨a, la, Fa, ka, hDa⟩ := F4.rebaseD (lw :: rs) (fun b hb => by
    rcases List.mem_cons.mp hb with rfl | hb
    · exact hw00
    · exact (hrf b hb).2)
  have hma : a.heap.PlainList lm (rs.map Value.ref).toArray := hm4.at fun o e => ka lm o hmf (fun h => (List.mem_cons.mp h).elim (fun q => hwm q.symm) hmr) e
  have Ta : Tp w a := T.le la
  have hna := hn.keeps la.keep
  have hSa := hS.keeps la.keep
  obtain ⟨JJ, hJJ⟩ : ∃ J : Nat → Mp → Shared → Prop, ∀ i m s', J i m s' ↔ (m.lookup (Str.ofString "names") = some (.ref lw) ∧ m.lookup (Str.ofString "mates") = some (.ref lm) ∧ m.lookup (Str.ofString "dresses") = some (.ref ld) ∧ m.lookup (Str.ofString "signs") = some (.ref ls) ∧ m.lookup (Str.ofString "numbers") = some (.ref ln) ∧ RowsAt s'.heap rs (matesAt ns i) ∧ ∃ vw, s'.heap.PlainList lw (vw : List Value).toArray ∧ Strs vw (namesAt ns i)) := ⟨_, fun _ _ _ => Iff.rfl⟩
  refine wp_for (D := lw :: rs) (src := []) (n := 4) (P := fun i v => IsI (1 + i) v) (s₀ := a) JJ
    Fa (pt_range2 (pt_builtin T4 rfl (by k_is) rfl) (pt_int 1 _ _) (pt_int 5 _ _)) (fun v s4 l4 zq4 => by obtain ⟨r, t, u, x, e, hrg⟩ := zq4; rw [e]; exact src_range C.hh hrg (by decide) (by decide)) (fun b hb => nomatch hb)
    (fun b hb => ⟨hDa b hb, (List.mem_cons.mp hb).elim (fun q => q ▸ hwf) (fun h => (hrf b h).1), (List.mem_cons.mp hb).elim (fun q => q ▸ ((by obtain ⟨n, e⟩ := hw4; exact ⟨_, e⟩))) (fun h => (by obtain ⟨n, e⟩ := hr4 b h; exact ⟨_, e⟩))⟩) ?_ ((hJJ _ _ _).mpr ⟨rfl, rfl, rfl, rfl, rfl, R4, vw, hw4, args_strs hwA⟩) ?_ ?_
  · intro i m s5 s6 hj hk
    obtain ⟨a1, a2, a3, a4, a5, R, vw, h1, h2⟩ := (hJJ _ _ _).mp hj
    exact (hJJ _ _ _).mpr ⟨a1, a2, a3, a4, a5, R.keep hrl fun b o hb e => hk b (List.mem_cons_of_mem _ hb) o e, vw, h1.at fun o e => hk lw (.head _) o e, h2⟩
  · intro i vk a5 m s5 hi hvk la5 ha5 F5 hj
    obtain ⟨a1, a2, a3, a4, a5', R, vw, h1, h2⟩ := (hJJ _ _ _).mp hj
    have hvk' : IsI ((i + 1 : Nat) : Int) vk := by rw [show ((i + 1 : Nat) : Int) = 1 + (i : Int) by (first | exact Int.natCast_nonneg _ | exact Nat.succ_pos _ | exact Nat.lt_of_lt_of_le (by with_reducible assumption) (by decide) | exact Nat.lt_of_lt_of_eq (by with_reducible assumption) (Eq.symm (by with_reducible assumption)) | exact Int.ofNat_lt.mpr (by with_reducible assumption) | exact Int.emod_nonneg _ (by decide) | exact Int.emod_lt_of_pos _ (by decide) | exact Nat.succ_lt_succ (by with_reducible assumption) | exact (Int.natCast_add _ _).trans (Int.add_comm _ _) | omega)]; exact hvk
    have n1 := (lookup_cons_ne (x := Str.ofString "k") (v := vk) (by decide)).trans a1
    have n2 := (lookup_cons_ne (x := Str.ofString "k") (v := vk) (by decide)).trans a2
    have n3 := (lookup_cons_ne (x := Str.ofString "k") (v := vk) (by decide)).trans a3
    have n4 := (lookup_cons_ne (x := Str.ofString "k") (v := vk) (by decide)).trans a4
    have n5 := (lookup_cons_ne (x := Str.ofString "k") (v := vk) (by decide)).trans a5'
    obtain ⟨p0, p1⟩ := par_bnd hns (k := i + 1) (by (first | exact Int.natCast_nonneg _ | exact Nat.succ_pos _ | exact Nat.lt_of_lt_of_le (by with_reducible assumption) (by decide) | exact Nat.lt_of_lt_of_eq (by with_reducible assumption) (Eq.symm (by with_reducible assumption)) | exact Int.ofNat_lt.mpr (by with_reducible assumption) | exact Int.emod_nonneg _ (by decide) | exact Int.emod_lt_of_pos _ (by decide) | exact Nat.succ_lt_succ (by with_reducible assumption) | exact (Int.natCast_add _ _).trans (Int.add_comm _ _) | omega))
    obtain ⟨c0, c1⟩ := nums_at hns (k := i + 1) (by (first | exact Int.natCast_nonneg _ | exact Nat.succ_pos _ | exact Nat.lt_of_lt_of_le (by with_reducible assumption) (by decide) | exact Nat.lt_of_lt_of_eq (by with_reducible assumption) (Eq.symm (by with_reducible assumption)) | exact Int.ofNat_lt.mpr (by with_reducible assumption) | exact Int.emod_nonneg _ (by decide) | exact Int.emod_lt_of_pos _ (by decide) | exact Nat.succ_lt_succ (by with_reducible assumption) | exact (Int.natCast_add _ _).trans (Int.add_comm _ _) | omega))
    have hpj : (par ns (i + 1)).toNat < 5 := by (first | exact Int.natCast_nonneg _ | exact Nat.succ_pos _ | exact Nat.lt_of_lt_of_le (by with_reducible assumption) (by decide) | exact Nat.lt_of_lt_of_eq (by with_reducible assumption) (Eq.symm (by with_reducible assumption)) | exact Int.ofNat_lt.mpr (by with_reducible assumption) | exact Int.emod_nonneg _ (by decide) | exact Int.emod_lt_of_pos _ (by decide) | exact Nat.succ_lt_succ (by with_reducible assumption) | exact (Int.natCast_add _ _).trans (Int.add_comm _ _) | omega)
    have hmi : ∀ {sx : Shared}, Le a sx → sx.heap.IsList lm (rs.map Value.ref).toArray := fun l => (hma.at fun o e => l.keep _ o e).isList
    have hrow : ∀ j, j < 5 → (rs.map Value.ref)[j]? = some (.ref (rs.getD j 0)) := fun j hj => by rw [List.getElem?_map, List.getD_eq_getElem?_getD, List.getElem?_eq_getElem (by (first | exact Int.natCast_nonneg _ | exact Nat.succ_pos _ | exact Nat.lt_of_lt_of_le (by with_reducible assumption) (by decide) | exact Nat.lt_of_lt_of_eq (by with_reducible assumption) (Eq.symm (by with_reducible assumption)) | exact Int.ofNat_lt.mpr (by with_reducible assumption) | exact Int.emod_nonneg _ (by decide) | exact Int.emod_lt_of_pos _ (by decide) | exact Nat.succ_lt_succ (by with_reducible assumption) | exact (Int.natCast_add _ _).trans (Int.add_comm _ _) | omega) : j < rs.length)]; rfl
    have hrz : (rs.map Value.ref).length ≤ sizeLine := by rw [List.length_map, hrl, hzl]; decide
    have hmem : ∀ j, j < 5 → rs.getD j 0 ∈ lw :: rs := fun j hj => List.mem_cons_of_mem _ (getD_mem (by (first | exact Int.natCast_nonneg _ | exact Nat.succ_pos _ | exact Nat.lt_of_lt_of_le (by with_reducible assumption) (by decide) | exact Nat.lt_of_lt_of_eq (by with_reducible assumption) (Eq.symm (by with_reducible assumption)) | exact Int.ofNat_lt.mpr (by with_reducible assumption) | exact Int.emod_nonneg _ (by decide) | exact Int.emod_lt_of_pos _ (by decide) | exact Nat.succ_lt_succ (by with_reducible assumption) | exact (Int.natCast_add _ _).trans (Int.add_comm _ _) | omega)))
    -- mates[k].append(numbers[k] % k)
    obtain ⟨u1, hu1, hI1⟩ := R.2 (i + 1) (by (first | exact Int.natCast_nonneg _ | exact Nat.succ_pos _ | exact Nat.lt_of_lt_of_le (by with_reducible assumption) (by decide) | exact Nat.lt_of_lt_of_eq (by with_reducible assumption) (Eq.symm (by with_reducible assumption)) | exact Int.ofNat_lt.mpr (by with_reducible assumption) | exact Int.emod_nonneg _ (by decide) | exact Int.emod_lt_of_pos _ (by decide) | exact Nat.succ_lt_succ (by with_reducible assumption) | exact (Int.natCast_add _ _).trans (Int.add_comm _ _) | omega))
    refine wp_append F5 (pt_item (i := ((i + 1 : Nat) : Int)) (hmi (la5.trans F5.le)) (nmC (p := fun u => u = .ref lm) F5 n2 rfl) (nmC F5 lookup_cons_eq hvk') (.inl ⟨by (first | exact Int.natCast_nonneg _ | exact Nat.succ_pos _ | exact Nat.lt_of_lt_of_le (by with_reducible assumption) (by decide) | exact Nat.lt_of_lt_of_eq (by with_reducible assumption) (Eq.symm (by with_reducible assumption)) | exact Int.ofNat_lt.mpr (by with_reducible assumption) | exact Int.emod_nonneg _ (by decide) | exact Int.emod_lt_of_pos _ (by decide) | exact Nat.succ_lt_succ (by with_reducible assumption) | exact (Int.natCast_add _ _).trans (Int.add_comm _ _) | omega), hrow (i + 1) (by (first | exact Int.natCast_nonneg _ | exact Nat.succ_pos _ | exact Nat.lt_of_lt_of_le (by with_reducible assumption) (by decide) | exact Nat.lt_of_lt_of_eq (by with_reducible assumption) (Eq.symm (by with_reducible assumption)) | exact Int.ofNat_lt.mpr (by with_reducible assumption) | exact Int.emod_nonneg _ (by decide) | exact Int.emod_lt_of_pos _ (by decide) | exact Nat.succ_lt_succ (by with_reducible assumption) | exact (Int.natCast_add _ _).trans (Int.add_comm _ _) | omega))⟩) hrz) hu1 (ha5 _ (hmem _ (by (first | exact Int.natCast_nonneg _ | exact Nat.succ_pos _ | exact Nat.lt_of_lt_of_le (by with_reducible assumption) (by decide) | exact Nat.lt_of_lt_of_eq (by with_reducible assumption) (Eq.symm (by with_reducible assumption)) | exact Int.ofNat_lt.mpr (by with_reducible assumption) | exact Int.emod_nonneg _ (by decide) | exact Int.emod_lt_of_pos _ (by decide) | exact Nat.succ_lt_succ (by with_reducible assumption) | exact (Int.natCast_add _ _).trans (Int.add_comm _ _) | omega)))) (hrf _ (getD_mem (by (first | exact Int.natCast_nonneg _ | exact Nat.succ_pos _ | exact Nat.lt_of_lt_of_le (by with_reducible assumption) (by decide) | exact Nat.lt_of_lt_of_eq (by with_reducible assumption) (Eq.symm (by with_reducible assumption)) | exact Int.ofNat_lt.mpr (by with_reducible assumption) | exact Int.emod_nonneg _ (by decide) | exact Int.emod_lt_of_pos _ (by decide) | exact Nat.succ_lt_succ (by with_reducible assumption) | exact (Int.natCast_add _ _).trans (Int.add_comm _ _) | omega)))).1
      (pv_binop (pt_num (x := ((i + 1 : Nat) : Int)) (hna.keeps (la5.trans F5.le).keep) (nmC (p := fun u => u = .ref ln) F5 n5 rfl) (nmC F5 lookup_cons_eq hvk') (by (first | exact Int.natCast_nonneg _ | exact Nat.succ_pos _ | exact Nat.lt_of_lt_of_le (by with_reducible assumption) (by decide) | exact Nat.lt_of_lt_of_eq (by with_reducible assumption) (Eq.symm (by with_reducible assumption)) | exact Int.ofNat_lt.mpr (by with_reducible assumption) | exact Int.emod_nonneg _ (by decide) | exact Int.emod_lt_of_pos _ (by decide) | exact Nat.succ_lt_succ (by with_reducible assumption) | exact (Int.natCast_add _ _).trans (Int.add_comm _ _) | omega)) (by rw [hns.len]; (first | exact Int.natCast_nonneg _ | exact Nat.succ_pos _ | exact Nat.lt_of_lt_of_le (by with_reducible assumption) (by decide) | exact Nat.lt_of_lt_of_eq (by with_reducible assumption) (Eq.symm (by with_reducible assumption)) | exact Int.ofNat_lt.mpr (by with_reducible assumption) | exact Int.emod_nonneg _ (by decide) | exact Int.emod_lt_of_pos _ (by decide) | exact Nat.succ_lt_succ (by with_reducible assumption) | exact (Int.natCast_add _ _).trans (Int.add_comm _ _) | omega)) (by rw [hns.len]; decide)) (nmC F5 lookup_cons_eq hvk') fun _ _ _ _ h1 h2 => o_mod h1 h2 (by (first | exact Int.natCast_nonneg _ | exact Nat.succ_pos _ | exact Nat.lt_of_lt_of_le (by with_reducible assumption) (by decide) | exact Nat.lt_of_lt_of_eq (by with_reducible assumption) (Eq.symm (by with_reducible assumption)) | exact Int.ofNat_lt.mpr (by with_reducible assumption) | exact Int.emod_nonneg _ (by decide) | exact Int.emod_lt_of_pos _ (by decide) | exact Nat.succ_lt_succ (by with_reducible assumption) | exact (Int.natCast_add _ _).trans (Int.add_comm _ _) | omega))) ?_ ?_
    · rw [hI1.len, hzl]
      have := matesAt_rows ns i _ (getD_mem (d := []) (by rw [matesAt_len]; (first | exact Int.natCast_nonneg _ | exact Nat.succ_pos _ | exact Nat.lt_of_lt_of_le (by with_reducible assumption) (by decide) | exact Nat.lt_of_lt_of_eq (by with_reducible assumption) (Eq.symm (by with_reducible assumption)) | exact Int.ofNat_lt.mpr (by with_reducible assumption) | exact Int.emod_nonneg _ (by decide) | exact Int.emod_lt_of_pos _ (by decide) | exact Nat.succ_lt_succ (by with_reducible assumption) | exact (Int.natCast_add _ _).trans (Int.add_comm _ _) | omega) : i + 1 < (matesAt ns i).length))
      (first | exact Int.natCast_nonneg _ | exact Nat.succ_pos _ | exact Nat.lt_of_lt_of_le (by with_reducible assumption) (by decide) | exact Nat.lt_of_lt_of_eq (by with_reducible assumption) (Eq.symm (by with_reducible assumption)) | exact Int.ofNat_lt.mpr (by with_reducible assumption) | exact Int.emod_nonneg _ (by decide) | exact Int.emod_lt_of_pos _ (by decide) | exact Nat.succ_lt_succ (by with_reducible assumption) | exact (Int.natCast_add _ _).trans (Int.add_comm _ _) | omega)
    intro v6 s6' s6 s7 l6 h6 l6' F7 hP7 hk7 g7
    have R7 := RowsAt.add (R.keep (h' := s6.heap) hrl fun b o hb e => l6.keep b o e) hrl hrn (j := i + 1) (by (first | exact Int.natCast_nonneg _ | exact Nat.succ_pos _ | exact Nat.lt_of_lt_of_le (by with_reducible assumption) (by decide) | exact Nat.lt_of_lt_of_eq (by with_reducible assumption) (Eq.symm (by with_reducible assumption)) | exact Int.ofNat_lt.mpr (by with_reducible assumption) | exact Int.emod_nonneg _ (by decide) | exact Int.emod_lt_of_pos _ (by decide) | exact Nat.succ_lt_succ (by with_reducible assumption) | exact (Int.natCast_add _ _).trans (Int.add_comm _ _) | omega)) (x := par ns (i + 1)) h6 hI1 hP7 hk7
    have hw7 : s7.heap.PlainList lw vw.toArray := h1.at fun o e => hk7 lw o (fun q => hwr (by rw [q]; exact getD_mem (by (first | exact Int.natCast_nonneg _ | exact Nat.succ_pos _ | exact Nat.lt_of_lt_of_le (by with_reducible assumption) (by decide) | exact Nat.lt_of_lt_of_eq (by with_reducible assumption) (Eq.symm (by with_reducible assumption)) | exact Int.ofNat_lt.mpr (by with_reducible assumption) | exact Int.emod_nonneg _ (by decide) | exact Int.emod_lt_of_pos _ (by decide) | exact Nat.succ_lt_succ (by with_reducible assumption) | exact (Int.natCast_add _ _).trans (Int.add_comm _ _) | omega)))) (l6.keep _ o e)
    have l7 : Le a s7 := la5.trans F7.le
    -- mates[numbers[k] % k].append(k)
    obtain ⟨u2, hu2, hI2⟩ := R7.2 (par ns (i + 1)).toNat hpj
    refine wp_append F7 (pt_item (i := par ns (i + 1)) (hmi l7) (nmC (p := fun u => u = .ref lm) F7 n2 rfl) (pv_binop (pt_num (x := ((i + 1 : Nat) : Int)) (hna.keeps l7.keep) (nmC (p := fun u => u = .ref ln) F7 n5 rfl) (nmC F7 lookup_cons_eq hvk') (by (first | exact Int.natCast_nonneg _ | exact Nat.succ_pos _ | exact Nat.lt_of_lt_of_le (by with_reducible assumption) (by decide) | exact Nat.lt_of_lt_of_eq (by with_reducible assumption) (Eq.symm (by with_reducible assumption)) | exact Int.ofNat_lt.mpr (by with_reducible assumption) | exact Int.emod_nonneg _ (by decide) | exact Int.emod_lt_of_pos _ (by decide) | exact Nat.succ_lt_succ (by with_reducible assumption) | exact (Int.natCast_add _ _).trans (Int.add_comm _ _) | omega)) (by rw [hns.len]; (first | exact Int.natCast_nonneg _ | exact Nat.succ_pos _ | exact Nat.lt_of_lt_of_le (by with_reducible assumption) (by decide) | exact Nat.lt_of_lt_of_eq (by with_reducible assumption) (Eq.symm (by with_reducible assumption)) | exact Int.ofNat_lt.mpr (by with_reducible assumption) | exact Int.emod_nonneg _ (by decide) | exact Int.emod_lt_of_pos _ (by decide) | exact Nat.succ_lt_succ (by with_reducible assumption) | exact (Int.natCast_add _ _).trans (Int.add_comm _ _) | omega)) (by rw [hns.len]; decide)) (nmC F7 lookup_cons_eq hvk') fun _ _ _ _ h1 h2 => o_mod h1 h2 (by (first | exact Int.natCast_nonneg _ | exact Nat.succ_pos _ | exact Nat.lt_of_lt_of_le (by with_reducible assumption) (by decide) | exact Nat.lt_of_lt_of_eq (by with_reducible assumption) (Eq.symm (by with_reducible assumption)) | exact Int.ofNat_lt.mpr (by with_reducible assumption) | exact Int.emod_nonneg _ (by decide) | exact Int.emod_lt_of_pos _ (by decide) | exact Nat.succ_lt_succ (by with_reducible assumption) | exact (Int.natCast_add _ _).trans (Int.add_comm _ _) | omega))) (.inl ⟨p0, hrow _ hpj⟩) hrz) hu2 (ha5 _ (hmem _ hpj)) (hrf _ (getD_mem (by (first | exact Int.natCast_nonneg _ | exact Nat.succ_pos _ | exact Nat.lt_of_lt_of_le (by with_reducible assumption) (by decide) | exact Nat.lt_of_lt_of_eq (by with_reducible assumption) (Eq.symm (by with_reducible assumption)) | exact Int.ofNat_lt.mpr (by with_reducible assumption) | exact Int.emod_nonneg _ (by decide) | exact Int.emod_lt_of_pos _ (by decide) | exact Nat.succ_lt_succ (by with_reducible assumption) | exact (Int.natCast_add _ _).trans (Int.add_comm _ _) | omega)))).1
      (nmC (p := IsI ((i + 1 : Nat) : Int)) F7 lookup_cons_eq hvk') ?_ ?_
    · rw [hI2.len, hzl]
      have := addTo_rows (j := i + 1) (x := par ns (i + 1)) (matesAt_rows ns i) _ (getD_mem (d := []) (by rw [addTo_len, matesAt_len]; exact hpj : (par ns (i + 1)).toNat < (addTo (matesAt ns i) (i + 1) (par ns (i + 1))).length))
      (first | exact Int.natCast_nonneg _ | exact Nat.succ_pos _ | exact Nat.lt_of_lt_of_le (by with_reducible assumption) (by decide) | exact Nat.lt_of_lt_of_eq (by with_reducible assumption) (Eq.symm (by with_reducible assumption)) | exact Int.ofNat_lt.mpr (by with_reducible assumption) | exact Int.emod_nonneg _ (by decide) | exact Int.emod_lt_of_pos _ (by decide) | exact Nat.succ_lt_succ (by with_reducible assumption) | exact (Int.natCast_add _ _).trans (Int.add_comm _ _) | omega)
    intro v8 s8' s8 s9 l8 h8 l8' F9 hP9 hk9 g9
    have R9 := RowsAt.add (R7.keep (h' := s8.heap) hrl fun b o hb e => l8.keep b o e) hrl hrn hpj (x := ((i + 1 : Nat) : Int)) h8 hI2 hP9 hk9
    have hw9 : s9.heap.PlainList lw vw.toArray := hw7.at fun o e => hk9 lw o (fun q => hwr (by rw [q]; exact getD_mem (by (first | exact Int.natCast_nonneg _ | exact Nat.succ_pos _ | exact Nat.lt_of_lt_of_le (by with_reducible assumption) (by decide) | exact Nat.lt_of_lt_of_eq (by with_reducible assumption) (Eq.symm (by with_reducible assumption)) | exact Int.ofNat_lt.mpr (by with_reducible assumption) | exact Int.emod_nonneg _ (by decide) | exact Int.emod_lt_of_pos _ (by decide) | exact Nat.succ_lt_succ (by with_reducible assumption) | exact (Int.natCast_add _ _).trans (Int.add_comm _ _) | omega)))) (l8.keep _ o e)
    have l9 : Le a s9 := la5.trans F9.le
    have q0 : 0 ≤ ns.getD (i + 1) 0 / 12 % 2 := by (first | exact Int.natCast_nonneg _ | exact Nat.succ_pos _ | exact Nat.lt_of_lt_of_le (by with_reducible assumption) (by decide) | exact Nat.lt_of_lt_of_eq (by with_reducible assumption) (Eq.symm (by with_reducible assumption)) | exact Int.ofNat_lt.mpr (by with_reducible assumption) | exact Int.emod_nonneg _ (by decide) | exact Int.emod_lt_of_pos _ (by decide) | exact Nat.succ_lt_succ (by with_reducible assumption) | exact (Int.natCast_add _ _).trans (Int.add_comm _ _) | omega)
    have q1 : ns.getD (i + 1) 0 / 12 % 2 < 2 := by (first | exact Int.natCast_nonneg _ | exact Nat.succ_pos _ | exact Nat.lt_of_lt_of_le (by with_reducible assumption) (by decide) | exact Nat.lt_of_lt_of_eq (by with_reducible assumption) (Eq.symm (by with_reducible assumption)) | exact Int.ofNat_lt.mpr (by with_reducible assumption) | exact Int.emod_nonneg _ (by decide) | exact Int.emod_lt_of_pos _ (by decide) | exact Nat.succ_lt_succ (by with_reducible assumption) | exact (Int.natCast_add _ _).trans (Int.add_comm _ _) | omega)
    have q2 : 0 ≤ ns.getD (i + 1) 0 / 24 % 3 := by (first | exact Int.natCast_nonneg _ | exact Nat.succ_pos _ | exact Nat.lt_of_lt_of_le (by with_reducible assumption) (by decide) | exact Nat.lt_of_lt_of_eq (by with_reducible assumption) (Eq.symm (by with_reducible assumption)) | exact Int.ofNat_lt.mpr (by with_reducible assumption) | exact Int.emod_nonneg _ (by decide) | exact Int.emod_lt_of_pos _ (by decide) | exact Nat.succ_lt_succ (by with_reducible assumption) | exact (Int.natCast_add _ _).trans (Int.add_comm _ _) | omega)
    have q3 : ns.getD (i + 1) 0 / 24 % 3 < 3 := by (first | exact Int.natCast_nonneg _ | exact Nat.succ_pos _ | exact Nat.lt_of_lt_of_le (by with_reducible assumption) (by decide) | exact Nat.lt_of_lt_of_eq (by with_reducible assumption) (Eq.symm (by with_reducible assumption)) | exact Int.ofNat_lt.mpr (by with_reducible assumption) | exact Int.emod_nonneg _ (by decide) | exact Int.emod_lt_of_pos _ (by decide) | exact Nat.succ_lt_succ (by with_reducible assumption) | exact (Int.natCast_add _ _).trans (Int.add_comm _ _) | omega)
    have hsgl : (signsF ns).length = 5 := by unfold signsF; rw [List.length_map, List.length_range]
    have hsge : signOf (signsF ns) ((i + 1 : Nat) : Int) = sgnOf ns (i + 1) := by
      unfold signOf signsF
      rw [List.getD_eq_getElem?_getD, List.getElem?_map, show (((i + 1 : Nat) : Int)).toNat = i + 1 by (first | exact Int.natCast_nonneg _ | exact Nat.succ_pos _ | exact Nat.lt_of_lt_of_le (by with_reducible assumption) (by decide) | exact Nat.lt_of_lt_of_eq (by with_reducible assumption) (Eq.symm (by with_reducible assumption)) | exact Int.ofNat_lt.mpr (by with_reducible assumption) | exact Int.emod_nonneg _ (by decide) | exact Int.emod_lt_of_pos _ (by decide) | exact Nat.succ_lt_succ (by with_reducible assumption) | exact (Int.natCast_add _ _).trans (Int.add_comm _ _) | omega), List.getElem?_range (by (first | exact Int.natCast_nonneg _ | exact Nat.succ_pos _ | exact Nat.lt_of_lt_of_le (by with_reducible assumption) (by decide) | exact Nat.lt_of_lt_of_eq (by with_reducible assumption) (Eq.symm (by with_reducible assumption)) | exact Int.ofNat_lt.mpr (by with_reducible assumption) | exact Int.emod_nonneg _ (by decide) | exact Int.emod_lt_of_pos _ (by decide) | exact Nat.succ_lt_succ (by with_reducible assumption) | exact (Int.natCast_add _ _).trans (Int.add_comm _ _) | omega))]; rfl
    have hml := mul_len (x := letter ns (i + 1)) (n := 1 + ns.getD (i + 1) 0 / 24 % 3) rfl (by (first | exact Int.natCast_nonneg _ | exact Nat.succ_pos _ | exact Nat.lt_of_lt_of_le (by with_reducible assumption) (by decide) | exact Nat.lt_of_lt_of_eq (by with_reducible assumption) (Eq.symm (by with_reducible assumption)) | exact Int.ofNat_lt.mpr (by with_reducible assumption) | exact Int.emod_nonneg _ (by decide) | exact Int.emod_lt_of_pos _ (by decide) | exact Nat.succ_lt_succ (by with_reducible assumption) | exact (Int.natCast_add _ _).trans (Int.add_comm _ _) | omega))
    -- names.append(...)
    refine wp_append F9 (nmC (p := fun u => u = .ref lw) F9 n1 rfl) hw9 (ha5 _ (.head _)) hwf (pv_add_str (a := Txt.mul (letter ns (i + 1)) (1 + ns.getD (i + 1) 0 / 24 % 3)) (b := sgnOf ns (i + 1))
      (pv_binop (pt_itemT (x := "pq") (i := ns.getD (i + 1) 0 / 12 % 2) (pt_str _ _ _) (pv_binop (pv_binop (pt_num (x := ((i + 1 : Nat) : Int)) (hna.keeps l9.keep) (nmC (p := fun u => u = .ref ln) F9 n5 rfl) (nmC F9 lookup_cons_eq hvk') (by (first | exact Int.natCast_nonneg _ | exact Nat.succ_pos _ | exact Nat.lt_of_lt_of_le (by with_reducible assumption) (by decide) | exact Nat.lt_of_lt_of_eq (by with_reducible assumption) (Eq.symm (by with_reducible assumption)) | exact Int.ofNat_lt.mpr (by with_reducible assumption) | exact Int.emod_nonneg _ (by decide) | exact Int.emod_lt_of_pos _ (by decide) | exact Nat.succ_lt_succ (by with_reducible assumption) | exact (Int.natCast_add _ _).trans (Int.add_comm _ _) | omega)) (by rw [hns.len]; (first | exact Int.natCast_nonneg _ | exact Nat.succ_pos _ | exact Nat.lt_of_lt_of_le (by with_reducible assumption) (by decide) | exact Nat.lt_of_lt_of_eq (by with_reducible assumption) (Eq.symm (by with_reducible assumption)) | exact Int.ofNat_lt.mpr (by with_reducible assumption) | exact Int.emod_nonneg _ (by decide) | exact Int.emod_lt_of_pos _ (by decide) | exact Nat.succ_lt_succ (by with_reducible assumption) | exact (Int.natCast_add _ _).trans (Int.add_comm _ _) | omega)) (by rw [hns.len]; decide)) (pt_int 12 _ _) fun _ _ _ _ h1 h2 => o_fdiv h1 h2 (by decide) (noPylong (by decide))) (pt_int 2 _ _) fun _ _ _ _ h1 h2 => o_mod h1 h2 (by decide)) q0 q1 (by decide))
        (pv_add_int (pt_int 1 _ _) (pv_binop (pv_binop (pt_num (x := ((i + 1 : Nat) : Int)) (hna.keeps l9.keep) (nmC (p := fun u => u = .ref ln) F9 n5 rfl) (nmC F9 lookup_cons_eq hvk') (by (first | exact Int.natCast_nonneg _ | exact Nat.succ_pos _ | exact Nat.lt_of_lt_of_le (by with_reducible assumption) (by decide) | exact Nat.lt_of_lt_of_eq (by with_reducible assumption) (Eq.symm (by with_reducible assumption)) | exact Int.ofNat_lt.mpr (by with_reducible assumption) | exact Int.emod_nonneg _ (by decide) | exact Int.emod_lt_of_pos _ (by decide) | exact Nat.succ_lt_succ (by with_reducible assumption) | exact (Int.natCast_add _ _).trans (Int.add_comm _ _) | omega)) (by rw [hns.len]; (first | exact Int.natCast_nonneg _ | exact Nat.succ_pos _ | exact Nat.lt_of_lt_of_le (by with_reducible assumption) (by decide) | exact Nat.lt_of_lt_of_eq (by with_reducible assumption) (Eq.symm (by with_reducible assumption)) | exact Int.ofNat_lt.mpr (by with_reducible assumption) | exact Int.emod_nonneg _ (by decide) | exact Int.emod_lt_of_pos _ (by decide) | exact Nat.succ_lt_succ (by with_reducible assumption) | exact (Int.natCast_add _ _).trans (Int.add_comm _ _) | omega)) (by rw [hns.len]; decide)) (pt_int 24 _ _) fun _ _ _ _ h1 h2 => o_fdiv h1 h2 (by decide) (noPylong (by decide))) (pt_int 3 _ _) fun _ _ _ _ h1 h2 => o_mod h1 h2 (by decide))) fun _ _ _ _ h1 h2 => o_mulS h1 h2 (mulOk_one rfl (by (first | exact Int.natCast_nonneg _ | exact Nat.succ_pos _ | exact Nat.lt_of_lt_of_le (by with_reducible assumption) (by decide) | exact Nat.lt_of_lt_of_eq (by with_reducible assumption) (Eq.symm (by with_reducible assumption)) | exact Int.ofNat_lt.mpr (by with_reducible assumption) | exact Int.emod_nonneg _ (by decide) | exact Int.emod_lt_of_pos _ (by decide) | exact Nat.succ_lt_succ (by with_reducible assumption) | exact (Int.natCast_add _ _).trans (Int.add_comm _ _) | omega)) (by (first | exact Int.natCast_nonneg _ | exact Nat.succ_pos _ | exact Nat.lt_of_lt_of_le (by with_reducible assumption) (by decide) | exact Nat.lt_of_lt_of_eq (by with_reducible assumption) (Eq.symm (by with_reducible assumption)) | exact Int.ofNat_lt.mpr (by with_reducible assumption) | exact Int.emod_nonneg _ (by decide) | exact Int.emod_lt_of_pos _ (by decide) | exact Nat.succ_lt_succ (by with_reducible assumption) | exact (Int.natCast_add _ _).trans (Int.add_comm _ _) | omega))))
      ((pt_sgn (x := ((i + 1 : Nat) : Int)) (hSa.keeps l9.keep) (nmC (p := fun u => u = .ref ls) F9 n4 rfl) (nmC F9 lookup_cons_eq hvk') (by (first | exact Int.natCast_nonneg _ | exact Nat.succ_pos _ | exact Nat.lt_of_lt_of_le (by with_reducible assumption) (by decide) | exact Nat.lt_of_lt_of_eq (by with_reducible assumption) (Eq.symm (by with_reducible assumption)) | exact Int.ofNat_lt.mpr (by with_reducible assumption) | exact Int.emod_nonneg _ (by decide) | exact Int.emod_lt_of_pos _ (by decide) | exact Nat.succ_lt_succ (by with_reducible assumption) | exact (Int.natCast_add _ _).trans (Int.add_comm _ _) | omega)) (by rw [hsgl]; (first | exact Int.natCast_nonneg _ | exact Nat.succ_pos _ | exact Nat.lt_of_lt_of_le (by with_reducible assumption) (by decide) | exact Nat.lt_of_lt_of_eq (by with_reducible assumption) (Eq.symm (by with_reducible assumption)) | exact Int.ofNat_lt.mpr (by with_reducible assumption) | exact Int.emod_nonneg _ (by decide) | exact Int.emod_lt_of_pos _ (by decide) | exact Nat.succ_lt_succ (by with_reducible assumption) | exact (Int.natCast_add _ _).trans (Int.add_comm _ _) | omega)) (by rw [hsgl]; decide)).mono fun _ _ _ e => hsge ▸ e) (by rw [hzl]; have : (sgnOf ns (i + 1)).length = 1 := rfl; (first | exact Int.natCast_nonneg _ | exact Nat.succ_pos _ | exact Nat.lt_of_lt_of_le (by with_reducible assumption) (by decide) | exact Nat.lt_of_lt_of_eq (by with_reducible assumption) (Eq.symm (by with_reducible assumption)) | exact Int.ofNat_lt.mpr (by with_reducible assumption) | exact Int.emod_nonneg _ (by decide) | exact Int.emod_lt_of_pos _ (by decide) | exact Nat.succ_lt_succ (by with_reducible assumption) | exact (Int.natCast_add _ _).trans (Int.add_comm _ _) | omega))) (by rw [h2.len, namesAt_len, hzl]; (first | exact Int.natCast_nonneg _ | exact Nat.succ_pos _ | exact Nat.lt_of_lt_of_le (by with_reducible assumption) (by decide) | exact Nat.lt_of_lt_of_eq (by with_reducible assumption) (Eq.symm (by with_reducible assumption)) | exact Int.ofNat_lt.mpr (by with_reducible assumption) | exact Int.emod_nonneg _ (by decide) | exact Int.emod_lt_of_pos _ (by decide) | exact Nat.succ_lt_succ (by with_reducible assumption) | exact (Int.natCast_add _ _).trans (Int.add_comm _ _) | omega)) ?_
    intro v10 s10' s10 s11 l10 h10 l10' F11 hP11 hk11 g11
    refine wp_end ⟨_, F11, (hJJ _ _ _).mpr ⟨n1, n2, n3, n4, n5, R9.keep hrl fun b o hb e => hk11 b o (fun q => hwr (q ▸ hb)) (l10.keep b o e), _, hP11, h2.snoc h10⟩⟩
  · intro m s5 F5 hj
    obtain ⟨a1, a2, a3, a4, a5, R, vw, h1, h2⟩ := (hJJ _ _ _).mp hj
    obtain ⟨b, lb, Fb, kb⟩ := F5.rebase []
    exact k b s5 lm rs lw vw (la.trans lb) (hma.at fun o e => lb.keep _ o e) hrl (R.keep hrl fun c o hc e => kb c o (hrf c hc).1 (by simp) e) (h1.at fun o e => kb lw o hwf (by simp) e) h2 (Fb.pick _ ⟨a1, a2, a3, a4, a5, trivial⟩)
end
end Mine
end

section
open PySem PySem.W PyProof.Rows PySem.Calls
namespace Mine
section
variable {prog : Program} {w : World} {A : Around} {s₀ s s' : Shared} {m : Mp} {env : Env} {pos : Pos} {Q : Flow → Shared → Prop} {Q' : Value → Shared → Prop} {E : Value → Shared → Prop} {L fa : Addr} {d : Nat}
theorem codeRec_keeps {h h' : Heap} {c : Value} {q : Str} (x : h.CodeRec c q) (k : ∀ b o, h.get? b = some o → h'.get? b = some o) : h'.CodeRec c q := by
  obtain ⟨c, oc, vs, tq, hc, hoc, hdc, hq⟩ := x
  exact ⟨c, oc, vs, tq, hc, k _ _ hoc, hdc, hq⟩
/-- a lambda's call -/
theorem pt_lam {name qual : Str} {params : Arguments} {body : Expr} {scope : Scope} {cl : List (Str × Addr)} {pm ctv : Value} {c' f : Addr} {vs : List Value} {binds : Mp} {P : Value → Shared → Prop}
    (hroom : A.depth < recursionLimit) (ho : s₀.heap.get? f = some (kla_obj name qual params body scope cl pm c' ctv)) (hcd : s₀.heap.CodeRec (.ref c') qual) (hlim : s₀.heap.NoLimit)
    (hbind : bindArgs (kla_fn name qual params body scope cl pm (.ref c') ctv) ⟨vs, []⟩ = pure binds) (hloc : ∀ y ∈ binds, scope.names.lookup y.1 = some .local)
    (hco : scope.isCoroutine = false) (hgen : scope.isGenerator = false) (hk : scope.kind = .function) (hcell : ∀ x ∈ scope.names, x.2 ≠ .cell)
    (h : ∀ s L s₁, Le s₀ s → Le s s₁ → Nm (envX qual scope L f (.ref c') cl) binds.reverse s₁ →
      wpAny (model prog w) (A.deeper (envX qual scope L f (.ref c') cl)) (eval body (envX qual scope L f (.ref c') cl)) (fun v s' => Le s s' ∧ P v s') (fun _ _ => False) s₁) :
    PT prog w A s₀ (call (.ref f) vs) P := by
  intro s Q E l q
  refine wpAny_call (kla_callFunE hroom (l.keep _ _ ho) rfl hco hgen rfl (codeRec_keeps hcd l.keep) ?_)
  rw [hbind]
  refine wpAny_pure (wpAny_newFunctionEnv hcell hloc (fun h₁ hns hsb => ⟨(hlim.keeps l.keep).fresh _ hsb, ?_⟩) hk)
  show codeAny _ _ (.expr body (envX qual scope s.heap.objs.size f (.ref c') cl)) _ _
  have hk₁ : ∀ b o, s.heap.get? b = some o → h₁.get? b = some o := fun b o e => hsb.extBut b o (Nat.ne_of_lt (Heap.lt_size e)) (Heap.get?_push_of_some _ e)
  exact kla_codeExpr (wpAny_mono (h s s.heap.objs.size { s with heap := h₁, toks := s.toks + binds.length } l (Le.of_heap hk₁ (Nat.le_add_right _ _)) ⟨_, hns, fun x v e _ => e⟩) (fun v s' hq => q v s' hq.1 hq.2) fun _ _ x => x.elim)

/-- what the making of the lambda asks of the state at the base -/
structure Lam (w : World) (s₀ : Shared) : Prop where
  T : Tp w s₀
  b : ∃ mg, s₀.heap.Ns mainGlobals mg ∧ s₀.heap.BuiltinsAt mg 101
  c : CodeHd s₀.heap 103 101
  t : s₀.heap.get? 101 = some (tabObj #[])
theorem Lam.le (X : Lam w s₀) (l : Le s₀ s) : Lam w s where
  T := X.T.le l
  b := (by obtain ⟨mg, h, bm, o, a1, a2, a3, a4, a5, a6⟩ := X.b; exact ⟨mg, h.keeps l.keep, bm, o, a1, a2, a3, a4, l.keep _ _ a5, a6⟩)
  c := X.c.keeps l.keep
  t := l.keep _ _ X.t
theorem k101 (w : World) : (_root_.Mine.hd.heap_39 w.params).lookup 101 = none := by rfl
/-- the base without law's table of codes -/
noncomputable def noTab (s : Shared) : Shared := { s with heap := hideAll s.heap [101] }
theorem noTab_le (s : Shared) : Le (noTab s) s := .of_same (fun b o e => of_hideAll _ e) rfl rfl
theorem noTab_none (s : Shared) : (noTab s).heap.get? 101 = none := hideAll_none _ (.head _)
theorem noTab_get {s : Shared} {b : Addr} {o : Obj} (e : s.heap.get? b = some o) (h : b ≠ 101) : (noTab s).heap.get? b = some o := hideAll_get _ e fun q => h (List.mem_singleton.mp q)
theorem Lam.ne (X : Lam w s₀) {b : Addr} {o : Obj} (e : s₀.heap.get? b = some o) (hd : o.data ≠ .fields #[]) : b ≠ 101 := fun q => by rw [q, X.t] at e; cases e; exact hd rfl
theorem Lam.tp (X : Lam w s₀) : Tp w (noTab s₀) where
  k := fun a o e => noTab_get (X.T.k a o e) fun q => by rw [q, k101] at e; cases e
  g := (by obtain ⟨mg, o, es, ep, e, hd, r⟩ := X.T.g; exact ⟨mg, o, es, ep, noTab_get e (X.ne e (by rw [hd]; nofun)), hd, r⟩)
  b := (by obtain ⟨mb, ⟨o, es, ep, e, hd, r⟩, h⟩ := X.T.b; exact ⟨mb, ⟨o, es, ep, noTab_get e (X.ne e (by rw [hd]; nofun)), hd, r⟩, h⟩)
  lim := (by obtain ⟨mc, ⟨o, es, ep, e, hd, r⟩, h⟩ := X.T.lim; exact ⟨mc, ⟨o, es, ep, noTab_get e (X.ne e (by rw [hd]; nofun)), hd, r⟩, h⟩)
theorem Call_kwB {func : Expr} {args : List Expr} {kws : List Keyword} {Q : Value → Shared → Prop}
    (h : wpAny (model prog w) A (eval func env) (fun f s₁ => wpAny (model prog w) A (callWith pos f [] (backTo pos (starEach args env)) (backToKw pos (keywordEach kws env))) Q E s₁) E s)
    (he : eval (.Call func args kws pos) env = (do callWith pos (← eval func env) [] (backTo pos (starEach args env)) (backToKw pos (keywordEach kws env))) := by rfl) : wpAny (model prog w) A (eval (.Call func args kws pos) env) Q E s := by
  rw [he]; exact wpAny_bind h

noncomputable def nameAt (ns : List Int) (k : Int) : Str := (namesAt ns 4).getD k.toNat Str.empty
/-- the order of the names -/
structure Ordered (ns : List Int) (order : List Int) : Prop where
  perm : order.Perm [1, 2, 3, 4]
  sorted : order.Pairwise fun p q => ¬ (nameAt ns q).cps.toList < (nameAt ns p).cps.toList
theorem ordered_of {ns : List Int} {vs out : List Value} (hI : Ints vs [1, 2, 3, 4]) (h : SortOut ([1, 2, 3, 4].map (nameAt ns)) vs out) : ∃ order, Ints out order ∧ Ordered ns order := by
  obtain ⟨ps, hp, rfl, hs⟩ := h
  obtain ⟨v1, r1, rfl, ⟨t1, rfl⟩, h1⟩ := hI.cons_inv
  obtain ⟨v2, r2, rfl, ⟨t2, rfl⟩, h2⟩ := h1.cons_inv
  obtain ⟨v3, r3, rfl, ⟨t3, rfl⟩, h3⟩ := h2.cons_inv
  obtain ⟨v4, r4, rfl, ⟨t4, rfl⟩, h4⟩ := h3.cons_inv
  cases h4
  have key : ∀ p ∈ ps, ∃ i : Int, IsI i p.2 ∧ numOf p.2 = i ∧ p.1 = nameAt ns i := fun p hm => by
    have := hp.mem_iff.mp hm
    simp only [List.map_cons, List.map_nil, List.zip_cons_cons, List.zip_nil_right, List.mem_cons, List.not_mem_nil, or_false] at this
    rcases this with rfl | rfl | rfl | rfl
    · exact ⟨1, ⟨_, rfl⟩, rfl, rfl⟩
    · exact ⟨2, ⟨_, rfl⟩, rfl, rfl⟩
    · exact ⟨3, ⟨_, rfl⟩, rfl, rfl⟩
    · exact ⟨4, ⟨_, rfl⟩, rfl, rfl⟩
  refine ⟨ps.map fun p => numOf p.2, ?_, ?_, ?_⟩
  · clear hp hs
    induction ps with
    | nil => exact .nil
    | cons p r ih =>
      obtain ⟨i, h1, h2, _⟩ := key p (.head _)
      exact .cons (by show IsI (numOf p.2) p.2; rw [h2]; exact h1) (ih fun q hq => key q (List.mem_cons_of_mem _ hq))
  · have := hp.map (fun p : Str × Value => numOf p.2)
    exact this
  · rw [List.pairwise_map]
    refine hs.imp_of_mem fun {p q} hm1 hm2 hr => ?_
    obtain ⟨i, _, e1, e2⟩ := key p hm1
    obtain ⟨j, _, e3, e4⟩ := key q hm2
    rw [e1, e3, ← e2, ← e4]; exact hr

theorem noTab_fm {env : Env} (F : Fm s₀ env m s) : Fm (noTab s₀) env m s :=
  F.weak (noTab_le s₀) (none_le (noTab_le s₀) F.newL) fun x hx => none_le (noTab_le s₀) (F.newC x hx)
theorem zz_k {ns : List Int} {va : List Value} {i : Nat} {v : Value} {k : Str} (hI : Ints va [1, 2, 3, 4]) (h1 : va[i]? = some v) (h2 : ([1, 2, 3, 4].map (nameAt ns))[i]? = some k) : ∃ x : Int, IsI x v ∧ 0 ≤ x ∧ x < 5 ∧ k = nameAt ns x := by
  obtain ⟨v1, r1, rfl, g1, hI⟩ := hI.cons_inv
  obtain ⟨v2, r2, rfl, g2, hI⟩ := hI.cons_inv
  obtain ⟨v3, r3, rfl, g3, hI⟩ := hI.cons_inv
  obtain ⟨v4, r4, rfl, g4, hI⟩ := hI.cons_inv
  cases hI
  match i, h1, h2 with
  | 0, h1, h2 => cases h1; cases h2; exact ⟨1, g1, by decide, by decide, rfl⟩
  | 1, h1, h2 => cases h1; cases h2; exact ⟨2, g2, by decide, by decide, rfl⟩
  | 2, h1, h2 => cases h1; cases h2; exact ⟨3, g3, by decide, by decide, rfl⟩
  | 3, h1, h2 => cases h1; cases h2; exact ⟨4, g4, by decide, by decide, rfl⟩
/-- sorting by the names, with the lambda just made -/
theorem lamS {env : Env} {name qual x y : Str} {params : Arguments} {body : Expr} {scope : Scope} {cl : List (Str × Addr)} {pm ctv : Value} {ob : Obj} {c' la lw cn : Addr} {h' : Heap} {tk : Tok} {va vw : List Value} {ns : List Int} {ps : Array Value} {p1 p2 p3 : Pos}
    (C : Cx A (d + 3)) (X : Lam w s₀) (h101 : 101 ∉ fAd env) (F : Fm s₀ env m s) (hob : ob = kla_obj name qual params body scope cl pm c' ctv)
    (hx : ∀ b o, b ≠ 101 → s.heap.get? b = some o → h'.get? b = some o) (hrec : h'.CodeRec (.ref c') qual) (htb : h'.get? 101 = some (tabObj ps)) (htk : s.toks ≤ tk)
    (hla : la ≠ 101) (ha : s.heap.PlainList la va.toArray) (hI : Ints va [1, 2, 3, 4]) (hlen : va.length = 4) (hw : s₀.heap.PlainList lw vw.toArray) (hW : Strs vw (namesAt ns 4))
    (mw : m.lookup x = some (.ref lw)) (kw : env.kindOf x = some .cell) (cw : env.cells.lookup x = some cn) (cl' : cl.lookup x = some cn)
    (hbody : body = .Subscript (.Name x p1) (.Name y p2) p3)
    (hbind : ∀ v, bindArgs (kla_fn name qual params body scope cl pm (.ref c') ctv) ⟨[v], []⟩ = pure [(y, v)])
    (hy : scope.names.lookup y = some .local) (hxf : scope.names.lookup x = some .free) (hkx : ∀ L f, (envX qual scope L f (.ref c') cl).kindOf x = some .free) (hky : ∀ L f, (envX qual scope L f (.ref c') cl).kindOf y = some .local)
    (hco : scope.isCoroutine = false) (hgen : scope.isGenerator = false) (hk : scope.kind = .function) (hcell : ∀ z ∈ scope.names, z.2 ≠ .cell)
    (hdx : (x == ("__debug__" : Str)) = false) (hdy : (y == ("__debug__" : Str)) = false) (hdc : (x == ("__classdict__" : Str)) = false) (hxy : y ≠ x)
    (hs' : ∀ l (i : Int) t, subscripted (.Name y p2) false (.ref l) (.int i t) = operate [.ref l, .int i t] (getItem (.ref l) (.int i t)))
    (k : ∀ D vo order s', Fm (noTab s₀) env m s' → s'.heap.get? 101 = some (tabObj ps) → s'.heap.PlainList D (vo : List Value).toArray → Ints vo order → Ordered ns order → D ∉ fAd env → Q' (.ref D) s') :
    wpAny (model prog w) A (call (.builtin "sorted") [.ref la] [(Str.ofString "key", .ref h'.objs.size)]) Q' E { s with heap := h'.push ob, toks := tk } := by
  have hk3 : ∀ b o, b ∉ [101] → s.heap.get? b = some o → (h'.push ob).get? b = some o := fun b o hb e => Heap.get?_push_of_some _ (hx b o (fun q => hb (by rw [q]; exact .head _)) e)
  have F3 := (noTab_fm F).mut (tk := tk) (ch := [101]) hk3 (fun b hb => by rw [List.mem_singleton.mp hb]; exact noTab_none s₀) (fun b hb => by rw [List.mem_singleton.mp hb]; exact h101) htk
  have ho3 : (h'.push ob).get? h'.objs.size = some ob := Heap.get?_push_size h' (by subst hob; rfl)
  have hcd3 : (h'.push ob).CodeRec (.ref c') qual := codeRec_keeps hrec fun b o e => Heap.get?_push_of_some _ e
  have ht3 : (h'.push ob).get? 101 = some (tabObj ps) := Heap.get?_push_of_some _ htb
  have hw3 : (noTab s₀).heap.PlainList lw vw.toArray := by
    obtain ⟨n, e⟩ := hw
    exact ⟨n, noTab_get e (X.ne e (by nofun))⟩
  have ha3 : (h'.push ob).PlainList la va.toArray := by
    obtain ⟨n, e⟩ := ha
    exact ⟨n, hk3 _ _ (fun q => hla (List.mem_singleton.mp q)) e⟩
  generalize hs3 : ({ s with heap := h'.push ob, toks := tk } : Shared) = s₃ at F3 ⊢
  have eh : s₃.heap = h'.push ob := by rw [← hs3]
  rw [← eh] at ho3 hcd3 ht3 ha3
  have T3 : Tp w s₃ := X.tp.le F3.le
  obtain ⟨ov, hcl, eov⟩ := F3.cell x cn cw
  rw [eov _ mw kw] at hcl
  refine (o_sortedKey (kz := [1, 2, 3, 4].map (nameAt ns)) (vs := va) ha3.isList (by rw [hlen]; rfl) (by omega) (by omega) fun i v kk hv hkk s' l' => ?_).use fun v s₄ l4 hv => ?_
  · obtain ⟨n, ⟨t, rfl⟩, h0, h5, rfl⟩ := zz_k hI hv hkk
    subst hbody hob
    refine pt_lam (name := name) (params := params) (body := .Subscript (.Name x p1) (.Name y p2) p3) (scope := scope) (cl := cl) (pm := pm) (ctv := ctv) C.in1.in1.room (l'.keep _ _ ho3) (codeRec_keeps hcd3 l'.keep) (T3.le l').lim (hbind _) ?_ hco hgen hk hcell fun s L s₁ la' lb' hN => ?_
    · intro z hz
      rw [List.mem_singleton.mp hz]; exact hy
    · have l1 := l'.trans (la'.trans lb')
      refine (pt_itemS (xs := namesAt ns 4) (PT.mono (pt_free (v := .ref lw) hk ?_ (.inl (hkx _ _)) cl' hdx hdc) fun u s5 l5 e => ?_) ?_ h0 (by rw [namesAt_len]; omega) (by rw [namesAt_len]; decide) (hs' · n)).use fun v s2 l2 hv => ⟨lb'.trans l2, hv⟩
      · obtain ⟨o, ho, hd'⟩ := hcl
        exact ⟨o, l1.keep _ _ ho, hd'⟩
      · exact ⟨lw, e, vw, (hw3.at fun o e => ((F3.le.trans l1).trans l5).keep _ o e).isList, hW⟩
      · intro s6 Q6 E6 l6 q6
        obtain ⟨ml, hn, em⟩ := hN
        exact wpAny_Name (wpAny_loadName_local hk (hky _ _) (hn.at' fun o e => l6.keep _ o e) (em y _ lookup_cons_eq (hky _ _)) (q6 _ _ (Le.refl _) ⟨_, rfl⟩)) hdy
  · obtain ⟨D, out, rfl, hD0, hDP, hS⟩ := hv
    obtain ⟨order, hO, hOr⟩ := ordered_of hI hS
    exact k D out order s₄ (F3.grow l4) (l4.keep _ _ ht3) hDP hO hOr fun hm => by obtain ⟨o, e⟩ := F3.there _ hm; rw [hD0] at e; cases e

set_option maxHeartbeats 8000000 in
theorem phD {ns : List Int} {lw : Addr} {vw : List Value} (C : Cx A (d + 3)) (X : Lam w s₀) (h101 : 101 ∉ fAd (lawEnv L fa)) (F : Fm s₀ (lawEnv L fa) m s) (mw : m.lookup (Str.ofString "names") = some (.ref lw)) (hw : s₀.heap.PlainList lw vw.toArray) (hW : Strs vw (namesAt ns 4))
    (k : ∀ a s' lo vo order ps, Le (noTab s₀) a → a.heap.get? 101 = some (tabObj ps) → Tp w a → a.heap.PlainList lo (vo : List Value).toArray → Ints vo order → Ordered ns order → Fm a (lawEnv L fa) ((Str.ofString "order", .ref lo) :: m) s' → wpAny (model prog w) A (execs (lawFrom 9) (lawEnv L fa)) Q E s') :
    wpAny (model prog w) A (execs (lawFrom 8) (lawEnv L fa)) Q E s := by
  have hzl : sizeLine = 16777216 := sizeLine_eq
  have Ts : Tp w s := X.T.le F.le
  rw [lawStep 8 (by decide)]
  refine wpAny_execs_cons (wpAny_Assign_Name ?_ rfl)
  refine Call_kwB ((pt_builtin Ts rfl (by k_is) rfl).use fun f s₁ l1 ef => ?_)
  subst ef
  refine callWith_kw ((args1 ((pt_display (ps := [1, 2, 3, 4].map fun i => IsI i) (.cons (pt_int _ _ _) rfl (.cons (pt_int _ _ _) rfl (.cons (pt_int _ _ _) rfl (.cons (pt_int _ _ _) rfl .nil)))) (by rw [hzl]; decide)).le l1)).use fun vs s₂ l2 hv => ?_)
  obtain ⟨v, rfl, s2', l2', la, va, rfl, ha0, haP, haA⟩ := hv
  have haI := args_ints haA
  have haP2 : s₂.heap.PlainList la va.toArray := haP.at fun o e => l2'.keep _ o e
  have F2 := (F.grow l1).grow l2
  have X2 := X.le F2.le
  obtain ⟨mg, hmg, hbm⟩ := X2.b
  have hgP : mainGlobals ≠ 101 := fun q => by
    obtain ⟨o, es, ep, e, hd, _⟩ := hmg
    rw [q, X2.t] at e; cases e; cases hd
  refine kws_cons (wp_tk (kla_eval rfl (kla_makeFunction (mg := mg) (c := 103) (P := 101) (ps := #[]) rfl rfl hmg rfl X2.c X2.t trivial rfl hgP hbm fun c' ctv h' tk hx hge hlt hrec htb htk => kws_nil ?_)))
  show wpAny (model prog w) A (call (.builtin "sorted") [.ref la] [(Str.ofString "key", .ref h'.objs.size)]) _ _ _
  refine lamS (ns := ns) C X h101 F2 rfl (fun b o q e => hx b o q e) hrec htb htk ?_ haP2 haI ?_ hw hW mw rfl rfl rfl rfl ?_ rfl rfl ?_ ?_ rfl rfl rfl ?_ ?_ ?_ ?_ ?_ ?_ ?_
  · obtain ⟨n, e⟩ := haP2
    exact X2.ne e (by nofun)
  · exact haI.len
  · intro v; rfl
  · intro L f; rfl
  · intro L f; rfl
  · decide
  · decide
  · decide
  · decide
  · decide
  · intro l i t; with_unfolding_all rfl
  · intro D vo order s' F3 ht hD hO hOr hDf
    refine wp_store F3 (.inl rfl) fun s4 F4 hbs _ => ?_
    obtain ⟨a, la, Fa, ga⟩ := F4.rebase []
    exact k a s4 D vo order _ la (ga _ _ h101 (by nofun) (hbs _ _ h101 ht)) (X.tp.le la) (hD.at fun o e => ga _ _ hDf (by nofun) (hbs _ _ hDf e)) hO hOr Fa
end
end Mine
end

section
open PySem PySem.W PyProof.Rows PySem.Calls
namespace Mine
/-- names that a table holds -/
noncomputable def Has (ps m : Mp) : Prop := ∀ x v, ps.lookup x = some v → m.lookup x = some v
theorem Has.rfl {m : Mp} : Has m m := fun _ _ e => e
theorem lookup_all {ps : Mp} {x y : Str} {v : Value} (h : ps.all (fun p => p.1 != x) = true) (e : ps.lookup y = some v) : y ≠ x := fun q => by
  subst q
  have := List.all_eq_true.mp h _ (lookup_mem e)
  simp at this
theorem Has.cons {ps m : Mp} {x : Str} {v : Value} (H : Has ps m) (h : ps.all (fun p => p.1 != x) = true) : Has ps ((x, v) :: m) := fun y u e =>
  (lookup_cons_ne (lookup_all h e)).trans (H y u e)
theorem Has.get {ps m : Mp} {x : Str} {v : Value} (H : Has ps m) (e : ps.lookup x = some v) : m.lookup x = some v := H _ _ e
theorem Has.trans {ps qs m : Mp} (H : Has ps qs) (K : Has qs m) : Has ps m := fun x v e => K _ _ (H _ _ e)
section
variable {prog : Program} {w : World} {A : Around} {s₀ s s' : Shared} {m : Mp} {env : Env} {pos : Pos} {Q : Flow → Shared → Prop} {E : Value → Shared → Prop} {L fa : Addr} {d : Nat}
theorem Fm.has {ps : Mp} (F : Fm s₀ env m s) (H : Has ps m) : Fm s₀ env ps s := F.sub fun x v e => H x v e
/-- a loop that changes no object -/
theorem wp_forH {x : Str} {px pos : Pos} {iter : Expr} {body rest : List Stmt} {PI : Value → Shared → Prop} {n : Nat} {P : Nat → Value → Prop} {ps : Mp}
    (F : Fm s₀ env ps s) (hi : PT prog w A s (eval iter env) PI) (hsrc : ∀ v s₁, Le s s₁ → PI v s₁ → Src prog w A s₁ v [] n P)
    (turn : ∀ i v a s, i < n → P i v → Le s₀ a → Fm a env ((x, v) :: ps) s →
      wpAny (model prog w) A (execs body env) (LQ prog w A a env (fun m' _ => Has ps m') rest Q E) (fun _ _ => False) s)
    (done : ∀ s, Fm s₀ env ps s → wpAny (model prog w) A (execs rest env) Q E s)
    (hx : env.kindOf x = some .local ∨ (env.kindOf x = some .cell ∧ (env.cells.lookup x).isSome = true) := by first | exact Or.inl rfl | exact Or.inr ⟨rfl, rfl⟩)
    (hs : ∀ v, foldedSetIterable iter env v = pure v := by intro _; rfl) :
    wpAny (model prog w) A (execs (.For (.Name x px) iter body [] pos :: rest) env) Q E s := by
  refine wp_for (D := []) (fun _ m _ => Has ps m) F hi hsrc (fun b hb => nomatch hb) (fun b hb => nomatch hb) (fun _ _ _ _ h _ => h) Has.rfl ?_ (fun m s F H => done s (F.has H)) hx hs
  intro i v a m s hin hv la _ F5 H
  have F6 : Fm a env ((x, v) :: ps) s := F5.sub fun y u e => by
    by_cases q : y = x
    · subst q; rw [lookup_cons_eq] at e ⊢; exact e
    · rw [lookup_cons_ne q] at e ⊢; exact H _ _ e
  exact turn i v a s hin hv la F6

theorem isTrue_isinst {nx nb : Str} {np p1 p2 : Pos} {e : Expr} {i : Int} (hf : PV prog w A s₀ (eval (.Name nx np) env) (fun u => u = .builtin "isinstance")) (h : PV prog w A s₀ (eval e env) (IsI i)) (hb : PV prog w A s₀ (eval (.Name nb p1) env) (fun u => u = .type "bool"))
    (he : starEach (e :: [.Name nb p1]) env = (false, eval e env) :: starEach [.Name nb p1] env := by rfl) :
    PT prog w A s₀ (eval (.Call (.Name nx np) [e, .Name nb p1] [] p2) env) (fun v _ => v = .bool false) := by
  refine pt_callB hf (argv2 h hb he) (fun vs s' l' hv => ?_) he rfl
  obtain ⟨v, u, rfl, ⟨t, rfl⟩, rfl⟩ := hv
  intro s Q E l q
  exact call_isinstance (isinstance_false_int (by decide) (by kernel_rfl) (by rw [isSubtype_type]; kernel_rfl)) (q _ _ Le.toks rfl)
theorem isTrue_call {f : Expr} {as : List Expr} {ks : List Keyword} {p : Pos} {b : Bool} (h : PV prog w A s₀ (eval (.Call f as ks p) env) (fun v => v = .bool b)) :
    PT prog w A s₀ (isTrue (.Call f as ks p) env (eval (.Call f as ks p) env)) (fun c _ => c = b) := by
  intro s Q E l q
  refine isTrue_plain ((h s _ E l) fun v s₁ l1 e => ?_)
  subst e
  exact wpAny_truthy_bool (q _ _ l1 rfl)
theorem isTrue_or2 {x y : Expr} {p : Pos} {b c : Bool} {whole : Sem Value} (h1 : PT prog w A s₀ (isTrue x env (eval x env)) (fun z _ => z = b)) (h2 : PT prog w A s₀ (isTrue y env (eval y env)) (fun z _ => z = c)) :
    PT prog w A s₀ (isTrue (.BoolOp .Or [x, y] p) env whole) (fun z _ => z = (b || c)) := by
  intro s Q E l k
  refine isTrue_or ((h1 s _ E l) fun z s₁ l1 e => ?_)
  subst e
  split
  · rename_i e; exact k _ s₁ l1 (by rw [e]; rfl)
  · rename_i e
    refine isTrue_or ((h2 s₁ _ E (l.trans l1)) fun z2 s₂ l2 e2 => ?_)
    subst e2
    split
    · rename_i e2; exact k _ s₂ (l1.trans l2) (by rw [e2, Bool.or_true])
    · rename_i e2; exact isTrue_or_nil (k _ s₂ (l1.trans l2) (by simp at e e2; rw [e, e2]; rfl))
end

/-- the plain law of the names' order -/
theorem nameAt_eq (ns : List Int) : ∀ {p : Int}, p ∈ ([1, 2, 3, 4] : List Int) → ∃ l, (nameAt ns p).cps.toList = l ++ [(20000 + 3000 * p + ns.getD p.toNat 0 / 360).toNat] ∧ p.toNat < 5 ∧ 0 ≤ p := by
  intro p hp
  have e : ∀ k : Nat, (nameOf ns k).cps.toList = (Txt.mul (letter ns k) (1 + ns.getD k 0 / 24 % 3)).cps.toList ++ [(20000 + 3000 * (k : Int) + ns.getD k 0 / 360).toNat] := fun k => by
    show (_ ++ _ : Array Nat).toList = _
    rw [Array.toList_append]; rfl
  simp only [List.mem_cons, List.not_mem_nil, or_false] at hp
  rcases hp with rfl | rfl | rfl | rfl
  · exact ⟨_, e 1, by decide, by decide⟩
  · exact ⟨_, e 2, by decide, by decide⟩
  · exact ⟨_, e 3, by decide, by decide⟩
  · exact ⟨_, e 4, by decide, by decide⟩
theorem code_eq {p q n k : Int} (p0 : 0 ≤ p) (q0 : 0 ≤ q) (n0 : 0 ≤ n ∧ n < 1000000) (k0 : 0 ≤ k ∧ k < 1000000) (h : (20000 + 3000 * p + n / 360).toNat = (20000 + 3000 * q + k / 360).toNat) : p = q := by (first | exact Int.natCast_nonneg _ | exact Nat.lt_of_lt_of_eq (by with_reducible assumption) (Eq.symm (by with_reducible assumption)) | exact Int.ofNat_lt.mpr (by with_reducible assumption) | omega)
theorem nameAt_ne {ns : List Int} (h : Nums ns) {p q : Int} (hp : p ∈ ([1, 2, 3, 4] : List Int)) (hq : q ∈ ([1, 2, 3, 4] : List Int)) (hpq : p ≠ q) : (nameAt ns p).cps.toList ≠ (nameAt ns q).cps.toList := by
  intro e
  obtain ⟨l1, e1, b1, c1⟩ := nameAt_eq ns hp
  obtain ⟨l2, e2, b2, c2⟩ := nameAt_eq ns hq
  rw [e1, e2] at e
  have := (List.append_inj' e rfl).2
  simp only [List.cons.injEq, and_true] at this
  exact hpq (code_eq c1 c2 (nums_at h b1) (nums_at h b2) this)
theorem said_ok {ns order : List Int} (h : Nums ns) (O : Ordered ns order) {a b : Nat} (ha : a < 4) (hb : b < 4) :
    b2i (decide ((nameAt ns (order.getD b 0)).cps.toList < (nameAt ns (order.getD a 0)).cps.toList)) - b2i (decide ((nameAt ns (order.getD a 0)).cps.toList < (nameAt ns (order.getD b 0)).cps.toList)) = if (a : Int) > b then 1 else if (a : Int) < b then -1 else 0 := by
  have hl : order.length = 4 := O.perm.length_eq
  have mem : ∀ i, i < 4 → order.getD i 0 ∈ ([1, 2, 3, 4] : List Int) := fun i hi => O.perm.mem_iff.mp (getD_mem (by (first | exact Int.natCast_nonneg _ | exact Nat.lt_of_lt_of_eq (by with_reducible assumption) (Eq.symm (by with_reducible assumption)) | exact Int.ofNat_lt.mpr (by with_reducible assumption) | omega)))
  have nd : order.Nodup := O.perm.nodup_iff.mpr (by decide)
  have key : ∀ i j, i < j → j < 4 → (nameAt ns (order.getD i 0)).cps.toList < (nameAt ns (order.getD j 0)).cps.toList ∧ ¬ (nameAt ns (order.getD j 0)).cps.toList < (nameAt ns (order.getD i 0)).cps.toList := fun i j hij hj => by
    have e1 : order.getD i 0 = order[i]'(by (first | exact Int.natCast_nonneg _ | exact Nat.lt_of_lt_of_eq (by with_reducible assumption) (Eq.symm (by with_reducible assumption)) | exact Int.ofNat_lt.mpr (by with_reducible assumption) | omega)) := by rw [List.getD_eq_getElem?_getD, List.getElem?_eq_getElem (by (first | exact Int.natCast_nonneg _ | exact Nat.lt_of_lt_of_eq (by with_reducible assumption) (Eq.symm (by with_reducible assumption)) | exact Int.ofNat_lt.mpr (by with_reducible assumption) | omega))]; rfl
    have e2 : order.getD j 0 = order[j]'(by (first | exact Int.natCast_nonneg _ | exact Nat.lt_of_lt_of_eq (by with_reducible assumption) (Eq.symm (by with_reducible assumption)) | exact Int.ofNat_lt.mpr (by with_reducible assumption) | omega)) := by rw [List.getD_eq_getElem?_getD, List.getElem?_eq_getElem (by (first | exact Int.natCast_nonneg _ | exact Nat.lt_of_lt_of_eq (by with_reducible assumption) (Eq.symm (by with_reducible assumption)) | exact Int.ofNat_lt.mpr (by with_reducible assumption) | omega))]; rfl
    have hn := List.pairwise_iff_getElem.mp O.sorted i j (by (first | exact Int.natCast_nonneg _ | exact Nat.lt_of_lt_of_eq (by with_reducible assumption) (Eq.symm (by with_reducible assumption)) | exact Int.ofNat_lt.mpr (by with_reducible assumption) | omega)) (by (first | exact Int.natCast_nonneg _ | exact Nat.lt_of_lt_of_eq (by with_reducible assumption) (Eq.symm (by with_reducible assumption)) | exact Int.ofNat_lt.mpr (by with_reducible assumption) | omega)) hij
    have hd := List.pairwise_iff_getElem.mp nd i j (by (first | exact Int.natCast_nonneg _ | exact Nat.lt_of_lt_of_eq (by with_reducible assumption) (Eq.symm (by with_reducible assumption)) | exact Int.ofNat_lt.mpr (by with_reducible assumption) | omega)) (by (first | exact Int.natCast_nonneg _ | exact Nat.lt_of_lt_of_eq (by with_reducible assumption) (Eq.symm (by with_reducible assumption)) | exact Int.ofNat_lt.mpr (by with_reducible assumption) | omega)) hij
    rw [e1, e2]
    refine ⟨?_, hn⟩
    have hne := nameAt_ne h (e1 ▸ mem i (by (first | exact Int.natCast_nonneg _ | exact Nat.lt_of_lt_of_eq (by with_reducible assumption) (Eq.symm (by with_reducible assumption)) | exact Int.ofNat_lt.mpr (by with_reducible assumption) | omega))) (e2 ▸ mem j hj) hd
    refine Classical.byContradiction fun hc => hne ?_
    exact List.le_antisymm (List.not_lt.mp hn) (List.not_lt.mp hc)
  rcases Nat.lt_trichotomy a b with q | q | q
  · obtain ⟨k1, k2⟩ := key a b q hb
    rw [decide_eq_true k1, decide_eq_false k2, if_neg (by (first | exact Int.natCast_nonneg _ | exact Nat.lt_of_lt_of_eq (by with_reducible assumption) (Eq.symm (by with_reducible assumption)) | exact Int.ofNat_lt.mpr (by with_reducible assumption) | omega)), if_pos (by (first | exact Int.natCast_nonneg _ | exact Nat.lt_of_lt_of_eq (by with_reducible assumption) (Eq.symm (by with_reducible assumption)) | exact Int.ofNat_lt.mpr (by with_reducible assumption) | omega))]; rfl
  · subst q
    rw [if_neg (by (first | exact Int.natCast_nonneg _ | exact Nat.lt_of_lt_of_eq (by with_reducible assumption) (Eq.symm (by with_reducible assumption)) | exact Int.ofNat_lt.mpr (by with_reducible assumption) | omega)), if_neg (by (first | exact Int.natCast_nonneg _ | exact Nat.lt_of_lt_of_eq (by with_reducible assumption) (Eq.symm (by with_reducible assumption)) | exact Int.ofNat_lt.mpr (by with_reducible assumption) | omega))]; exact Int.sub_self _
  · obtain ⟨k1, k2⟩ := key b a q ha
    rw [decide_eq_true k1, decide_eq_false k2, if_pos (by (first | exact Int.natCast_nonneg _ | exact Nat.lt_of_lt_of_eq (by with_reducible assumption) (Eq.symm (by with_reducible assumption)) | exact Int.ofNat_lt.mpr (by with_reducible assumption) | omega))]; rfl

section
variable {prog : Program} {w : World} {A : Around} {s₀ s s' : Shared} {m : Mp} {env : Env} {pos : Pos} {Q : Flow → Shared → Prop} {E : Value → Shared → Prop} {L fa : Addr} {d : Nat}
set_option maxHeartbeats 4000000 in
theorem phE {ns order : List Int} {lo lw : Addr} {p1 p2 p3 p4 : Value} (C : Cx A (d + 1)) (T : Tp w s₀) (F : Fm s₀ (lawEnv L fa) [(Str.ofString "order", .ref lo), (Str.ofString "names", .ref lw), (Str.ofString "mates", p1), (Str.ofString "dresses", p2), (Str.ofString "signs", p3), (Str.ofString "numbers", p4)] s) (hns : Nums ns) (O : Ordered ns order)
    (hw : SLs s₀.heap lw (namesAt ns 4)) (ho : ILs s₀.heap lo order)
    (k : ∀ s', Fm s₀ (lawEnv L fa) [(Str.ofString "order", .ref lo), (Str.ofString "names", .ref lw), (Str.ofString "mates", p1), (Str.ofString "dresses", p2), (Str.ofString "signs", p3), (Str.ofString "numbers", p4)] s' → wpAny (model prog w) A (execs (lawFrom 10) (lawEnv L fa)) Q E s') :
    wpAny (model prog w) A (execs (lawFrom 9) (lawEnv L fa)) Q E s := by
  have hol : order.length = 4 := O.perm.length_eq
  have mem : ∀ i, i < 4 → order.getD i 0 ∈ ([1, 2, 3, 4] : List Int) := fun i hi => O.perm.mem_iff.mp (getD_mem (by (first | exact Int.natCast_nonneg _ | exact Nat.lt_of_lt_of_eq (by with_reducible assumption) (Eq.symm (by with_reducible assumption)) | exact Int.ofNat_lt.mpr (by with_reducible assumption) | omega)))
  have mem' : ∀ i, i < 4 → 0 ≤ order.getD i 0 ∧ order.getD i 0 < 5 := fun i hi => by
    have := mem i hi
    exact ⟨Int.le_trans (by decide) (mem4 _ this).1, (mem4 _ this).2⟩
  rw [lawStep 9 (by decide)]
  have Ts : Tp w s := T.le F.le
  refine wp_forH (n := 4) (P := fun i v => IsI (0 + i) v) F (pt_range1 (pt_builtin Ts rfl (by k_is) rfl) (pt_int 4 _ _)) (fun v s4 l4 zq0 => by obtain ⟨r, t, u, x, e, hrg⟩ := zq0; rw [e]; exact src_range C.hh hrg (by decide) (by decide)) ?_ k
  intro i va a s1 hi hva la F1
  have hva' : IsI ((i : Nat) : Int) va := by rw [Int.zero_add] at hva; exact hva
  have T1 : Tp w s1 := T.le (la.trans F1.le)
  refine wp_forH (n := 4) (P := fun i v => IsI (0 + i) v) F1 (pt_range1 (pt_builtin T1 rfl (by k_is) rfl) (pt_int 4 _ _)) (fun v s4 l4 zq1 => by obtain ⟨r, t, u, x, e, hrg⟩ := zq1; rw [e]; exact src_range C.hh hrg (by decide) (by decide)) ?_ fun s2 F2 => wp_end ⟨_, F2, Has.rfl.cons (by rfl)⟩
  intro j vb a2 s2 hj hvb la2 F2
  have hvb' : IsI ((j : Nat) : Int) vb := by rw [Int.zero_add] at hvb; exact hvb
  have l2 : Le s₀ s2 := la.trans (la2.trans F2.le)
  have T2 : Tp w s2 := T.le l2
  have hw2 := hw.keeps l2.keep
  have ho2 := ho.keeps l2.keep
  refine wp_assign F2 (pt_callF (f := 84) T2 (by k_is) (pt_global T2 rfl (by k_is)) (argv2
    (pt_itemS (xs := namesAt ns 4) (i := order.getD i 0) ((pt_cell F2 rfl).mono fun v s' l' e => ⟨lw, e, hw2.keeps l'.keep⟩) (pt_num (x := (i : Int)) ho2 (nm (p := fun u => u = .ref lo) F2 rfl rfl) (nm F2 rfl hva') (by (first | exact Int.natCast_nonneg _ | exact Nat.lt_of_lt_of_eq (by with_reducible assumption) (Eq.symm (by with_reducible assumption)) | exact Int.ofNat_lt.mpr (by with_reducible assumption) | omega)) (by (first | exact Int.natCast_nonneg _ | exact Nat.lt_of_lt_of_eq (by with_reducible assumption) (Eq.symm (by with_reducible assumption)) | exact Int.ofNat_lt.mpr (by with_reducible assumption) | omega)) (by (first | exact Int.natCast_nonneg _ | exact Nat.lt_of_lt_of_eq (by with_reducible assumption) (Eq.symm (by with_reducible assumption)) | exact Int.ofNat_lt.mpr (by with_reducible assumption) | omega))) (mem' i hi).1 (by rw [namesAt_len]; exact (mem' i hi).2) (by rw [namesAt_len]; decide))
    (pt_itemS (xs := namesAt ns 4) (i := order.getD j 0) ((pt_cell F2 rfl).mono fun v s' l' e => ⟨lw, e, hw2.keeps l'.keep⟩) (pt_num (x := (j : Int)) ho2 (nm (p := fun u => u = .ref lo) F2 rfl rfl) (nm F2 rfl hvb') (by (first | exact Int.natCast_nonneg _ | exact Nat.lt_of_lt_of_eq (by with_reducible assumption) (Eq.symm (by with_reducible assumption)) | exact Int.ofNat_lt.mpr (by with_reducible assumption) | omega)) (by (first | exact Int.natCast_nonneg _ | exact Nat.lt_of_lt_of_eq (by with_reducible assumption) (Eq.symm (by with_reducible assumption)) | exact Int.ofNat_lt.mpr (by with_reducible assumption) | omega)) (by (first | exact Int.natCast_nonneg _ | exact Nat.lt_of_lt_of_eq (by with_reducible assumption) (Eq.symm (by with_reducible assumption)) | exact Int.ofNat_lt.mpr (by with_reducible assumption) | omega))) (mem' j hj).1 (by rw [namesAt_len]; exact (mem' j hj).2) (by rw [namesAt_len]; decide)))
    fun vs s' l' hv => by
      obtain ⟨v, u, rfl, ⟨t, rfl⟩, ⟨t2, rfl⟩⟩ := hv
      exact strcoll_pt C (T2.le l')) ?_
  intro vs s3 l3 hvs s4 F4 B4 g4
  have hval : IsI (if (i : Int) > j then 1 else if (i : Int) < j then -1 else 0) vs := by
    rw [← said_ok hns O hi hj]; exact hvs
  have T4 : Tp w s4 := T.le (la.trans (la2.trans F4.le))
  refine wp_if1 (b := false || false) (isTrue_or2 (isTrue_call (isTrue_isinst (pt_builtin T4 rfl (by k_is) rfl) (nm F4 rfl hval) (pt_builtin T4 rfl (by k_is) rfl))) ?_) (fun hb => by simp at hb) fun _ s5 l5 => wp_end ⟨_, F4.grow l5, (Has.rfl.cons (by rfl)).cons (by rfl)⟩
  have hx : ∀ z : Int, (z != z) = false := fun z => by simp
  rw [← hx (if (i : Int) > j then 1 else if (i : Int) < j then -1 else 0)]
  refine isTrue_cmp (p1 := IsI (if (i : Int) > j then 1 else if (i : Int) < j then -1 else 0)) (p2 := IsI (if (i : Int) > j then 1 else if (i : Int) < j then -1 else 0)) (nm F4 rfl hval) ?_ fun _ _ _ _ h1 h2 => o_neI h1 h2
  refine pt_ifexp (b := decide ((i : Int) > j)) (isTrue_cmp (p1 := IsI i) (p2 := IsI j) (nm F4 rfl hva') (nm F4 rfl hvb') fun _ _ _ _ h1 h2 => o_gtI h1 h2) (fun hb => ?_) fun hb => ?_
  · rw [if_pos (of_decide_eq_true hb)]; exact pt_int 1 _ _
  · rw [if_neg (of_decide_eq_false hb)]
    refine pt_ifexp (b := decide ((i : Int) < j)) (isTrue_cmp (p1 := IsI i) (p2 := IsI j) (nm F4 rfl hva') (nm F4 rfl hvb') fun _ _ _ _ h1 h2 => o_ltI h1 h2) (fun hb => ?_) fun hb => ?_
    · rw [if_pos (of_decide_eq_true hb)]; exact pt_neg1 _ _
    · rw [if_neg (of_decide_eq_false hb)]; exact pt_int 0 _ _
end
end Mine
end

section
open PySem PySem.W PyProof.Rows PySem.Calls
namespace Mine
section
variable {prog : Program} {w : World} {A : Around} {s₀ s s' : Shared} {m : Mp} {env : Env} {pos : Pos} {Q : Flow → Shared → Prop} {E : Value → Shared → Prop} {L fa : Addr} {d : Nat}
theorem wp_enterV {d : Nat} {name qual : Str} {params : Arguments} {body : List Stmt} {scope : Scope} {dV kV doc pm cdv ct oc : Value} {an od : Option Addr} {osl : Array (Option Value)} {f : Addr} {vs : List Value} {binds : Mp} {Q E : Value → Shared → Prop}
    (C : Cx A (d + 1)) (T : Tp w s) (ho : (_root_.Mine.hd.heap_39 w.params).lookup f = some ⟨oc, od, .func (fnOf name qual params body scope dV kV doc pm an cdv ct), osl⟩) (hcd : codeIn (_root_.Mine.hd.heap_39 w.params) cdv qual = true)
    (hbind : ∀ s, BindsTo s (fnOf name qual params body scope dV kV doc pm an cdv ct) ⟨vs, []⟩ binds) (hloc : ∀ y ∈ binds, scope.names.lookup y.1 = some .local)
    (hco : scope.isCoroutine = false) (hgen : scope.isGenerator = false) (hk : scope.kind = .function) (hcell : ∀ x ∈ scope.names, x.2 ≠ .cell)
    (h : ∀ L s₁, Fm s (envOf qual scope L f cdv) binds.reverse s₁ → Cx (A.deeper (envOf qual scope L f cdv)) d →
      wpAny (model prog w) (A.deeper (envOf qual scope L f cdv)) (execs body (envOf qual scope L f cdv)) (fun fl s' => Q (retOf fl) s') (fun _ _ => False) s₁) :
    wpAny (model prog w) A (call (.ref f) vs) Q E s := by
  refine wpAny_call (codeAny_call_def (fd := fnOf name qual params body scope dV kV doc pm an cdv ct) C.room (T.k _ _ ho) rfl T.lim (codeRec_of T.k hcd) rfl (hbind s) hcell hloc (fun h₁ hns hk₁ => ?_) hco hgen hk)
  refine wpAny_mono (h s.heap.objs.size { s with heap := h₁, toks := s.toks + binds.length } ⟨Le.of_heap hk₁, ⟨_, hns, fun x v hx _ => hx⟩, fun x c hc => (nomatch hc), hk, List.Pairwise.nil, fun _ hx => (nomatch hx), new_none _ _ (Nat.le_refl _), fun _ hx => (nomatch hx), fun a ha => ?_⟩ (C.deeper _)) (fun fl s' hq => ?_) fun _ _ x => x.elim
  · rcases List.mem_cons.mp ha with rfl | ha
    · obtain ⟨o, _, _, e, _⟩ := hns; exact ⟨o, e⟩
    · cases ha
  · cases fl <;> exact hq
/-- the base without an object -/
noncomputable def noObj (D : Addr) (s : Shared) : Shared := { s with heap := hideAll s.heap [D] }
theorem call_setitem {d : Nat} {D : Addr} {items : List Value} {i : Int} {j : Nat} {t : Tok} {v : Value} {Q E : Value → Shared → Prop} (C : Cx A (d + 1)) (T : Tp w s) (hl : s.heap.PlainList D items.toArray)
    (hij : (0 ≤ i ∧ i.toNat = j) ∨ (i < 0 ∧ (i + items.length).toNat = j ∧ -(items.length : Int) ≤ i)) (hj : j < items.length) (hz : items.length ≤ 1000)
    (k : ∀ s', (∀ b o, b ≠ D → s.heap.get? b = some o → s'.heap.get? b = some o) → Le (noObj D s) s' → s'.heap.PlainList D (items.set j v).toArray → Q .none s') :
    wpAny (model prog w) A (call (.ref 49) [.ref D, .int i t, v]) Q E s := by
  have X := T.k
  refine' wp_enterV (binds := [(Str.ofString "a", .ref D), (Str.ofString "b", .int i t), (Str.ofString "c", v)]) ?C ?T ?ho ?hcd ?hb ?hl ?c ?g ?k ?cl ?_
  ((case C => assumption); (case T => assumption); (case ho => k_is); (case hcd => k_is); (case hb => exact fun s => BindsTo.of_eq rfl); (case hl => exact locs rfl); (case c => rfl); (case g => rfl); (case k => rfl); (case cl => decide))
  intro L s₁ F C'
  have ls : Le (noObj D s) s := .of_same (fun b o e => of_hideAll _ e) rfl rfl
  have F' := F.weak ls (none_le ls F.newL) fun x hx => none_le ls (F.newC x hx)
  obtain ⟨n, hn⟩ := id hl
  have hDF : D ∉ fAd (envOf _ _ L 49 _) := fun hm => by
    rcases List.mem_cons.mp hm with e | hm
    · have := F.newL
      rw [← e, hn] at this; cases this
    · cases hm
  refine wp_setitem (D := D) (i := i) (j := j) (q := fun u => u = v) F' (nm (p := fun u => u = .ref D) F' rfl rfl) (nmI F' rfl) (nm (p := fun u => u = v) F' rfl rfl) (hl.at fun o e => F.le.keep _ o e) (hideAll_none _ (.head _)) hDF hij hj hz ?_
  rintro v' s₂ s₃ rfl l2 F3 hP hk
  exact wp_end (k s₃ (fun b o hb e => hk b o hb (l2.keep _ _ (F.le.keep _ _ e))) F3.le hP)
theorem Fm.mutD {D : Addr} (F : Fm s₀ env m s) (h0 : s₀.heap.get? D = none) (h1 : D ∉ fAd env) (hk : ∀ b o, b ≠ D → s.heap.get? b = some o → s'.heap.get? b = some o) (l : Le (noObj D s) s') : Fm s₀ env m s' :=
  F.mutB (B := fun b => b ≠ D) (G := fun _ => False) ⟨fun b o hb e => hk b o hb e, fun i x _ e => l.gens i x e, fun i x e n => l.bare i x e (n.elim (fun h => h) fun h => h.elim), l.os, l.tk⟩
    (fun b zq0 q => by obtain ⟨o, e⟩ := zq0; rw [q, h0] at e; cases e) (fun b hb q => h1 (q ▸ hb)) fun g h => h.elim
theorem wp_setitemF {x : Str} {p : Pos} {o ix e : Expr} {rest : List Stmt} {D : Addr} {items : List Value} {i : Int} {j : Nat} {q : Value → Prop} {pos pos' : Pos} (C : Cx A (d + 1)) (T : Tp w s) (F : Fm s₀ env m s) (hf : PV prog w A s (eval (.Name x p) env) (fun u => u = .ref 49)) (ho : PV prog w A s (eval o env) (fun u => u = .ref D)) (hix : PV prog w A s (eval ix env) (IsI i)) (he : PV prog w A s (eval e env) q)
    (hl : s.heap.PlainList D items.toArray) (h0 : s₀.heap.get? D = none) (h1 : D ∉ fAd env) (hij : (0 ≤ i ∧ i.toNat = j) ∨ (i < 0 ∧ (i + items.length).toNat = j ∧ -(items.length : Int) ≤ i)) (hj : j < items.length) (hz : items.length ≤ 1000)
    (hkp : keepIn (_root_.Mine.hd.heap_39 w.params) (.ref 49) = true)
    (k : ∀ v s₁ s₂, q v → Le s s₁ → Fm s₀ env m s₂ → s₂.heap.PlainList D (items.set j v).toArray → (∀ b o, b ≠ D → s₁.heap.get? b = some o → s₂.heap.get? b = some o) → wpAny (model prog w) A (execs rest env) Q E s₂)
    (hse : starEach (o :: [ix, e]) env = (false, eval o env) :: starEach [ix, e] env := by rfl) (hse2 : starEach (ix :: [e]) env = (false, eval ix env) :: starEach [e] env := by rfl) (hse3 : starEach (e :: []) env = (false, eval e env) :: starEach [] env := by rfl) (hp : (backTo pos (starEach [ix, e] env)).any (·.1) = false := by rfl)
    (hi : interactive env = false := by rfl) (hs : swapsWith (.Call (.Name x p) [o, ix, e] [] pos) none pos'.line env = pure false := by rfl) :
    wpAny (model prog w) A (execs (.Expr (.Call (.Name x p) [o, ix, e] [] pos) pos' :: rest) env) Q E s := by
  refine wp_cons (wpAny_Expr_any ?_ hi hs)
  refine Call_ (hf.use fun f s₁ l1 ef => ?_)
  subst ef
  refine callWith_K (T.le l1).k hkp ((argv3 (ho.le l1) (hix.le l1) (he.le l1) hse hse2 hse3).use fun vs s₂ l2 hv => ⟨(T.le (l1.trans l2)).k, ?_⟩) hse hp
  obtain ⟨v1, v2, v3, rfl, rfl, ⟨t, rfl⟩, hq⟩ := hv
  have l := l1.trans l2
  refine call_setitem C (T.le l) (hl.at fun o e => l.keep _ o e) hij hj hz fun s₃ hk l3 hP => ?_
  exact k v3 s₂ s₃ hq l ((F.grow l).mutD h0 h1 hk l3) hP hk
end
end Mine
end

section
open PySem PySem.W PyProof.Rows PySem.Calls
namespace Mine
/-- one exchange in the row -/
noncomputable def rowStep (ns : List Int) (xs : List Int) (k : Int) : List Int := (xs.set k.toNat (xs.getD (par ns k.toNat).toNat 0)).set (par ns k.toNat).toNat (xs.getD k.toNat 0)
noncomputable def rowAt (ns order : List Int) : Nat → List Int
  | 0 => [0, 1, 2, 3, 4]
  | i + 1 => rowStep ns (rowAt ns order i) (order.getD i 0)
theorem rowAt_len (ns order : List Int) : ∀ i, (rowAt ns order i).length = 5
  | 0 => rfl
  | i + 1 => by rw [rowAt, rowStep, List.length_set, List.length_set, rowAt_len ns order i]
/-- the value of a thing in the row -/
noncomputable def lit (vr : List Value) (x : Int) : Value := vr.getD x.toNat .none
theorem lit_int {vr : List Value} {a b : Nat} (h : IncI a b vr [0, 1, 2, 3, 4]) {x : Int} (hx : x ∈ ([0, 1, 2, 3, 4] : List Int)) : ∃ t : Nat, lit vr x = .int x t ∧ a ≤ t ∧ t < b := by
  obtain ⟨t, e, h1, h2⟩ := h.at' _ x (at5 x hx).1
  refine ⟨t, ?_, h1, h2⟩
  unfold lit
  rw [List.getD_eq_getElem?_getD, e]; rfl
theorem lit_map {vr : List Value} {a b : Nat} (h : IncI a b vr [0, 1, 2, 3, 4]) : vr = ([0, 1, 2, 3, 4] : List Int).map (lit vr) := by
  cases h with
  | cons _ h => cases h with
    | cons _ h => cases h with
      | cons _ h => cases h with
        | cons _ h => cases h with
          | cons _ h => cases h; rfl
theorem rowAt_mem (ns order : List Int) (hns : Nums ns) (ho : ∀ k ∈ order, (1 : Int) ≤ k ∧ k < 5) : ∀ i, i ≤ order.length → ∀ x ∈ rowAt ns order i, x ∈ ([0, 1, 2, 3, 4] : List Int)
  | 0, _ => fun x h => h
  | i + 1, hi => fun x h => by
    have ih := rowAt_mem ns order hns ho i (by (first | with_reducible assumption | exact Int.natCast_nonneg _ | exact Nat.le_refl _ | exact Nat.lt_of_lt_of_le (by with_reducible assumption) (by decide) | exact Nat.lt_of_lt_of_eq (by with_reducible assumption) (Eq.symm (by with_reducible assumption)) | exact Nat.lt_of_succ_le (by with_reducible assumption) | omega))
    rw [rowAt, rowStep] at h
    have hl := rowAt_len ns order i
    obtain ⟨k0, k1⟩ := ho _ (getD_mem (d := 0) (by (first | with_reducible assumption | exact Int.natCast_nonneg _ | exact Nat.le_refl _ | exact Nat.lt_of_lt_of_le (by with_reducible assumption) (by decide) | exact Nat.lt_of_lt_of_eq (by with_reducible assumption) (Eq.symm (by with_reducible assumption)) | exact Nat.lt_of_succ_le (by with_reducible assumption) | omega) : i < order.length))
    obtain ⟨p0, p1⟩ := par_bnd hns (k := (order.getD i 0).toNat) (by (first | with_reducible assumption | exact Int.natCast_nonneg _ | exact Nat.le_refl _ | exact Nat.lt_of_lt_of_le (by with_reducible assumption) (by decide) | exact Nat.lt_of_lt_of_eq (by with_reducible assumption) (Eq.symm (by with_reducible assumption)) | exact Nat.lt_of_succ_le (by with_reducible assumption) | omega))
    rcases List.mem_or_eq_of_mem_set h with h | h
    · rcases List.mem_or_eq_of_mem_set h with h | h
      · exact ih _ h
      · rw [h]; exact ih _ (getD_mem (by (first | with_reducible assumption | exact Int.natCast_nonneg _ | exact Nat.le_refl _ | exact Nat.lt_of_lt_of_le (by with_reducible assumption) (by decide) | exact Nat.lt_of_lt_of_eq (by with_reducible assumption) (Eq.symm (by with_reducible assumption)) | exact Nat.lt_of_succ_le (by with_reducible assumption) | omega)))
    · rw [h]; exact ih _ (getD_mem (by (first | with_reducible assumption | exact Int.natCast_nonneg _ | exact Nat.le_refl _ | exact Nat.lt_of_lt_of_le (by with_reducible assumption) (by decide) | exact Nat.lt_of_lt_of_eq (by with_reducible assumption) (Eq.symm (by with_reducible assumption)) | exact Nat.lt_of_succ_le (by with_reducible assumption) | omega)))
section
variable {prog : Program} {w : World} {A : Around} {s₀ s s' : Shared} {m : Mp} {env : Env} {pos : Pos} {Q : Flow → Shared → Prop} {E : Value → Shared → Prop} {L fa : Addr} {d : Nat}
set_option maxHeartbeats 8000000 in
theorem phF {ns order : List Int} {lo ln : Addr} {p1 p2 p3 p4 : Value} {vo : List Value} (C : Cx A (d + 1)) (T : Tp w s₀) (F : Fm s₀ (lawEnv L fa) [(Str.ofString "order", .ref lo), (Str.ofString "names", p1), (Str.ofString "mates", p2), (Str.ofString "dresses", p3), (Str.ofString "signs", p4), (Str.ofString "numbers", .ref ln)] s) (hns : Nums ns) (O : Ordered ns order)
    (hn : ILs s₀.heap ln ns) (ho : s₀.heap.PlainList lo vo.toArray) (hO : Ints vo order)
    (k : ∀ a s' lr vr b c, Le s₀ a → a.heap.PlainList lr ((rowAt ns order 4).map (lit vr)).toArray → IncI b c vr [0, 1, 2, 3, 4] → s₀.toks ≤ b → c ≤ a.toks → Fm a (lawEnv L fa) [(Str.ofString "row", .ref lr), (Str.ofString "order", .ref lo), (Str.ofString "names", p1), (Str.ofString "mates", p2), (Str.ofString "dresses", p3), (Str.ofString "signs", p4), (Str.ofString "numbers", .ref ln)] s' → wpAny (model prog w) A (execs (lawFrom 12) (lawEnv L fa)) Q E s') :
    wpAny (model prog w) A (execs (lawFrom 10) (lawEnv L fa)) Q E s := by
  have hzl : sizeLine = 16777216 := sizeLine_eq
  have hol : order.length = 4 := O.perm.length_eq
  have mem : ∀ i, i < 4 → order.getD i 0 ∈ ([1, 2, 3, 4] : List Int) := fun i hi => O.perm.mem_iff.mp (getD_mem (by (first | with_reducible assumption | exact Int.natCast_nonneg _ | exact Nat.le_refl _ | exact Nat.lt_of_lt_of_le (by with_reducible assumption) (by decide) | exact Nat.lt_of_lt_of_eq (by with_reducible assumption) (Eq.symm (by with_reducible assumption)) | exact Nat.lt_of_succ_le (by with_reducible assumption) | omega)))
  have mem' : ∀ i, i < 4 → 1 ≤ order.getD i 0 ∧ order.getD i 0 < 5 := fun i hi => by
    exact mem4 _ (mem i hi)
  have ho' : ∀ k ∈ order, (1 : Int) ≤ k ∧ k < 5 := fun k hk => by
    exact mem4 _ (O.perm.mem_iff.mp hk)
  have Ts : Tp w s := T.le F.le
  rw [lawStep 10 (by decide)]
  refine wp_assignT F (pt_displayT [(0, _, _), (1, _, _), (2, _, _), (3, _, _), (4, _, _)] (by rw [hzl]; decide)) ?_
  rintro v1 s₁ l1 ⟨lr, vr, rfl, hr0, hrP, hrI⟩ s₂ F2 B2 g2
  obtain ⟨hrf, hr00⟩ := F.fresh hr0
  have hr2 : s₂.heap.PlainList lr vr.toArray := hrP.at fun o e => B2 lr o hrf e
  have hlit := lit_map hrI
  have hol0 : lo ∉ fAd (lawEnv L fa) ∧ lo ≠ lr := by
    obtain ⟨n, e⟩ := ho
    refine ⟨fun hm => ?_, fun q => by rw [q, hr00] at e; cases e⟩
    rcases List.mem_cons.mp hm with q | hm
    · have := F.newL
      rw [← q, e] at this; cases this
    · obtain ⟨y, hy, q⟩ := List.mem_map.mp hm
      have := F.newC y hy
      rw [q, e] at this; cases this
  obtain ⟨a1, la1, F2, ka1, hD1, ht1⟩ := F2.rebaseT [lr] fun b hb => by rw [List.mem_singleton.mp hb]; exact hr00
  have hr0' := hD1 lr (.head _)
  have ho1 := ho.at fun o e => la1.keep _ o e
  have hn1 := hn.keeps la1.keep
  have T1 : Tp w a1 := T.le la1
  rw [lawStep 11 (by decide)]
  obtain ⟨JJ, hJJ⟩ : ∃ J : Nat → Mp → Shared → Prop, ∀ i m s', J i m s' ↔ (m.lookup (Str.ofString "row") = some (.ref lr) ∧ Has [(Str.ofString "order", .ref lo), (Str.ofString "names", p1), (Str.ofString "mates", p2), (Str.ofString "dresses", p3), (Str.ofString "signs", p4), (Str.ofString "numbers", .ref ln)] m ∧ s'.heap.PlainList lr ((rowAt ns order i).map (lit vr)).toArray) := ⟨_, fun _ _ _ => Iff.rfl⟩
  refine wp_for (D := [lr]) (src := [lo]) (n := 4) (P := fun i v => IsI (order.getD i 0) v) (s₀ := a1) JJ
    F2 (nm (p := fun u => u = .ref lo) F2 rfl rfl) (fun v s4 l4 e => ?_) (fun b hb => by rw [List.mem_singleton.mp hb]; exact ⟨hol0.1, fun h => hol0.2 (List.mem_singleton.mp h)⟩)
    (fun b hb => by rw [List.mem_singleton.mp hb]; exact ⟨hr0', hrf, (by obtain ⟨n, e⟩ := hr2; exact ⟨_, e⟩)⟩) ?_ ((hJJ _ _ _).mpr ⟨rfl, ?_, ?_⟩) ?_ ?_
  · subst e
    have h := src_list (prog := prog) (w := w) (A := A) (s := s4) C.hh (ho1.at fun o e => (F2.le.trans l4).keep _ o e).isList
    rw [hO.len, hol] at h
    intro Q E k
    refine h Q E fun I fp wr St s5 l5 W => k I fp wr St s5 l5 { W with item := fun i s Q E hi st q => W.item i s Q E hi st fun v h' tk p => q v h' tk ?_ }
    obtain ⟨x, hx, r⟩ := hO.get' p
    rw [List.getD_eq_getElem?_getD, hx]; exact r
  · intro i m s3 s4 hj hk
    obtain ⟨a1, a2, a3⟩ := (hJJ _ _ _).mp hj
    exact (hJJ _ _ _).mpr ⟨a1, a2, a3.at fun o e => hk lr (.head _) o e⟩
  · exact Has.rfl.cons rfl
  · rw [show rowAt ns order 0 = [0, 1, 2, 3, 4] from rfl, ← hlit]; exact hr2
  · intro i vk a m s3 hi hvk la ha F3 hj
    obtain ⟨b1, b2, b3⟩ := (hJJ _ _ _).mp hj
    obtain ⟨k1, k2⟩ := mem' i hi
    obtain ⟨q0, q1⟩ := par_bnd hns (k := (order.getD i 0).toNat) (by (first | with_reducible assumption | exact Int.natCast_nonneg _ | exact Nat.le_refl _ | exact Nat.lt_of_lt_of_le (by with_reducible assumption) (by decide) | exact Nat.lt_of_lt_of_eq (by with_reducible assumption) (Eq.symm (by with_reducible assumption)) | exact Nat.lt_of_succ_le (by with_reducible assumption) | omega))
    have F4 : Fm a (lawEnv L fa) [(Str.ofString "k", vk), (Str.ofString "row", .ref lr), (Str.ofString "order", .ref lo), (Str.ofString "names", p1), (Str.ofString "mates", p2), (Str.ofString "dresses", p3), (Str.ofString "signs", p4), (Str.ofString "numbers", .ref ln)] s3 := F3.has fun x v e => by
      by_cases q : x = Str.ofString "k"
      · subst q; rw [lookup_cons_eq] at e ⊢; exact e
      · rw [lookup_cons_ne q] at e ⊢
        by_cases q : x = Str.ofString "row"
        · subst q; rw [lookup_cons_eq] at e; cases e; exact b1
        · rw [lookup_cons_ne q] at e; exact b2 _ _ e
    have T3 : Tp w s3 := T1.le (la.trans F4.le)
    have hra : a.heap.get? lr = none := ha lr (.head _)
    have hxl := rowAt_len ns order i
    have hvl : ((rowAt ns order i).map (lit vr)).length = 5 := by rw [List.length_map, hxl]
    have hat : ∀ j : Nat, j < 5 → ((rowAt ns order i).map (lit vr))[j]? = some (lit vr ((rowAt ns order i).getD j 0)) := fun j hj => by
      rw [List.getElem?_map, List.getD_eq_getElem?_getD, List.getElem?_eq_getElem (by (first | with_reducible assumption | exact Int.natCast_nonneg _ | exact Nat.le_refl _ | exact Nat.lt_of_lt_of_le (by with_reducible assumption) (by decide) | exact Nat.lt_of_lt_of_eq (by with_reducible assumption) (Eq.symm (by with_reducible assumption)) | exact Nat.lt_of_succ_le (by with_reducible assumption) | omega) : j < (rowAt ns order i).length)]; rfl
    generalize hK : order.getD i 0 = K at *
    -- kept
    refine wp_assign F4 (pt_callF (f := 35) (R := fun v _ => v = lit vr ((rowAt ns order i).getD K.toNat 0)) T3 (by k_is) (pt_global T3 rfl (by k_is)) (argv2 (nm (p := fun u => u = .ref lr) F4 rfl rfl) (pv_binop (p1 := IsI K) (p2 := IsI 5) (nmC F4 rfl hvk) (pt_int 5 _ _) fun _ _ _ _ h1 h2 => o_sub h1 h2))
      fun vs s' l' hv => by
        obtain ⟨v, u, rfl, rfl, t, rfl⟩ := hv
        refine getitem_pt C (T3.le l') (b3.at fun o e => l'.keep _ o e).isList (.inr ⟨by (first | with_reducible assumption | exact Int.natCast_nonneg _ | exact Nat.le_refl _ | exact Nat.lt_of_lt_of_le (by with_reducible assumption) (by decide) | exact Nat.lt_of_lt_of_eq (by with_reducible assumption) (Eq.symm (by with_reducible assumption)) | exact Nat.lt_of_succ_le (by with_reducible assumption) | omega), by rw [hvl]; (first | with_reducible assumption | exact Int.natCast_nonneg _ | exact Nat.le_refl _ | exact Nat.lt_of_lt_of_le (by with_reducible assumption) (by decide) | exact Nat.lt_of_lt_of_eq (by with_reducible assumption) (Eq.symm (by with_reducible assumption)) | exact Nat.lt_of_succ_le (by with_reducible assumption) | omega), ?_⟩) (by rw [hvl, hzl]; decide)
        rw [hvl, show (K - 5 + (5 : Nat) : Int).toNat = K.toNat by (first | with_reducible assumption | exact Int.natCast_nonneg _ | exact Nat.le_refl _ | exact Nat.lt_of_lt_of_le (by with_reducible assumption) (by decide) | exact Nat.lt_of_lt_of_eq (by with_reducible assumption) (Eq.symm (by with_reducible assumption)) | exact Nat.lt_of_succ_le (by with_reducible assumption) | omega)]
        exact hat _ (by (first | with_reducible assumption | exact Int.natCast_nonneg _ | exact Nat.le_refl _ | exact Nat.lt_of_lt_of_le (by with_reducible assumption) (by decide) | exact Nat.lt_of_lt_of_eq (by with_reducible assumption) (Eq.symm (by with_reducible assumption)) | exact Nat.lt_of_succ_le (by with_reducible assumption) | omega))) ?_
    rintro v5 s5 l5 rfl s6 F6 B6 g6
    have b6 : s6.heap.PlainList lr ((rowAt ns order i).map (lit vr)).toArray := b3.at fun o e => B6 lr o hrf (l5.keep _ o e)
    have T6 : Tp w s6 := T1.le (la.trans F6.le)
    have hn6 := hn1.keeps (la.trans F6.le).keep
    have hpar : par ns K.toNat = ns.getD K.toNat 0 % K := by unfold par; rw [Int.toNat_of_nonneg (by (first | with_reducible assumption | exact Int.natCast_nonneg _ | exact Nat.le_refl _ | exact Nat.lt_of_lt_of_le (by with_reducible assumption) (by decide) | exact Nat.lt_of_lt_of_eq (by with_reducible assumption) (Eq.symm (by with_reducible assumption)) | exact Nat.lt_of_succ_le (by with_reducible assumption) | omega))]
    have hnk : ∀ {sx : Shared} {mx : Mp} (Fx : Fm a (lawEnv L fa) mx sx), ILs sx.heap ln ns → mx.lookup (Str.ofString "k") = some vk → mx.lookup (Str.ofString "numbers") = some (.ref ln) → ∀ pa pb pc pd pe, PV prog w A sx (eval (.BinOp (.Subscript (.Name (Str.ofString "numbers") pa) (.Name (Str.ofString "k") pb) pc) .Mod (.Name (Str.ofString "k") pd) pe) (lawEnv L fa)) (IsI (par ns K.toNat)) := fun Fx hnx m1 m2 pa pb pc pd pe => by
      rw [hpar]
      exact pv_binop (p1 := IsI (ns.getD K.toNat 0)) (p2 := IsI K) (pt_num (x := K) hnx (nmC (p := fun u => u = .ref ln) Fx m2 rfl) (nmC Fx m1 hvk) (by (first | with_reducible assumption | exact Int.natCast_nonneg _ | exact Nat.le_refl _ | exact Nat.lt_of_lt_of_le (by with_reducible assumption) (by decide) | exact Nat.lt_of_lt_of_eq (by with_reducible assumption) (Eq.symm (by with_reducible assumption)) | exact Nat.lt_of_succ_le (by with_reducible assumption) | omega)) (by rw [hns.len]; (first | with_reducible assumption | exact Int.natCast_nonneg _ | exact Nat.le_refl _ | exact Nat.lt_of_lt_of_le (by with_reducible assumption) (by decide) | exact Nat.lt_of_lt_of_eq (by with_reducible assumption) (Eq.symm (by with_reducible assumption)) | exact Nat.lt_of_succ_le (by with_reducible assumption) | omega)) (by rw [hns.len]; decide)) (nmC Fx m1 hvk) fun _ _ _ _ h1 h2 => o_mod h1 h2 (by (first | with_reducible assumption | exact Int.natCast_nonneg _ | exact Nat.le_refl _ | exact Nat.lt_of_lt_of_le (by with_reducible assumption) (by decide) | exact Nat.lt_of_lt_of_eq (by with_reducible assumption) (Eq.symm (by with_reducible assumption)) | exact Nat.lt_of_succ_le (by with_reducible assumption) | omega))
    refine wp_setitemF (j := K.toNat) (i := K - 5) (q := fun u => u = lit vr ((rowAt ns order i).getD (par ns K.toNat).toNat 0)) C T6 F6 (pt_global T6 rfl (by k_is)) (nm (p := fun u => u = .ref lr) F6 rfl rfl) (pv_binop (p1 := IsI K) (p2 := IsI 5) (nmC F6 rfl hvk) (pt_int 5 _ _) fun _ _ _ _ h1 h2 => o_sub h1 h2)
      (pt_callF (f := 35) T6 (by k_is) (pt_global T6 rfl (by k_is)) (argv2 (nm (p := fun u => u = .ref lr) F6 rfl rfl) (hnk F6 hn6 rfl rfl _ _ _ _ _)) fun vs s' l' hv => by
        obtain ⟨v, u, rfl, rfl, t, rfl⟩ := hv
        exact getitem_pt C (T6.le l') (b6.at fun o e => l'.keep _ o e).isList (.inl ⟨by (first | with_reducible assumption | exact Int.natCast_nonneg _ | exact Nat.le_refl _ | exact Nat.lt_of_lt_of_le (by with_reducible assumption) (by decide) | exact Nat.lt_of_lt_of_eq (by with_reducible assumption) (Eq.symm (by with_reducible assumption)) | exact Nat.lt_of_succ_le (by with_reducible assumption) | omega), hat _ (by (first | with_reducible assumption | exact Int.natCast_nonneg _ | exact Nat.le_refl _ | exact Nat.lt_of_lt_of_le (by with_reducible assumption) (by decide) | exact Nat.lt_of_lt_of_eq (by with_reducible assumption) (Eq.symm (by with_reducible assumption)) | exact Nat.lt_of_succ_le (by with_reducible assumption) | omega))⟩) (by rw [hvl, hzl]; decide))
      b6 hra hrf (.inr ⟨by (first | with_reducible assumption | exact Int.natCast_nonneg _ | exact Nat.le_refl _ | exact Nat.lt_of_lt_of_le (by with_reducible assumption) (by decide) | exact Nat.lt_of_lt_of_eq (by with_reducible assumption) (Eq.symm (by with_reducible assumption)) | exact Nat.lt_of_succ_le (by with_reducible assumption) | omega), by rw [hvl]; (first | with_reducible assumption | exact Int.natCast_nonneg _ | exact Nat.le_refl _ | exact Nat.lt_of_lt_of_le (by with_reducible assumption) (by decide) | exact Nat.lt_of_lt_of_eq (by with_reducible assumption) (Eq.symm (by with_reducible assumption)) | exact Nat.lt_of_succ_le (by with_reducible assumption) | omega), by rw [hvl]; (first | with_reducible assumption | exact Int.natCast_nonneg _ | exact Nat.le_refl _ | exact Nat.lt_of_lt_of_le (by with_reducible assumption) (by decide) | exact Nat.lt_of_lt_of_eq (by with_reducible assumption) (Eq.symm (by with_reducible assumption)) | exact Nat.lt_of_succ_le (by with_reducible assumption) | omega)⟩) (by rw [hvl]; (first | with_reducible assumption | exact Int.natCast_nonneg _ | exact Nat.le_refl _ | exact Nat.lt_of_lt_of_le (by with_reducible assumption) (by decide) | exact Nat.lt_of_lt_of_eq (by with_reducible assumption) (Eq.symm (by with_reducible assumption)) | exact Nat.lt_of_succ_le (by with_reducible assumption) | omega)) (by rw [hvl]; decide) (by k_is) ?_
    rintro v7 s7 s8 rfl l7 F8 b8 k8
    have T8 : Tp w s8 := T1.le (la.trans F8.le)
    have hn8 := hn1.keeps (la.trans F8.le).keep
    rw [← List.map_set] at b8
    refine wp_setitemF (j := (par ns K.toNat).toNat) (i := par ns K.toNat) (q := fun u => u = lit vr ((rowAt ns order i).getD K.toNat 0)) C T8 F8 (pt_global T8 rfl (by k_is)) (nm (p := fun u => u = .ref lr) F8 rfl rfl) (hnk F8 hn8 rfl rfl _ _ _ _ _) (nm (p := fun u => u = lit vr ((rowAt ns order i).getD K.toNat 0)) F8 rfl rfl)
      b8 hra hrf (.inl ⟨by (first | with_reducible assumption | exact Int.natCast_nonneg _ | exact Nat.le_refl _ | exact Nat.lt_of_lt_of_le (by with_reducible assumption) (by decide) | exact Nat.lt_of_lt_of_eq (by with_reducible assumption) (Eq.symm (by with_reducible assumption)) | exact Nat.lt_of_succ_le (by with_reducible assumption) | omega), rfl⟩) (by rw [List.length_map, List.length_set, hxl]; (first | with_reducible assumption | exact Int.natCast_nonneg _ | exact Nat.le_refl _ | exact Nat.lt_of_lt_of_le (by with_reducible assumption) (by decide) | exact Nat.lt_of_lt_of_eq (by with_reducible assumption) (Eq.symm (by with_reducible assumption)) | exact Nat.lt_of_succ_le (by with_reducible assumption) | omega)) (by rw [List.length_map, List.length_set, hxl]; decide) (by k_is) ?_
    rintro v9 s9 s10 rfl l9 F10 b10 k10
    rw [← List.map_set] at b10
    refine wp_end ⟨_, F10, (hJJ _ _ _).mpr ⟨rfl, ((Has.rfl.cons rfl).cons rfl).cons rfl, ?_⟩⟩
    rw [rowAt, hK]; exact b10
  · intro m s3 F3 hj
    obtain ⟨b1, b2, b3⟩ := (hJJ _ _ _).mp hj
    obtain ⟨a, la, Fa, ka⟩ := F3.rebase []
    refine k a s3 lr vr _ _ (la1.trans la) (b3.at fun o e => ka lr o hrf (by simp) e) hrI F.le.tk (Nat.le_trans g2 (ht1 ▸ la.tk)) (Fa.has fun x v e => ?_)
    by_cases q : x = Str.ofString "row"
    · subst q; rw [lookup_cons_eq] at e; cases e; exact b1
    · rw [lookup_cons_ne q] at e; exact b2 _ _ e
end
/-- made behind its first -/
noncomputable def mdTl (row : List Int) : Nat → List Int
  | 0 => []
  | i + 1 => mdTl row i ++ [row.getD ((0 :: mdTl row i).getD i 0).toNat 0]
theorem mdTl_len (row : List Int) : ∀ i, (mdTl row i).length = i
  | 0 => rfl
  | i + 1 => by rw [mdTl, List.length_append, mdTl_len row i]; rfl
theorem mdTl_mem {row : List Int} (hr : ∀ x ∈ row, x ∈ ([0, 1, 2, 3, 4] : List Int)) (hl : row.length = 5) : ∀ i, ∀ x ∈ mdTl row i, x ∈ ([0, 1, 2, 3, 4] : List Int)
  | 0 => fun x h => nomatch h
  | i + 1 => fun x h => by
    have ih := mdTl_mem hr hl i
    rw [mdTl] at h
    rcases List.mem_append.mp h with h | h
    · exact ih _ h
    · rw [List.mem_singleton.mp h]
      have : (0 :: mdTl row i).getD i 0 ∈ ([0, 1, 2, 3, 4] : List Int) := by
        have hm := getD_mem (d := 0) (l := 0 :: mdTl row i) (i := i) (by rw [List.length_cons, mdTl_len]; (first | with_reducible assumption | exact Int.natCast_nonneg _ | exact Nat.le_refl _ | exact Nat.lt_of_lt_of_le (by with_reducible assumption) (by decide) | exact Nat.lt_of_lt_of_eq (by with_reducible assumption) (Eq.symm (by with_reducible assumption)) | exact Nat.lt_of_succ_le (by with_reducible assumption) | omega))
        rcases List.mem_cons.mp hm with e | e
        · rw [e]; exact .head _
        · exact ih _ e
      exact hr _ (getD_mem (hl ▸ (at5 _ this).2))
/-- made's values -/
noncomputable def mdVals (vr : List Value) (t0 : Nat) (row : List Int) (i : Nat) : List Value := .int 0 t0 :: (mdTl row i).map (lit vr)
section
variable {prog : Program} {w : World} {A : Around} {s₀ s s' : Shared} {m : Mp} {env : Env} {pos : Pos} {Q : Flow → Shared → Prop} {E : Value → Shared → Prop} {L fa : Addr} {d : Nat}
set_option maxHeartbeats 8000000 in
theorem phF2 {row : List Int} {lr : Addr} {vr : List Value} {b c : Nat} {p1 p2 p3 p4 p5 p6 : Value} (C : Cx A (d + 1)) (T : Tp w s₀) (F : Fm s₀ (lawEnv L fa) [(Str.ofString "row", .ref lr), (Str.ofString "order", p1), (Str.ofString "names", p2), (Str.ofString "mates", p3), (Str.ofString "dresses", p4), (Str.ofString "signs", p5), (Str.ofString "numbers", p6)] s)
    (hr : s₀.heap.PlainList lr (row.map (lit vr)).toArray) (hI : IncI b c vr [0, 1, 2, 3, 4]) (hrl : row.length = 5) (hrm : ∀ x ∈ row, x ∈ ([0, 1, 2, 3, 4] : List Int))
    (k : ∀ a s' lm t0, Le s₀ a → s₀.toks ≤ t0 → t0 < a.toks → a.heap.PlainList lm (mdVals vr t0 row 4).toArray → Fm a (lawEnv L fa) [(Str.ofString "made", .ref lm), (Str.ofString "names", p2), (Str.ofString "mates", p3), (Str.ofString "dresses", p4), (Str.ofString "signs", p5), (Str.ofString "numbers", p6)] s' → wpAny (model prog w) A (execs (lawFrom 14) (lawEnv L fa)) Q E s') :
    wpAny (model prog w) A (execs (lawFrom 12) (lawEnv L fa)) Q E s := by
  have hzl : sizeLine = 16777216 := sizeLine_eq
  rw [lawStep 12 (by decide)]
  refine wp_assignT F (pt_displayT [(0, _, _)] (by rw [hzl]; decide)) ?_
  rintro v1 s₁ l1 ⟨lm, vm, rfl, hm0, hmP, hmI⟩ s₂ F2 B2 g2
  obtain ⟨hmf, hm00⟩ := F.fresh hm0
  obtain ⟨t0, rfl, ht1, ht2⟩ : ∃ t0 : Nat, vm = [.int 0 t0] ∧ s.toks ≤ t0 ∧ t0 < s₁.toks := by
    cases hmI with
    | cons h1 h => cases h with
    | nil h2 => exact ⟨_, rfl, h1, h2⟩
  have hm2 : s₂.heap.PlainList lm (mdVals vr t0 row 0).toArray := hmP.at fun o e => B2 lm o hmf e
  obtain ⟨a1, la1, F2, ka1, hD1, ht3⟩ := F2.rebaseT [lm] fun b hb => by rw [List.mem_singleton.mp hb]; exact hm00
  have hm0' := hD1 lm (.head _)
  have hr1 := hr.at fun o e => la1.keep _ o e
  have T1 : Tp w a1 := T.le la1
  rw [lawStep 13 (by decide)]
  refine wp_for (D := [lm]) (src := []) (n := 4) (P := fun i v => IsI (0 + i) v) (s₀ := a1)
    (fun i m s' => Has [(Str.ofString "made", .ref lm), (Str.ofString "row", .ref lr), (Str.ofString "names", p2), (Str.ofString "mates", p3), (Str.ofString "dresses", p4), (Str.ofString "signs", p5), (Str.ofString "numbers", p6)] m ∧ s'.heap.PlainList lm (mdVals vr t0 row i).toArray)
    F2 (pt_range1 (pt_builtin (T1.le F2.le) rfl (by k_is) rfl) (pt_int 4 _ _)) (fun v s4 l4 zq0 => by obtain ⟨r, t, u, x, e, hrg⟩ := zq0; rw [e]; exact src_range C.hh hrg (by decide) (by decide)) (fun b hb => nomatch hb)
    (fun b hb => by rw [List.mem_singleton.mp hb]; exact ⟨hm0', hmf, (by obtain ⟨n, e⟩ := hm2; exact ⟨_, e⟩)⟩) ?_ ⟨?_, hm2⟩ ?_ ?_
  · rintro i m s3 s4 ⟨a1, a3⟩ hk
    exact ⟨a1, a3.at fun o e => hk lm (.head _) o e⟩
  · exact fun x v e => Picks.all (m := [(Str.ofString "made", .ref lm), (Str.ofString "row", .ref lr), (Str.ofString "order", p1), (Str.ofString "names", p2), (Str.ofString "mates", p3), (Str.ofString "dresses", p4), (Str.ofString "signs", p5), (Str.ofString "numbers", p6)]) (m' := [(Str.ofString "made", .ref lm), (Str.ofString "row", .ref lr), (Str.ofString "names", p2), (Str.ofString "mates", p3), (Str.ofString "dresses", p4), (Str.ofString "signs", p5), (Str.ofString "numbers", p6)]) ⟨rfl, rfl, rfl, rfl, rfl, rfl, rfl, trivial⟩ e
  · rintro i vk a m s3 hi hvk la ha F3 ⟨b2, b3⟩
    have F4 : Fm a (lawEnv L fa) [(Str.ofString "k", vk), (Str.ofString "made", .ref lm), (Str.ofString "row", .ref lr), (Str.ofString "names", p2), (Str.ofString "mates", p3), (Str.ofString "dresses", p4), (Str.ofString "signs", p5), (Str.ofString "numbers", p6)] s3 := F3.has fun x v e => by
      by_cases q : x = Str.ofString "k"
      · subst q; rw [lookup_cons_eq] at e ⊢; exact e
      · rw [lookup_cons_ne q] at e ⊢; exact b2 _ _ e
    have T3 : Tp w s3 := T1.le (la.trans F4.le)
    have hr3 := hr1.at fun o e => (la.trans F4.le).keep _ o e
    have hml : (mdVals vr t0 row i).length = i + 1 := by rw [mdVals, List.length_cons, List.length_map, mdTl_len]
    obtain ⟨x, hx, hlast, hxm⟩ : ∃ x : Int, (0 :: mdTl row i).getD i 0 = x ∧ (∃ u, (mdVals vr t0 row i)[i]? = some (.int x u)) ∧ x ∈ ([0, 1, 2, 3, 4] : List Int) := by
      refine ⟨_, rfl, ?_⟩
      cases i with
      | zero => exact ⟨⟨t0, rfl⟩, .head _⟩
      | succ i =>
        have hl := mdTl_len row (i + 1)
        have hg : (0 :: mdTl row (i + 1)).getD (i + 1) 0 = (mdTl row (i + 1))[i]'(by (first | with_reducible assumption | exact Int.natCast_nonneg _ | exact Nat.le_refl _ | exact Nat.lt_of_lt_of_le (by with_reducible assumption) (by decide) | exact Nat.lt_of_lt_of_eq (by with_reducible assumption) (Eq.symm (by with_reducible assumption)) | exact Nat.lt_of_succ_le (by with_reducible assumption) | omega)) := by
          rw [List.getD_eq_getElem?_getD, List.getElem?_cons_succ, List.getElem?_eq_getElem (by (first | with_reducible assumption | exact Int.natCast_nonneg _ | exact Nat.le_refl _ | exact Nat.lt_of_lt_of_le (by with_reducible assumption) (by decide) | exact Nat.lt_of_lt_of_eq (by with_reducible assumption) (Eq.symm (by with_reducible assumption)) | exact Nat.lt_of_succ_le (by with_reducible assumption) | omega))]; rfl
        rw [hg]
        have hm := mdTl_mem hrm hrl (i + 1) _ (List.getElem_mem (by (first | with_reducible assumption | exact Int.natCast_nonneg _ | exact Nat.le_refl _ | exact Nat.lt_of_lt_of_le (by with_reducible assumption) (by decide) | exact Nat.lt_of_lt_of_eq (by with_reducible assumption) (Eq.symm (by with_reducible assumption)) | exact Nat.lt_of_succ_le (by with_reducible assumption) | omega) : i < (mdTl row (i + 1)).length))
        refine ⟨?_, hm⟩
        obtain ⟨u, hu, _⟩ := lit_int hI hm
        refine ⟨u, ?_⟩
        rw [mdVals, List.getElem?_cons_succ, List.getElem?_map, List.getElem?_eq_getElem (by (first | with_reducible assumption | exact Int.natCast_nonneg _ | exact Nat.le_refl _ | exact Nat.lt_of_lt_of_le (by with_reducible assumption) (by decide) | exact Nat.lt_of_lt_of_eq (by with_reducible assumption) (Eq.symm (by with_reducible assumption)) | exact Nat.lt_of_succ_le (by with_reducible assumption) | omega) : i < (mdTl row (i + 1)).length), Option.map_some, hu]
    obtain ⟨u, hu⟩ := hlast
    have hx5 : 0 ≤ x ∧ x < 5 := mem5 x hxm
    refine wp_append F4 (nm (p := fun u => u = .ref lm) F4 rfl rfl) b3 (ha lm (.head _)) hmf
      (pt_callF (f := 35) (R := fun v _ => v = lit vr (row.getD x.toNat 0)) T3 (by k_is) (pt_global T3 rfl (by k_is)) (argv2 (nm (p := fun u => u = .ref lr) F4 rfl rfl)
        (pt_item (i := -1) (x := .int x u) b3.isList (nm (p := fun u => u = .ref lm) F4 rfl rfl) (pt_neg1 _ _) (.inr ⟨by (first | with_reducible assumption | exact Int.natCast_nonneg _ | exact Nat.le_refl _ | exact Nat.lt_of_lt_of_le (by with_reducible assumption) (by decide) | exact Nat.lt_of_lt_of_eq (by with_reducible assumption) (Eq.symm (by with_reducible assumption)) | exact Nat.lt_of_succ_le (by with_reducible assumption) | omega), by rw [hml]; (first | with_reducible assumption | exact Int.natCast_nonneg _ | exact Nat.le_refl _ | exact Nat.lt_of_lt_of_le (by with_reducible assumption) (by decide) | exact Nat.lt_of_lt_of_eq (by with_reducible assumption) (Eq.symm (by with_reducible assumption)) | exact Nat.lt_of_succ_le (by with_reducible assumption) | omega), by rw [hml, show (-1 + ((i + 1 : Nat) : Int)).toNat = i by (first | with_reducible assumption | exact Int.natCast_nonneg _ | exact Nat.le_refl _ | exact Nat.lt_of_lt_of_le (by with_reducible assumption) (by decide) | exact Nat.lt_of_lt_of_eq (by with_reducible assumption) (Eq.symm (by with_reducible assumption)) | exact Nat.lt_of_succ_le (by with_reducible assumption) | omega)]; exact hu⟩) (by rw [hml, hzl]; (first | with_reducible assumption | exact Int.natCast_nonneg _ | exact Nat.le_refl _ | exact Nat.lt_of_lt_of_le (by with_reducible assumption) (by decide) | exact Nat.lt_of_lt_of_eq (by with_reducible assumption) (Eq.symm (by with_reducible assumption)) | exact Nat.lt_of_succ_le (by with_reducible assumption) | omega))))
        fun vs s' l' hv => by
          obtain ⟨v, u', rfl, rfl, rfl⟩ := hv
          refine getitem_pt C (T3.le l') (hr3.at fun o e => l'.keep _ o e).isList (.inl ⟨hx5.1, ?_⟩) (by rw [List.length_map, hrl, hzl]; decide)
          rw [List.getElem?_map, List.getD_eq_getElem?_getD, List.getElem?_eq_getElem (by (first | with_reducible assumption | exact Int.natCast_nonneg _ | exact Nat.le_refl _ | exact Nat.lt_of_lt_of_le (by with_reducible assumption) (by decide) | exact Nat.lt_of_lt_of_eq (by with_reducible assumption) (Eq.symm (by with_reducible assumption)) | exact Nat.lt_of_succ_le (by with_reducible assumption) | omega) : x.toNat < row.length)]; rfl) (by rw [hml, hzl]; (first | with_reducible assumption | exact Int.natCast_nonneg _ | exact Nat.le_refl _ | exact Nat.lt_of_lt_of_le (by with_reducible assumption) (by decide) | exact Nat.lt_of_lt_of_eq (by with_reducible assumption) (Eq.symm (by with_reducible assumption)) | exact Nat.lt_of_succ_le (by with_reducible assumption) | omega)) ?_
    rintro v10 s10' s10 s11 l10 rfl l10' F11 hP11 hk11 g11
    refine wp_end ⟨_, F11, Has.rfl.cons rfl, ?_⟩
    have : mdVals vr t0 row (i + 1) = mdVals vr t0 row i ++ [lit vr (row.getD x.toNat 0)] := by
      rw [mdVals, mdTl, List.map_append, hx]; rfl
    rw [this]; exact hP11
  · rintro m s3 F3 ⟨b2, b3⟩
    obtain ⟨a, la, Fa, ka⟩ := F3.rebase []
    refine k a s3 lm t0 (la1.trans la) (Nat.le_trans F.le.tk ht1) (Nat.lt_of_lt_of_le ht2 (Nat.le_trans g2 (ht3 ▸ la.tk))) (b3.at fun o e => ka lm o hmf (by simp) e) (Fa.has (Has.trans ?_ b2))
    exact fun x v e => Picks.all (m := [(Str.ofString "made", .ref lm), (Str.ofString "row", .ref lr), (Str.ofString "names", p2), (Str.ofString "mates", p3), (Str.ofString "dresses", p4), (Str.ofString "signs", p5), (Str.ofString "numbers", p6)]) (m' := [(Str.ofString "made", .ref lm), (Str.ofString "names", p2), (Str.ofString "mates", p3), (Str.ofString "dresses", p4), (Str.ofString "signs", p5), (Str.ofString "numbers", p6)]) ⟨rfl, rfl, rfl, rfl, rfl, rfl, trivial⟩ e
end
end Mine
end

section
open PySem PySem.W PyProof.Rows PySem.Calls
namespace Mine
theorem compTurn_two0 (elt t0 i0 t1 i1 : Expr) (scope : Scope) (pos : Pos) (it acc : Value) (env : Env) :
    compTurn (.ListComp elt [⟨t0, i0, [], 0⟩, ⟨t1, i1, [], 0⟩] scope pos) 0 it acc env = (standAt i0.pos >>= fun _ => pyNext it >>= fun r => match r with
      | none => pure (.done .next)
      | some v => letOwnedTupleGo t0 it v >>= fun _ => assign t0 env v >>= fun _ =>
        eval i1 env >>= fun x => standAt i1.pos >>= fun _ => foldedSetIterable i1 env x >>= fun x => holding [x] (pyIter x) >>= fun it1 =>
          runOwn (.compStart (.ListComp elt [⟨t0, i0, [], 0⟩, ⟨t1, i1, [], 0⟩] scope pos) 1 it1 acc env) env >>= fun _ =>
          again (.compLoop (.ListComp elt [⟨t0, i0, [], 0⟩, ⟨t1, i1, [], 0⟩] scope pos) 0 it acc env)) := by rfl
theorem compTurn_two1 (elt t0 i0 t1 i1 : Expr) (scope : Scope) (pos : Pos) (it acc : Value) (env : Env) :
    compTurn (.ListComp elt [⟨t0, i0, [], 0⟩, ⟨t1, i1, [], 0⟩] scope pos) 1 it acc env = (standAt i1.pos >>= fun _ => pyNext it >>= fun r => match r with
      | none => pure (.done .next)
      | some v => letOwnedTupleGo t1 it v >>= fun _ => assign t1 env v >>= fun _ =>
        (eval elt env >>= fun x => call (.builtin "list.append") [acc, x] >>= fun _ => pure ()) >>= fun _ =>
          again (.compLoop (.ListComp elt [⟨t0, i0, [], 0⟩, ⟨t1, i1, [], 0⟩] scope pos) 1 it acc env)) := by rfl

section
variable {prog : Program} {w : World} {A : Around} {E : Value → Shared → Prop} {R : Result → Shared → Prop} {s : Shared}
theorem two_loop1 {elt t0 i0 t1 i1 : Expr} {scope : Scope} {pos : Pos} {it acc : Value} {env : Env} (I : Nat → Shared → Prop)
    (turn : ∀ n s, I n s → wpAny (model prog w) A (pyNext it) (fun r s₁ => match r with
      | none => R (.ok .next) s₁
      | some v => wpAny (model prog w) A (assign t1 env v) (fun _ s₂ => wpAny (model prog w) A (eval elt env) (fun x s₃ =>
          wpAny (model prog w) A (call (.builtin "list.append") [acc, x]) (fun _ s₄ => ∃ m, m < n ∧ I m s₄) (notedBy (model prog w) A env fun e s' => R (.error e) s') s₃)
          (notedBy (model prog w) A env fun e s' => R (.error e) s') s₂) (notedBy (model prog w) A env fun e s' => R (.error e) s') s₁) (notedBy (model prog w) A env fun e s' => R (.error e) s') s)
    (n : Nat) (h : I n s) (ht : ∀ v, letOwnedTupleGo t1 it v = pure () := by intro _; rfl) :
    codeAny (model prog w) A (.compLoop (.ListComp elt [⟨t0, i0, [], 0⟩, ⟨t1, i1, [], 0⟩] scope pos) 1 it acc env) R s := by
  refine codeAny_loop rfl I (fun n s hI => ?_) n h
  show wpAny _ _ ((compTurn (.ListComp elt [⟨t0, i0, [], 0⟩, ⟨t1, i1, [], 0⟩] scope pos) 1 it acc env).onRaise (fun x => do noteFrame x env; theTreesLotGoes x)) _ _ s
  refine wpAny_noted ?_
  rw [compTurn_two1]
  refine wpAny_bind (wpAny_standAt (wpAny_bind (wpAny_mono (turn n s hI) (fun r s₁ h₁ => ?_) fun _ _ h' => h')))
  cases r with
  | none => exact wpAny_pure h₁
  | some v =>
    refine wpAny_bind (wpAny_of_eq (ht v) ?_)
    exact wpAny_bind (wpAny_mono h₁ (fun _ s₂ h₂ => wpAny_bind (wpAny_bind (wpAny_mono h₂ (fun x s₃ h₃ => wpAny_bind (wpAny_mono h₃
      (fun _ s₄ h₄ => wpAny_pure (wpAny_pure ⟨rfl, h₄⟩)) fun _ _ h' => h')) fun _ _ h' => h'))) fun _ _ h' => h')
theorem two_start1 {elt t0 i0 t1 i1 scope pos it acc env}
    (h0 : codeAny (model prog w) A (.compLoop (.ListComp elt [⟨t0, i0, [], 0⟩, ⟨t1, i1, [], 0⟩] scope pos) 1 it acc env) R s)
    (h : wpAny (model prog w) A (pyIter it) (fun it' s' => codeAny (model prog w) A (.compLoop (.ListComp elt [⟨t0, i0, [], 0⟩, ⟨t1, i1, [], 0⟩] scope pos) 1 it' acc env) R s')
      (notedBy (model prog w) A env fun x s' => R (.error x) s') s) :
    codeAny (model prog w) A (.compStart (.ListComp elt [⟨t0, i0, [], 0⟩, ⟨t1, i1, [], 0⟩] scope pos) 1 it acc env) R s := by
  refine codeAny_of_tree ?_
  show wpAny _ _ ((compStart (.ListComp elt [⟨t0, i0, [], 0⟩, ⟨t1, i1, [], 0⟩] scope pos) 1 it acc env).onRaise (fun x => do noteFrame x env; standAt theWindowsPlace)) _ _ s
  refine wpAny_notedAt ?_
  unfold compStart
  show wpAny _ _ (ask >>= _) _ _ s
  refine wpAny_bind (wpAny_askSetting (wpAny_ite ?_))
  split
  · first
      | exact wpAny_bind (wpAny_pure (wpAny_pure (And.intro rfl h0)))
      | exact wpAny_pure (And.intro rfl h0)
  · first
      | exact wpAny_bind (wpAny_rule (wpAny_bind (wpAny_standAt (wpAny_bind (wpAny_mono h (fun it' s' h' => wpAny_pure (And.intro rfl h')) fun _ _ x => x)))))
      | (refine wpAny_bind (wpAny_rule ?_); show wpAny _ _ (standAt i1.pos >>= _) _ _ s; exact wpAny_bind (wpAny_standAt (wpAny_bind (wpAny_mono h (fun it' s' h' => wpAny_pure (And.intro rfl h')) fun _ _ x => x))))
theorem two_loop0 {elt t0 i0 t1 i1 : Expr} {scope : Scope} {pos : Pos} {it acc : Value} {env : Env} (I : Nat → Shared → Prop)
    (turn : ∀ n s, I n s → wpAny (model prog w) A (pyNext it) (fun r s₁ => match r with
      | none => R (.ok .next) s₁
      | some v => wpAny (model prog w) A (assign t0 env v) (fun _ s₂ => wpAny (model prog w) A (eval i1 env) (fun x s₃ =>
          wpAny (model prog w) A (pyIter x) (fun it1 s₄ => codeAny (model prog w) (A.mark none) (.compStart (.ListComp elt [⟨t0, i0, [], 0⟩, ⟨t1, i1, [], 0⟩] scope pos) 1 it1 acc env)
            (fun r s' => match r with | .ok _ => ∃ m, m < n ∧ I m s' | .error e => cameBackBy (model prog w) A env (notedBy (model prog w) A env fun e s' => R (.error e) s') e s') s₄) (notedBy (model prog w) A env fun e s' => R (.error e) s') s₃)
          (notedBy (model prog w) A env fun e s' => R (.error e) s') s₂) (notedBy (model prog w) A env fun e s' => R (.error e) s') s₁) (notedBy (model prog w) A env fun e s' => R (.error e) s') s)
    (n : Nat) (h : I n s) (ht : ∀ v, letOwnedTupleGo t0 it v = pure () := by intro _; rfl) (hs : ∀ x, foldedSetIterable i1 env x = pure x := by intro _; rfl) :
    codeAny (model prog w) A (.compLoop (.ListComp elt [⟨t0, i0, [], 0⟩, ⟨t1, i1, [], 0⟩] scope pos) 0 it acc env) R s := by
  refine codeAny_loop rfl I (fun n s hI => ?_) n h
  show wpAny _ _ ((compTurn (.ListComp elt [⟨t0, i0, [], 0⟩, ⟨t1, i1, [], 0⟩] scope pos) 0 it acc env).onRaise (fun x => do noteFrame x env; theTreesLotGoes x)) _ _ s
  refine wpAny_noted ?_
  rw [compTurn_two0]
  refine wpAny_bind (wpAny_standAt (wpAny_bind (wpAny_mono (turn n s hI) (fun r s₁ h₁ => ?_) fun _ _ h' => h')))
  cases r with
  | none => exact wpAny_pure h₁
  | some v =>
    refine wpAny_bind (wpAny_of_eq (ht v) ?_)
    refine wpAny_bind (wpAny_mono h₁ (fun _ s₂ h₂ => wpAny_bind (wpAny_mono h₂ (fun x s₃ h₃ => wpAny_bind (wpAny_standAt (wpAny_bind (wpAny_of_eq (hs x) (wpAny_bind (wpAny_holding (wpAny_mono h₃ (fun it1 s₄ h₄ => ?_) fun _ _ h' => h'))))))) fun _ _ h' => h')) fun _ _ h' => h')
    exact wpAny_bind (wpAny_runOwn (codeAny_mono h₄ fun r s' hr => by
      cases r with
      | ok f => exact wpAny_pure ⟨rfl, hr⟩
      | error e => exact hr))
end
end Mine
end

section
open PySem PySem.W PyProof.Rows PySem.Calls
namespace Mine
/-- the elements of the first i turns -/
noncomputable def outs (g : Nat → Nat → List Value) (n1 : Nat) : Nat → List (List Value)
  | 0 => []
  | i + 1 => outs g n1 i ++ (List.range n1).map (g i)
theorem outs_len (g : Nat → Nat → List Value) (n1 : Nat) : ∀ i, (outs g n1 i).length = i * n1
  | 0 => by simp [outs]
  | i + 1 => by rw [outs, List.length_append, outs_len g n1 i, List.length_map, List.length_range, Nat.succ_mul]
noncomputable def Rows2 (X : List Addr) (h : Heap) (vs : List Value) (xs : List (List Value)) : Prop := All2 (fun v x => ∃ l, v = .ref l ∧ l ∉ X ∧ h.PlainList l x.toArray) vs xs
theorem Rows2.at {X Y : List Addr} {h h' : Heap} {vs xs} (r : Rows2 X h vs xs) (k : ∀ b o, b ∉ X → h.get? b = some o → h'.get? b = some o) (hY : ∀ b ∈ Y, b ∈ X) : Rows2 Y h' vs xs :=
  All2.mono r fun v x zq0 => (by obtain ⟨l, e, hl, hp⟩ := zq0; exact ⟨l, e, fun q => hl (hY _ q), hp.at fun o e => k l o hl e⟩)
noncomputable def Ex (L : List Addr) (h : Heap) : Prop := ∀ b ∈ L, ∃ o, h.get? b = some o
theorem Ex.at {L : List Addr} {h h' : Heap} (x : Ex L h) (k : ∀ b ∈ L, (∀ o, h.get? b = some o → h'.get? b = some o) ∨ ∃ o, h'.get? b = some o) : Ex L h' := fun b hb => (k b hb).elim (fun z => (by obtain ⟨o, e⟩ := x b hb; exact ⟨o, z o e⟩)) id
section
variable {prog : Program} {w : World} {A : Around} {s₀ s s' : Shared} {env : Env} {m : Mp} {E : Value → Shared → Prop}
set_option maxHeartbeats 4000000 in
theorem comp2_run {elt i0 i1 : Expr} {x0 x1 : Str} {px0 px1 : Pos} {scope : Scope} {cl : List (Str × Addr)} {pos : Pos} {I : Addr} {fp wr : List Addr} {n n1 : Nat} {P P1 : Nat → Value → Prop} {St : Nat → Heap → Prop} {s₂ : Shared} {Z : List Addr} (hZ : ∀ b ∈ Z, ∃ o, s₀.heap.get? b = some o)
    (W : Walks prog w A I fp wr n P St) (hsz : n * n1 ≤ sizeLine) (g : Nat → Nat → List Value) {RR : Value → Addr → Result → Shared → Prop}
    (hcell : ∀ y ∈ scope.names, y.2 ≠ .cell) (hkind : scope.kind = .function) (hx0 : scope.names.lookup x0 = some .local) (hx1 : scope.names.lookup x1 = some .local) (h01 : x0 ≠ x1)
    (l : Le s₀ s₂) (hst : St 0 s₂.heap) (hwr : ∀ b ∈ wr, s₀.heap.get? b = none) (hfp : ∀ b ∈ fp, ∃ o, s₂.heap.get? b = some o) (hwx : ∀ i h, St i h → ∀ b ∈ wr, ∃ o, h.get? b = some o)
    (hin : ∀ C i v s, i < n → P i v → Le s₀ s → (∃ mc, s.heap.Ns C mc ∧ mc x0 = some v) → PT prog w A s (eval i1 (compEnvC scope cl C env)) (fun y s' => Src prog w A s' y [] n1 P1))
    (hturn : ∀ C i v j u s, i < n → P i v → j < n1 → P1 j u → Le s₀ s → (∃ mc, s.heap.Ns C mc ∧ mc x0 = some v ∧ mc x1 = some u) →
      PT prog w A s (eval elt (compEnvC scope cl C env)) (fun y s' => ∃ l, y = .ref l ∧ s.heap.get? l = none ∧ s'.heap.PlainList l (g i j).toArray))
    (hs1 : ∀ env x, foldedSetIterable i1 env x = pure x)
    (hRR : ∀ D C X vs s' mc, Le s₀ s' → s₀.heap.get? D = none → s'.heap.PlainList D (vs : List Value).toArray → Rows2 X s'.heap vs (outs g n1 n) → D ∈ X → s₀.heap.get? C = none → (∀ b ∈ Z, b ∈ X) → C ∈ X → C ≠ D → s'.heap.Ns C mc → RR (.ref D) C (.ok .next) s') :
    wpAny (model prog w) A (newList []) (fun acc s₃ => wpAny (model prog w) A (newFunctionEnv scope env.globals cl [] env.qual none .none (some env)) (fun cenv s₄ =>
      codeAny (model prog w) A (.compStart (.ListComp elt [⟨.Name x0 px0, i0, [], 0⟩, ⟨.Name x1 px1, i1, [], 0⟩] scope pos) 0 (.ref I) acc { cenv with scope := relabel scope env }) (RR acc cenv.locals) s₄) E s₃) E s₂ := by
  refine wpAny_newObj_type (wpAny_newFunctionEnv hcell (by intro y hy; simp at hy) (fun h₁ hns₁ hsb₁ => ?_) hkind)
  dsimp only at hns₁ hsb₁ ⊢
  generalize hH2 : s₂.heap.push { cls := .type "list", dict := none, data := .seq ([] : List Value).toArray } = H2 at hns₁ hsb₁ ⊢
  have hC : H2.objs.size = s₂.heap.objs.size + 1 := by rw [← hH2, Heap.size_push]
  have hDC : s₂.heap.objs.size ≠ H2.objs.size := by rw [hC]; exact Nat.ne_of_lt (Nat.lt_succ_self _)
  have below : ∀ b, b < s₂.heap.objs.size → b ≠ H2.objs.size ∧ b ≠ s₂.heap.objs.size := fun b hb => ⟨by rw [hC]; exact Nat.ne_of_lt (Nat.lt_succ_of_lt hb), Nat.ne_of_lt hb⟩
  have hfp' : ∀ b ∈ fp, b < s₂.heap.objs.size := fun b hb => (by obtain ⟨o, e⟩ := hfp b hb; exact Heap.lt_size e)
  have hDf : s₂.heap.objs.size ∉ fp := fun hm => Nat.lt_irrefl _ (hfp' _ hm)
  have hCf : H2.objs.size ∉ fp := fun hm => by have := hfp' _ hm; rw [hC] at this; exact Nat.lt_irrefl _ (Nat.lt_of_succ_lt this)
  have old : ∀ b o, s₂.heap.get? b = some o → h₁.get? b = some o := fun b o e => hsb₁.extBut b o (below b (Heap.lt_size e)).1 (Heap.get?_push_of_some _ (hH2 ▸ Heap.get?_push_of_some _ e))
  have hacc : h₁.PlainList s₂.heap.objs.size #[] := ⟨_, hsb₁.extBut _ _ hDC (Heap.get?_push_of_some _ (hH2 ▸ Heap.get?_push_size _ rfl))⟩
  have hst₁ : St 0 h₁ := W.frame _ _ _ hst fun b _ o e => old b o e
  have fresh : ∀ a, s₂.heap.objs.size ≤ a → s₀.heap.get? a = none := fun a ha => none_le l (new_none _ _ ha)
  generalize hDD : s₂.heap.objs.size = D at *
  generalize hCC : H2.objs.size = C at *
  have hX0 : ∀ b ∈ D :: C :: wr, s₀.heap.get? b = none := fun b hb => by
    rcases List.mem_cons.mp hb with rfl | hb
    · exact fresh _ (Nat.le_refl _)
    · rcases List.mem_cons.mp hb with rfl | hb
      · exact fresh _ (by rw [hC]; exact Nat.le_succ _)
      · exact hwr b hb
  have hDC' : D ≠ C := hDC
  have hD0 : s₀.heap.get? D = none := hX0 _ (.head _)
  have hC0 : s₀.heap.get? C = none := hX0 _ (List.mem_cons_of_mem _ (.head _))
  have hDw : D ∉ wr := fun h => hDf (W.sub _ h)
  have hCw : C ∉ wr := fun h => hCf (W.sub _ h)
  have hDX : D ∈ D :: C :: (wr ++ Z) := .head _
  have hCX : C ∈ D :: C :: (wr ++ Z) := List.mem_cons_of_mem _ (.head _)
  have hwX : ∀ b ∈ wr, b ∈ D :: C :: (wr ++ Z) := fun b hb => List.mem_cons_of_mem _ (List.mem_cons_of_mem _ (List.mem_append_left _ hb))
  have hZX : ∀ b ∈ Z, b ∈ D :: C :: (wr ++ Z) := fun b hb => List.mem_cons_of_mem _ (List.mem_cons_of_mem _ (List.mem_append_right _ hb))
  have hXin : ∀ b ∈ D :: C :: (wr ++ Z), b ∈ D :: C :: fp ∨ b ∈ Z := fun b q => by
    rcases List.mem_cons.mp q with rfl | q
    · exact .inl (.head _)
    · rcases List.mem_cons.mp q with rfl | q
      · exact .inl (List.mem_cons_of_mem _ (.head _))
      · exact (List.mem_append.mp q).imp (fun q => List.mem_cons_of_mem _ (List.mem_cons_of_mem _ (W.sub _ q))) id
  generalize hXX : D :: C :: (wr ++ Z) = X at *
  have hS : ∀ s₃ : Shared, s₃ = { s₂ with heap := h₁, toks := s₂.toks + ([] : List (Str × Value)).length } → Le s₀ s₃ := by
    rintro s₃ rfl
    exact l.trans (.of_same (fun b o e => old b o e) rfl rfl)
  have loop : ∀ s₃ : Shared, s₃ = { s₂ with heap := h₁, toks := s₂.toks + ([] : List (Str × Value)).length } →
      codeAny (model prog w) A (.compLoop (.ListComp elt [⟨.Name x0 px0, i0, [], 0⟩, ⟨.Name x1 px1, i1, [], 0⟩] scope pos) 0 (.ref I) (.ref D) (compEnvC scope cl C env)) (RR (.ref D) C) s₃ := by
    intro s₃ hs₃
    obtain ⟨I0, hI0⟩ : ∃ I : Nat → Shared → Prop, ∀ k s', I k s' ↔ ∃ i vs mc, i ≤ n ∧ k = n + 1 - i ∧ Le s₀ s' ∧ s'.heap.Ns C mc ∧ s'.heap.PlainList D (vs : List Value).toArray ∧ Rows2 X s'.heap vs (outs g n1 i) ∧ St i s'.heap ∧ Ex (D :: C :: fp) s'.heap := ⟨_, fun _ _ => Iff.rfl⟩
    refine two_loop0 I0 ?_ (n + 1)
      ((hI0 _ _).mpr ⟨0, [], _, Nat.zero_le _, rfl, hS s₃ hs₃, by rw [hs₃]; exact hns₁, by rw [hs₃]; exact hacc, .nil, by rw [hs₃]; exact hst₁, ?_⟩) (hs := hs1 _)
    · intro k s' hIk
      generalize (notedBy (model prog w) A (compEnvC scope cl C env) fun e s' => RR (Value.ref D) C (.error e) s') = E1
      generalize hcb : (fun (e : Value) (s' : Shared) => cameBackBy (model prog w) A (compEnvC scope cl C env) E1 e s') = E2
      obtain ⟨i, vs, mc, hi, hk0, l', hn, hpl, hall, hst', hex⟩ := (hI0 k s').mp hIk
      by_cases hlt : i < n
      · refine wp_tk (W.item i s' _ _ hlt hst' fun v h' tk hP hst'' hk htk => ?_)
        refine wpAny_assign_Name (wpAny_storeName_local (env := compEnvC scope cl C env) (lookup_relabel_local hx0) (hn.at' fun o e => hk _ o hCw e) (fun h₂ hn₂ hs₂ => ?_) (by simp [compEnvC, relabel, hkind]))
        have hk₂ : ∀ b o, b ≠ C → b ∉ wr → s'.heap.get? b = some o → h₂.get? b = some o := fun b o h1 h2 e => hs₂.extBut b o h1 (hk b o h2 e)
        have lA : Le s₀ { s' with heap := h₂, toks := tk + 1 } := ⟨fun b o e => hk₂ b o (fun q => by rw [q, hC0] at e; cases e) (fun q => by rw [hwr b q] at e; cases e) (l'.keep b o e), l'.gens, l'.bare, l'.os, Nat.le_trans l'.tk (Nat.le_succ_of_le htk)⟩
        have hst₂ : St (i + 1) h₂ := W.frame _ _ _ hst'' fun b hb o e => hs₂.extBut b o (fun q => hCf (by rw [show b = C from q] at hb; exact hb)) e
        have hexA : Ex (D :: C :: fp) h₂ := hex.at fun b hb => by
          by_cases q : b = C
          · obtain ⟨o, _, _, e, _⟩ := hn₂; exact .inr ⟨o, by rw [q]; exact e⟩
          · by_cases q2 : b ∈ wr
            · exact .inr (hwx _ _ hst₂ b q2)
            · exact .inl fun o e => hk₂ b o q q2 e
        have hplA : h₂.PlainList D vs.toArray := hpl.at fun o e => hk₂ D o hDC' hDw e
        have hallA : Rows2 X h₂ vs (outs g n1 i) := hall.at (fun b o hb e => hk₂ b o (fun q => hb (q ▸ hCX)) (fun q => hb (hwX b q)) e) fun _ q => q
        refine (hin C i v { s' with heap := h₂, toks := tk + 1 } hlt hP lA ⟨_, hn₂, by simp⟩).use fun y s₃ l₃ hsrc => ?_
        refine hsrc _ _ fun I1 fp1 wr1 St1 s₄ l₄ W1 st1 hwr1 hfp1 _ hwx1 => ?_
        have l4 : Le { s' with heap := h₂, toks := tk + 1 } s₄ := l₃.trans l₄
        have hex4 : Ex (D :: C :: fp) s₄.heap := fun b hb => (by obtain ⟨o, e⟩ := hexA b hb; exact ⟨o, l4.keep b o e⟩)
        have hn4 := hn₂.keeps l4.keep
        have hpl4 : s₄.heap.PlainList D vs.toArray := hplA.at fun o e => l4.keep D o e
        have hst4 : St (i + 1) s₄.heap := W.frame _ _ _ hst₂ fun b hb o e => l4.keep b o e
        have hw1 : ∀ b, (∃ o, s₃.heap.get? b = some o) → b ∉ wr1 := fun b zq1 q => by obtain ⟨o, e⟩ := zq1; rw [hwr1 b q] at e; cases e
        have hw1f : ∀ b ∈ D :: C :: fp, b ∉ wr1 := fun b hb => hw1 b ((by obtain ⟨o, e⟩ := hexA b hb; exact ⟨o, l₃.keep b o e⟩))
        have hw1X : ∀ b ∈ X, b ∉ wr1 := fun b hb => (hXin b hb).elim (hw1f b) fun q => hw1 b ((by obtain ⟨o, e⟩ := hZ b q; exact ⟨o, (lA.trans l₃).keep b o e⟩))
        have hw10 : ∀ b ∈ wr1, s₀.heap.get? b = none := fun b hb => none_le (lA.trans l₃) (hwr1 b hb)
        have hfw1 : ∀ b ∈ fp1, b ∈ wr1 := fun b hb => (hfp1 b hb).elim id fun q => nomatch q
        have hall4 : Rows2 (X ++ wr1) s₄.heap vs (outs g n1 i ++ (List.range 0).map (g i)) := by
          rw [List.range_zero, List.map_nil, List.append_nil]
          refine All2.mono hallA fun v x zq2 => (by obtain ⟨l, e, hl, hp⟩ := zq2; exact ⟨l, e, fun q => (List.mem_append.mp q).elim hl (hw1 l ((by obtain ⟨nn, e⟩ := hp; exact ⟨_, l₃.keep l _ e⟩))), hp.at fun o e => l4.keep l o e⟩)
        have loop1 : codeAny (model prog w) (A.mark none) (.compLoop (.ListComp elt [⟨.Name x0 px0, i0, [], 0⟩, ⟨.Name x1 px1, i1, [], 0⟩] scope pos) 1 (.ref I1) (.ref D) (compEnvC scope cl C env))
            (fun r s' => match r with
              | .ok _ => ∃ m, m < k ∧ I0 m s'
              | .error e => cameBackBy (model prog w) A (compEnvC scope cl C env) E1 e s') s₄ := by
          obtain ⟨I1', hI1⟩ : ∃ I : Nat → Shared → Prop, ∀ k s', I k s' ↔ ∃ j vs mc, j ≤ n1 ∧ k = n1 + 1 - j ∧ Le s₀ s' ∧ s'.heap.Ns C mc ∧ mc x0 = some v ∧ s'.heap.PlainList D (vs : List Value).toArray ∧ Rows2 (X ++ wr1) s'.heap vs (outs g n1 i ++ (List.range j).map (g i)) ∧ St (i + 1) s'.heap ∧ St1 j s'.heap ∧ Ex (D :: C :: fp) s'.heap ∧ Ex wr1 s'.heap := ⟨_, fun _ _ => Iff.rfl⟩
          refine two_loop1 (A := A) I1' ?_ (n1 + 1)
            ((hI1 _ _).mpr ⟨0, vs, _, Nat.zero_le _, rfl, lA.trans l4, hn4, by simp, hpl4, hall4, hst4, st1, hex4, hwx1 _ _ st1⟩)
          intro k1 s5 hIk1
          obtain ⟨j, us, mc5, hj, hk1, l5, hn5, hm5, hpl5, hall5, hst5, hst15, hex5, hex15⟩ := (hI1 k1 s5).mp hIk1
          by_cases hlt1 : j < n1
          · refine wp_tk (W1.item j s5 _ _ hlt1 hst15 fun u h6 tk6 hP1 hst16 hk6 htk6 => ?_)
            refine wpAny_assign_Name (wpAny_storeName_local (env := compEnvC scope cl C env) (lookup_relabel_local hx1) (hn5.at' fun o e => hk6 _ o (hw1f C (List.mem_cons_of_mem _ (.head _))) e) (fun h7 hn7 hs7 => ?_) (by simp [compEnvC, relabel, hkind]))
            have hk7 : ∀ b o, b ≠ C → b ∉ wr1 → s5.heap.get? b = some o → h7.get? b = some o := fun b o h1 h2 e => hs7.extBut b o h1 (hk6 b o h2 e)
            have l7 : Le s₀ { s5 with heap := h7, toks := tk6 + 1 } := ⟨fun b o e => hk7 b o (fun q => by rw [q, hC0] at e; cases e) (fun q => by rw [hw10 b q] at e; cases e) (l5.keep b o e), l5.gens, l5.bare, l5.os, Nat.le_trans l5.tk (Nat.le_succ_of_le htk6)⟩
            have hst7 : St1 (j + 1) h7 := W1.frame _ _ _ hst16 fun b hb o e => hs7.extBut b o (fun q => hw1f C (List.mem_cons_of_mem _ (.head _)) (by rw [show b = C from q] at hb; exact hfw1 _ hb)) e
            have hstO7 : St (i + 1) h7 := W.frame _ _ _ hst5 fun b hb o e => hk7 b o (fun q => hCf (by rw [show b = C from q] at hb; exact hb)) (hw1f b (List.mem_cons_of_mem _ (List.mem_cons_of_mem _ hb))) e
            have hex7 : Ex (D :: C :: fp) h7 := hex5.at fun b hb => by
              by_cases q : b = C
              · obtain ⟨o, _, _, e, _⟩ := hn7; exact .inr ⟨o, by rw [q]; exact e⟩
              · exact .inl fun o e => hk7 b o q (hw1f b hb) e
            have hex17 : Ex wr1 h7 := hwx1 _ _ hst7
            have hpl7 : h7.PlainList D us.toArray := hpl5.at fun o e => hk7 D o hDC' (hw1f D (.head _)) e
            have hall7 : Rows2 (X ++ wr1) h7 us (outs g n1 i ++ (List.range j).map (g i)) := hall5.at (fun b o hb e => hk7 b o (fun q => hb (List.mem_append_left _ (q ▸ hCX))) (fun q => hb (List.mem_append_right _ q)) e) fun _ q => q
            have hx0m : (if x0 = x1 then some u else mc5 x0) = some v := by rw [if_neg h01]; exact hm5
            refine (hturn C i v j u { s5 with heap := h7, toks := tk6 + 1 } hlt hP hlt1 hP1 l7 ⟨_, hn7, by first | exact hx0m | simpa [h01] using hm5, by simp⟩).use fun y s8 l8 hy => ?_
            obtain ⟨ly, rfl, hly0, hlyP⟩ := hy
            have hpl8 : s8.heap.PlainList D us.toArray := hpl7.at fun o e => l8.keep D o e
            have hlen : us.length = i * n1 + j := by rw [hall5.len, List.length_append, outs_len, List.length_map, List.length_range]
            have hbound : i * n1 + j ≤ n * n1 := by
              have : (i + 1) * n1 ≤ n * n1 := Nat.mul_le_mul_right _ hlt
              rw [Nat.succ_mul] at this; omega
            refine wpAny_list_append_plain (hsz := by rw [List.size_toArray]; omega) hpl8 fun h9 hp9 hs9 => ?_
            have hpe : us.toArray.push (Value.ref ly) = (us ++ [Value.ref ly]).toArray := by simp
            rw [hpe] at hp9
            have k9 : ∀ b o, b ≠ D → h7.get? b = some o → h9.get? b = some o := fun b o hb e => hs9.extBut b o hb (l8.keep b o e)
            have hlyX : ly ∉ X ++ wr1 := fun q => by
              have : ∃ o, h7.get? ly = some o := (List.mem_append.mp q).elim (fun q => (hXin ly q).elim (hex7 ly) fun q => (by obtain ⟨o, e⟩ := hZ ly q; exact ⟨o, l7.keep ly o e⟩)) (hex17 ly)
              obtain ⟨o, e⟩ := this
              have e' : h7.get? ly = none := hly0
              rw [e'] at e; cases e
            refine ⟨n1 + 1 - (j + 1), cd_lt hk1 hlt1, (hI1 _ _).mpr ⟨j + 1, us ++ [Value.ref ly], _, hlt1, rfl, ?_, (hn7.keeps l8.keep).extBut hs9.extBut (Ne.symm hDC'), by first | exact hx0m | simpa [h01] using hm5, hp9, ?_, W.frame _ _ _ hstO7 fun b hb o e => k9 b o (fun q => hDf (q ▸ hb)) e, W1.frame _ _ _ hst7 fun b hb o e => k9 b o (fun q => hw1f D (.head _) (by rw [show b = D from q] at hb; exact hfw1 _ hb)) e, ?_, ?_⟩⟩
            · have lx := l7.trans l8
              exact ⟨fun b o e => hs9.extBut b o (fun q => by rw [q, hD0] at e; cases e) (lx.keep b o e), lx.gens, lx.bare, lx.os, lx.tk⟩
            · rw [List.range_succ, List.map_append, ← List.append_assoc]
              exact All2.snoc (hall7.at (fun b o hb e => k9 b o (fun q => hb (List.mem_append_left _ (q ▸ hDX))) e) fun _ q => q) ⟨ly, rfl, hlyX, hlyP.at fun o e => hs9.extBut ly o (fun q => hlyX (List.mem_append_left _ (q ▸ hDX))) e⟩
            · refine hex7.at fun b hb => ?_
              by_cases q : b = D
              · obtain ⟨nn, e⟩ := hp9; exact .inr ⟨_, by rw [q]; exact e⟩
              · exact .inl fun o e => k9 b o q e
            · refine hex17.at fun b hb => .inl fun o e => k9 b o (fun q => hw1f D (.head _) (q ▸ hb)) e
          · have hjn : n1 = j := (end_eq hj hlt1).symm
            clear hIk1
            subst hjn
            refine wp_tk (W1.done s5 _ _ hst15 fun h6 tk6 hk6 htk6 => ?_)
            refine ⟨n + 1 - (i + 1), cd_lt hk0 hlt, (hI0 _ _).mpr ⟨i + 1, us, mc5, hlt, rfl, ⟨fun b o e => hk6 b o (fun q => by rw [hw10 b q] at e; cases e) (l5.keep b o e), l5.gens, l5.bare, l5.os, Nat.le_trans l5.tk htk6⟩, hn5.at' fun o e => hk6 _ o (hw1f C (List.mem_cons_of_mem _ (.head _))) e, hpl5.at fun o e => hk6 _ o (hw1f D (.head _)) e, ?_, W.frame _ _ _ hst5 fun b hb o e => hk6 b o (hw1f b (List.mem_cons_of_mem _ (List.mem_cons_of_mem _ hb))) e, hex5.at fun b hb => .inl fun o e => hk6 b o (hw1f b hb) e⟩⟩
            exact hall5.at (fun b o hb e => hk6 b o (fun q => hb (List.mem_append_right _ q)) e) fun _ q => List.mem_append_left _ q
        exact two_start1 loop1 (W1.self 0 _ _ _ st1 loop1)
      · have hin' : n = i := (end_eq hi hlt).symm
        clear hIk
        subst hin'
        refine wp_tk (W.done s' _ _ hst' fun h' tk hk htk => ?_)
        refine hRR D C X vs _ mc ⟨fun b o e => hk b o (fun q => by rw [hwr b q] at e; cases e) (l'.keep b o e), l'.gens, l'.bare, l'.os, Nat.le_trans l'.tk htk⟩ hD0 (hpl.at fun o e => hk _ o hDw e) (hall.at (fun b o hb e => hk b o (fun q => hb (hwX b q)) e) fun _ q => q) hDX hC0 hZX hCX (Ne.symm hDC) (hn.at' fun o e => hk _ o hCw e)
    · intro b hb
      rw [hs₃]
      rcases List.mem_cons.mp hb with rfl | hb
      · obtain ⟨n, e⟩ := hacc; exact ⟨_, e⟩
      · rcases List.mem_cons.mp hb with rfl | hb
        · obtain ⟨o, _, _, e, _⟩ := hns₁; exact ⟨o, e⟩
        · obtain ⟨o, e⟩ := hfp b hb
          exact ⟨o, old b o e⟩
  exact codeAny_compStart_list (loop _ rfl) (W.self 0 _ _ _ hst₁ (loop _ rfl))

/-- y = [a comprehension of two clauses, of new lists] -/
theorem wp_assign_comp2 {elt i0 i1 : Expr} {x0 x1 y : Str} {px0 px1 py pos spos : Pos} {scope : Scope} {cl : List (Str × Addr)} {n n1 : Nat} {P P1 : Nat → Value → Prop} {PI : Value → Shared → Prop} {rest : List Stmt} {Q : Flow → Shared → Prop} (g : Nat → Nat → List Value) (Z : List Addr) (hZ : ∀ b ∈ Z, ∃ o, s.heap.get? b = some o)
    (F : Fm s₀ env m s)
    (hi : PT prog w A s (eval i0 env) PI) (hsrc : ∀ v s₁, Le s s₁ → PI v s₁ → ∃ src, Src prog w A s₁ v src n P) (hsz : n * n1 ≤ sizeLine)
    (hin : ∀ C i v s₁, i < n → P i v → Le s s₁ → (∃ mc, s₁.heap.Ns C mc ∧ mc x0 = some v) → PT prog w A s₁ (eval i1 (compEnvC scope cl C env)) (fun y s' => Src prog w A s' y [] n1 P1))
    (hturn : ∀ C i v j u s₁, i < n → P i v → j < n1 → P1 j u → Le s s₁ → (∃ mc, s₁.heap.Ns C mc ∧ mc x0 = some v ∧ mc x1 = some u) →
      PT prog w A s₁ (eval elt (compEnvC scope cl C env)) (fun y s' => ∃ l, y = .ref l ∧ s₁.heap.get? l = none ∧ s'.heap.PlainList l (g i j).toArray))
    (k : ∀ D vs X s₂, s.heap.get? D = none → D ∈ X → s₂.heap.PlainList D (vs : List Value).toArray → Rows2 X s₂.heap vs (outs g n1 n) → Fm s₀ env ((y, .ref D) :: m) s₂ → Beside env s s₂ → (∀ b ∈ fAd env, b ∈ X) → (∀ b ∈ Z, b ∈ X) → s.toks ≤ s₂.toks → wpAny (model prog w) A (execs rest env) Q E s₂)
    (hsw : swapsWith (.ListComp elt [⟨.Name x0 px0, i0, [], 0⟩, ⟨.Name x1 px1, i1, [], 0⟩] scope pos) (some (.Name y py)) spos.line env = pure true := by rfl)
    (hclos : closureFor scope env = pure cl := by rfl) (hcell : ∀ y ∈ scope.names, y.2 ≠ .cell := by decide) (hkind : scope.kind = .function := by rfl)
    (hnames : ∀ y ∈ scope.names, y.2 = .local → scope.names.lookup y.1 = some .local := by decide) (hx0 : scope.names.lookup x0 = some .local := by rfl) (hx1 : scope.names.lookup x1 = some .local := by rfl) (h01 : x0 ≠ x1 := by decide) (hy : env.kindOf y = some .local := by rfl)
    (hs : ∀ x, foldedSetIterable i0 env x = pure x := by intro _; rfl) (hs1 : ∀ env x, foldedSetIterable i1 env x = pure x := by intro _ _; rfl) :
    wpAny (model prog w) A (execs (.Assign [.Name y py] (.ListComp elt [⟨.Name x0 px0, i0, [], 0⟩, ⟨.Name x1 px1, i1, [], 0⟩] scope pos) spos :: rest) env) Q E s := by
  refine wp_cons ?_
  rw [exec_Assign_Name_used _ _ _ _ hsw]
  refine wpAny_bind (wpAny_standAt (wpAny_bind ?_))
  show wpAny _ A (do let _ ← comprehension (.ListComp elt [⟨.Name x0 px0, i0, [], 0⟩, ⟨.Name x1 px1, i1, [], 0⟩] scope pos) scope env _ (newList []) false (eval i0 env) (some (assign (.Name y py) env))) _ _ s
  refine wpAny_bind (wpAny_mono (wpAny_comprehension_free (use := some (assign (.Name y py) env)) (Q := fun _ s' => wpAny (model prog w) A (execs rest env) Q E s') rfl hs hclos hkind hnames
    (hi.use fun v s₁ l1 p1 => (hsrc v s₁ l1 p1).elim fun _ hsr => hsr _ E fun I fp wr St s₂ l2 W st0 hwr hfs hfp hwx => ?_)) (fun _ s' hq => wpAny_pure (wpAny_pure hq)) fun _ _ e => e)
  refine comp2_run (s₀ := s) (Z := fAd env ++ Z) (fun b hb => (List.mem_append.mp hb).elim (F.there b) (hZ b)) (RR := fun acc C => compPost (model prog w) A E (some (assign (.Name y py) env)) (fun _ s' => wpAny (model prog w) A (execs rest env) Q E s') acc C) W hsz g hcell hkind hx0 hx1 h01 (l1.trans l2) st0 (fun b hb => none_le l1 (hwr b hb)) hfp hwx hin hturn hs1 ?_
  intro D C X vs s' mc l' hnew hpl hall hDX hC0 hZX hCX hCD hn
  obtain ⟨hCf, hC00⟩ := F.fresh hC0
  obtain ⟨hDf, hD00⟩ := F.fresh hnew
  show wpAny _ A (assign (.Name y py) env (.ref D)) _ _ _
  refine wpAny_assign_Name (wp_tk (wp_store (F.grow l') (.inl hy) fun s₃ F₃ B₃ g₃ htk3 => ⟨mc, hn.at' fun o e => B₃ C o hCf e, fun h' hs' => ?_⟩))
  have hk : ∀ b o, b ≠ C → s₃.heap.get? b = some o → h'.get? b = some o := fun b o hb e => hs'.extBut b o hb e
  refine k D vs X { s₃ with heap := h' } hnew hDX (hpl.at fun o e => hk D o (Ne.symm hCD) (B₃ D o hDf e)) (hall.at (fun b o hb e => hk b o (fun q => hb (q ▸ hCX)) (B₃ b o (fun q => hb (hZX b (List.mem_append_left _ q))) e)) fun _ q => q)
    (F₃.mut (tk := s₃.toks) (ch := [C]) (fun b o hb e => hk b o (fun q => hb (by simp [q])) e) (fun b hb => by rw [List.mem_singleton.mp hb]; exact hC00) fun b hb => by rw [List.mem_singleton.mp hb]; exact hCf)
    (fun b o hb e => hk b o (fun q => by rw [q, hC0] at e; cases e) (B₃ b o hb (l'.keep b o e))) (fun b hb => hZX b (List.mem_append_left _ hb)) (fun b hb => hZX b (List.mem_append_right _ hb)) (Nat.le_trans l'.tk htk3)
end
end Mine
end

section
open PySem PySem.W PyProof.Rows PySem.Calls
namespace Mine
section
variable {prog : Program} {w : World} {A : Around} {s₀ s s' : Shared} {m : Mp} {env : Env} {pos : Pos} {Q : Flow → Shared → Prop} {E : Value → Shared → Prop} {L fa : Addr} {d : Nat}
/-- a loop over a range, whose word may look at any object that is neither the frame's nor the iterator -/
theorem wp_forR {x : Str} {px pos : Pos} {iter : Expr} {body rest : List Stmt} {n : Nat} {b c : Int}
    (J : Addr → Nat → Mp → Shared → Prop)
    (F : Fm s₀ env m s) (hi : PT prog w A s (eval iter env) (fun v s' => ∃ r t u x, v = .ref r ∧ IsRange s'.heap r b c 1 t u x)) (hh : A.handled = none) (hsm : Builtin.Range.small b c 1 = true) (hn : Builtin.Range.rangeSize b c 1 = n)
    (hJ : ∀ I i m s s', s.toks ≤ s'.toks → J I i m s → (∀ b o, b ∉ fAd env → b ≠ I → s.heap.get? b = some o → s'.heap.get? b = some o) → J I i m s')
    (h0 : ∀ I, s.heap.get? I = none → J I 0 m s)
    (turn : ∀ I i t a m s', i < n → s.toks ≤ t → t < a.toks → a.toks = s'.toks → Le s₀ a → (∀ b o, b ∉ fAd env → s'.heap.get? b = some o → a.heap.get? b = some o) → I ∉ fAd env → (∃ o, s'.heap.get? I = some o) → Fm a env ((x, .int (b + i) t) :: m) s' → (∃ s1, s1.toks ≤ t ∧ J I i m s1) → J I i m s' →
      wpAny (model prog w) A (execs body env) (LQ prog w A a env (J I (i + 1)) rest Q E) (fun _ _ => False) s')
    (done : ∀ I m s, Fm s₀ env m s → J I n m s → wpAny (model prog w) A (execs rest env) Q E s)
    (hx : env.kindOf x = some .local ∨ (env.kindOf x = some .cell ∧ (env.cells.lookup x).isSome = true) := by first | exact Or.inl rfl | exact Or.inr ⟨rfl, rfl⟩)
    (hs : ∀ v, foldedSetIterable iter env v = pure v := by intro _; rfl) :
    wpAny (model prog w) A (execs (.For (.Name x px) iter body [] pos :: rest) env) Q E s := by
  refine wp_cons (wpAny_For (hi.use fun v s₁ l1 p1 => ?_) hs)
  obtain ⟨r, t, u, y, rfl, hr⟩ := p1
  refine wpAny_pyIter_range hr hsm ?_
  rw [hn]
  generalize hI : s₁.heap.objs.size = I
  have hI0 : s₁.heap.get? I = none := by rw [← hI]; exact new_none _ _ (Nat.le_refl _)
  have l2 : Le s₁ { s₁ with heap := s₁.heap.push { cls := .type "range_iterator", data := .fields #[rawInt b, rawInt n, rawInt 1] } } := Le.push
  have st0 : IsRangeIter ({ s₁ with heap := s₁.heap.push { cls := .type "range_iterator", data := .fields #[rawInt b, rawInt n, rawInt 1] } } : Shared).heap I b n 1 := by
    have := Heap.get?_push_size s₁.heap (o := { cls := .type "range_iterator", data := .fields #[rawInt b, rawInt n, rawInt 1] }) rfl
    rw [hI] at this
    exact this
  generalize ({ s₁ with heap := s₁.heap.push { cls := .type "range_iterator", data := .fields #[rawInt b, rawInt n, rawInt 1] } } : Shared) = s₂ at l2 st0
  have F2 := (F.grow l1).grow l2
  have hIF : I ∉ fAd env := fun hm => by
    obtain ⟨o, ho⟩ := (F.grow l1).there I hm
    rw [hI0] at ho; cases ho
  have hI00 : s₀.heap.get? I = none := none_le (F.le.trans l1) hI0
  obtain ⟨Iv, hIv⟩ : ∃ Iq : Nat → Shared → Prop, ∀ k s', Iq k s' ↔ ∃ i m, i ≤ n ∧ k = n + 1 - i ∧ Fm s₀ env m s' ∧ J I i m s' ∧ s.toks ≤ s'.toks ∧ IsRangeIter s'.heap I (b + i) ((n : Int) - i) 1 := ⟨_, fun _ _ => Iff.rfl⟩
  refine codeAny_forLoop Iv ?_ (n + 1)
    ((hIv _ _).mpr ⟨0, m, Nat.zero_le _, rfl, F2, hJ I 0 m s s₂ (l1.trans l2).tk (h0 I (none_le l1 hI0)) fun b o _ _ e => l2.keep _ _ (l1.keep _ _ e), (l1.trans l2).tk, by simpa using st0⟩) (by intro _; rfl)
  intro k s' hIk
  obtain ⟨i, m, hin, hk0, F, hj, htk, hst⟩ := (hIv k s').mp hIk
  by_cases hlt : i < n
  · refine wpAny_pyNext_range_item hst (by omega) fun h' hst' hsb => ?_
    have hk : ∀ b o, b ≠ I → s'.heap.get? b = some o → h'.get? b = some o := fun b o hb e => hsb.extBut b o hb e
    have F' := F.mut (tk := s'.toks + 1) (ch := [I]) (fun b o hb e => hk b o (fun q => hb (by rw [q]; exact .head _)) e) (fun b hb => by rw [List.mem_singleton.mp hb]; exact hI00) (fun b hb => by rw [List.mem_singleton.mp hb]; exact hIF) (Nat.le_succ _)
    have hj' := hJ I i m s' { s' with heap := h', toks := s'.toks + 1 } (Nat.le_succ _) hj fun b o _ hb e => hk b o hb e
    refine wpAny_assign_Name (wp_tk (wp_store F' hx fun s₃ F₃ B₃ g₃ htk3 => ?_))
    have hj₃ := hJ I i m _ s₃ htk3 hj' fun b o hb _ e => B₃ b o hb e
    have hst₃ : IsRangeIter s₃.heap I (b + (i + 1 : Nat)) ((n : Int) - (i + 1 : Nat)) 1 := by
      have e1 : b + ((i + 1 : Nat) : Int) = b + i + 1 := by push_cast; omega
      have e2 : (n : Int) - ((i + 1 : Nat) : Int) = (n : Int) - i - 1 := by push_cast; omega
      rw [e1, e2]; exact B₃ _ _ hIF hst'
    have hs3 : s'.toks < s₃.toks := htk3
    refine wpAny_mono (turn I i s'.toks (anchor env [] s₃) m s₃ hlt htk hs3 rfl (anchor_ge F₃ fun b hb => nomatch hb) (fun b o hb e => anchor_get e hb (fun q => nomatch q)) hIF ⟨_, hst₃⟩ (anchor_fm F₃ []) ⟨s', Nat.le_refl _, hj⟩ hj₃) (fun fl s₄ h₄ => ?_) fun _ _ x => x.elim
    have step : (∃ m', Fm (anchor env [] s₃) env m' s₄ ∧ J I (i + 1) m' s₄) → ∃ k', k' < k ∧ Iv k' s₄ := by
      rintro ⟨m', F₄, hj₄⟩
      exact ⟨n + 1 - (i + 1), cd_lt hk0 hlt, (hIv _ _).mpr ⟨i + 1, m', hlt, rfl, F₄.weak (anchor_ge F₃ fun b hb => nomatch hb) F₃.newL F₃.newC, hj₄, Nat.le_trans htk (Nat.le_trans (Nat.le_of_lt hs3) F₄.le.tk), F₄.le.keep _ _ (anchor_get hst₃ hIF (fun q => nomatch q))⟩⟩
    cases fl with
    | next => exact step h₄
    | cont => exact step h₄
    | brk => exact h₄
    | ret v => exact h₄
  · have : n = i := (end_eq hin hlt).symm
    clear hIk
    subst this
    refine wpAny_pyNext_range_end hh hst (by omega) fun h' hk => wpAny_execs_nil ?_
    have hk' : ∀ b o, b ≠ I → s'.heap.get? b = some o → h'.get? b = some o := fun b o hb e => hk b o hb e
    have F' := F.mut (tk := s'.toks) (ch := [I]) (fun b o hb e => hk' b o (fun q => hb (by rw [q]; exact .head _)) e) (fun b hb => by rw [List.mem_singleton.mp hb]; exact hI00) (fun b hb => by rw [List.mem_singleton.mp hb]; exact hIF) (Nat.le_refl _)
    exact done I m _ F' (hJ I _ m s' { s' with heap := h', toks := s'.toks } (Nat.le_refl _) hj fun b o _ hb e => hk' b o hb e)
/-- the like over any source -/
theorem wp_forW {x : Str} {px pos : Pos} {iter : Expr} {body rest : List Stmt} {PI : Value → Shared → Prop} {n : Nat} {P : Nat → Value → Prop}
    (J : List Addr → Nat → Mp → Shared → Prop)
    (F : Fm s₀ env m s) (hi : PT prog w A s (eval iter env) PI) (hsrc : ∀ v s₁, Le s s₁ → PI v s₁ → ∃ src, Src prog w A s₁ v src n P ∧ ∀ b ∈ src, b ∉ fAd env)
    (hJ : ∀ W i m s s', s.toks ≤ s'.toks → J W i m s → (∀ b o, b ∉ fAd env → b ∉ W → s.heap.get? b = some o → s'.heap.get? b = some o) → J W i m s')
    (h0 : ∀ W, (∀ b ∈ W, s.heap.get? b = none) → J W 0 m s)
    (turn : ∀ W i v a m s', i < n → P i v → s.toks ≤ a.toks → a.toks = s'.toks → Le s₀ a → (∀ b o, b ∉ fAd env → s'.heap.get? b = some o → a.heap.get? b = some o) → (∀ b ∈ W, b ∉ fAd env) → (∀ b ∈ W, ∃ o, s'.heap.get? b = some o) → Fm a env ((x, v) :: m) s' → J W i m s' →
      wpAny (model prog w) A (execs body env) (LQ prog w A a env (J W (i + 1)) rest Q E) (fun _ _ => False) s')
    (done : ∀ W m s, Fm s₀ env m s → J W n m s → wpAny (model prog w) A (execs rest env) Q E s)
    (hx : env.kindOf x = some .local ∨ (env.kindOf x = some .cell ∧ (env.cells.lookup x).isSome = true) := by first | exact Or.inl rfl | exact Or.inr ⟨rfl, rfl⟩)
    (hs : ∀ v, foldedSetIterable iter env v = pure v := by intro _; rfl) :
    wpAny (model prog w) A (execs (.For (.Name x px) iter body [] pos :: rest) env) Q E s := by
  refine wp_cons (wpAny_For (hi.use fun v s₁ l1 p1 => (hsrc v s₁ l1 p1).elim fun src hh => hh.1 _ E fun I fp wr St s₂ l2 W st0 hwr hfp _ hwx => ?_) hs)
  have hso := hh.2
  have F2 := (F.grow l1).grow l2
  have hwrF : ∀ b ∈ wr, b ∉ fAd env := fun b hb hm => by
    obtain ⟨o, ho⟩ := (F.grow l1).there b hm
    rw [hwr b hb] at ho; cases ho
  have hwr0 : ∀ b ∈ wr, s₀.heap.get? b = none := fun b hb => none_le (F.le.trans l1) (hwr b hb)
  have hfpF : ∀ b ∈ fp, b ∉ fAd env := fun b hb => (hfp b hb).elim (fun h => hwrF b h) (hso b)
  obtain ⟨Iv, hIv⟩ : ∃ Iq : Nat → Shared → Prop, ∀ k s', Iq k s' ↔ ∃ i m, i ≤ n ∧ k = n + 1 - i ∧ Fm s₀ env m s' ∧ J wr i m s' ∧ s.toks ≤ s'.toks ∧ St i s'.heap := ⟨_, fun _ _ => Iff.rfl⟩
  refine codeAny_forLoop Iv ?_ (n + 1)
    ((hIv _ _).mpr ⟨0, m, Nat.zero_le _, rfl, F2, hJ wr 0 m s s₂ (l1.trans l2).tk (h0 wr fun b hb => none_le l1 (hwr b hb)) fun b o _ _ e => l2.keep _ _ (l1.keep _ _ e), (l1.trans l2).tk, st0⟩) (by intro _; rfl)
  intro k s' hIk
  obtain ⟨i, m, hin, hk0, F, hj, htk0, hst⟩ := (hIv k s').mp hIk
  by_cases hlt : i < n
  · refine wp_tk (W.item i s' _ _ hlt hst fun v h' tk hv hst' hk htk => ?_)
    have F' := F.mut (tk := tk) hk hwr0 hwrF htk
    have hj' := hJ wr i m s' { s' with heap := h', toks := tk } htk hj fun b o _ hb e => hk b o hb e
    refine wpAny_assign_Name (wp_tk (wp_store F' hx fun s₃ F₃ B₃ g₃ htk3 => ?_))
    have hj₃ := hJ wr i m _ s₃ htk3 hj' fun b o hb _ e => B₃ b o hb e
    have hst₃ : St (i + 1) s₃.heap := W.frame _ _ _ hst' fun b hb o e => B₃ b o (hfpF b hb) e
    have hs3 : s.toks ≤ s₃.toks := Nat.le_trans htk0 (Nat.le_trans htk htk3)
    refine wpAny_mono (turn wr i v (anchor env [] s₃) m s₃ hlt hv hs3 rfl (anchor_ge F₃ fun b hb => nomatch hb) (fun b o hb e => anchor_get e hb (fun q => nomatch q)) hwrF (hwx _ _ hst₃) (anchor_fm F₃ []) hj₃) (fun fl s₄ h₄ => ?_) fun _ _ x => x.elim
    have step : (∃ m', Fm (anchor env [] s₃) env m' s₄ ∧ J wr (i + 1) m' s₄) → ∃ k', k' < k ∧ Iv k' s₄ := by
      rintro ⟨m', F₄, hj₄⟩
      exact ⟨n + 1 - (i + 1), cd_lt hk0 hlt, (hIv _ _).mpr ⟨i + 1, m', hlt, rfl, F₄.weak (anchor_ge F₃ fun b hb => nomatch hb) F₃.newL F₃.newC, hj₄, Nat.le_trans hs3 F₄.le.tk, W.frame _ _ _ hst₃ fun b hb o e => F₄.le.keep b o (anchor_get e (hfpF b hb) (fun q => nomatch q))⟩⟩
    cases fl with
    | next => exact step h₄
    | cont => exact step h₄
    | brk => exact h₄
    | ret v => exact h₄
  · have : n = i := (end_eq hin hlt).symm
    clear hIk
    subst this
    refine wp_tk (W.done s' _ _ hst fun h' tk hk htk => wpAny_execs_nil ?_)
    exact done wr m _ (F.mut (tk := tk) hk hwr0 hwrF htk) (hJ wr _ m s' { s' with heap := h', toks := tk } htk hj fun b o _ hb e => hk b o hb e)

/-- two lists, one behind the other -/
theorem o_addL {a b : Value} {xs ys : List Value} (ha : ∃ l, a = .ref l ∧ s₀.heap.PlainList l xs.toArray) (hb : ∃ l, b = .ref l ∧ s₀.heap.PlainList l ys.toArray) (hz : xs.length + ys.length ≤ sizeLine) :
    PT prog w A s₀ (binaryOp .Add a b) (fun v s' => ∃ D, v = .ref D ∧ s₀.heap.get? D = none ∧ s'.heap.PlainList D (xs ++ ys).toArray) := by
  obtain ⟨l, rfl, n, h1⟩ := ha
  obtain ⟨l2, rfl, n2, h2⟩ := hb
  intro s Q E le q
  refine PySem.P.add_list (le.keep _ _ h1) (le.keep _ _ h2) ?_ (by simpa using hz)
  exact q _ _ (Le.push (tk := s.toks)) ⟨_, rfl, none_le le (new_none _ _ (Nat.le_refl _)), 0, by
    have := Heap.get?_push_size s.heap (o := { cls := .type "list", data := .seq (xs.toArray ++ ys.toArray) }) rfl
    simpa using this⟩
end
end Mine
end

section
open PySem PySem.W PyProof.Rows PySem.Calls
namespace Mine
/-- a new thing put behind the j+1st -/
noncomputable def insAt (k : Int) (ring : List Int) (j : Nat) : List Int := (ring.take (j + 1) ++ [k]) ++ ring.drop (j + 1)
noncomputable def ringsAt : Nat → List (List Int)
  | 0 => [[0]]
  | i + 1 => (ringsAt i).flatMap fun ring => (List.range (i + 1)).map (insAt ((i + 1 : Nat) : Int) ring)
theorem min_a {q i : Nat} (h : i < 4) : min q i ≤ 16777214 := Nat.le_trans (Nat.min_le_right _ _) (Nat.le_trans (Nat.le_of_lt h) (by decide))
theorem min_b {q i : Nat} (h : i < 4) : min q i + 1 + 1 + (i - q) ≤ 16777216 := Nat.le_trans (Nat.add_le_add (Nat.add_le_add_right (Nat.add_le_add_right (Nat.le_trans (Nat.min_le_right q i) (Nat.le_of_lt h)) 1) 1) (Nat.le_trans (Nat.sub_le i q) (Nat.le_of_lt h))) (by decide)
theorem ringsAt_mem : ∀ i, ∀ r ∈ ringsAt i, r.length = i + 1 ∧ ∀ x ∈ r, 0 ≤ x ∧ x < (i + 1 : Nat)
  | 0 => fun r h => by
    rw [List.mem_singleton.mp h]
    exact ⟨rfl, fun x hx => by rw [List.mem_singleton.mp hx]; decide⟩
  | i + 1 => fun r h => by
    obtain ⟨ring, h1, h2⟩ := List.mem_flatMap.mp h
    obtain ⟨j, hj, rfl⟩ := List.mem_map.mp h2
    obtain ⟨hl, hx⟩ := ringsAt_mem i ring h1
    have := List.mem_range.mp hj
    refine ⟨?_, fun x hm => ?_⟩
    · unfold insAt
      rw [List.length_append, List.length_append, List.length_take, List.length_drop, List.length_singleton]; (first | exact Nat.le_trans (by with_reducible assumption) (by decide) | exact Nat.lt_of_lt_of_le (by with_reducible assumption) (by decide) | exact (Int.toNat_lt (by with_reducible assumption)).mpr (by with_reducible assumption) | exact Nat.lt_of_lt_of_le (by with_reducible assumption) (by with_reducible assumption) | exact Nat.le_trans (by with_reducible assumption) (by with_reducible assumption) | exact (Int.natCast_add _ _).trans (Int.add_comm _ _) | omega)
    · unfold insAt at hm
      rcases List.mem_append.mp hm with hm | hm
      · rcases List.mem_append.mp hm with hm | hm
        · have := hx x (List.mem_of_mem_take hm); (first | exact Nat.le_trans (by with_reducible assumption) (by decide) | exact Nat.lt_of_lt_of_le (by with_reducible assumption) (by decide) | exact (Int.toNat_lt (by with_reducible assumption)).mpr (by with_reducible assumption) | exact Nat.lt_of_lt_of_le (by with_reducible assumption) (by with_reducible assumption) | exact Nat.le_trans (by with_reducible assumption) (by with_reducible assumption) | exact (Int.natCast_add _ _).trans (Int.add_comm _ _) | omega)
        · rw [List.mem_singleton.mp hm]; (first | exact Nat.le_trans (by with_reducible assumption) (by decide) | exact Nat.lt_of_lt_of_le (by with_reducible assumption) (by decide) | exact (Int.toNat_lt (by with_reducible assumption)).mpr (by with_reducible assumption) | exact Nat.lt_of_lt_of_le (by with_reducible assumption) (by with_reducible assumption) | exact Nat.le_trans (by with_reducible assumption) (by with_reducible assumption) | exact (Int.natCast_add _ _).trans (Int.add_comm _ _) | omega)
      · have := hx x (List.mem_of_mem_drop hm); (first | exact Nat.le_trans (by with_reducible assumption) (by decide) | exact Nat.lt_of_lt_of_le (by with_reducible assumption) (by decide) | exact (Int.toNat_lt (by with_reducible assumption)).mpr (by with_reducible assumption) | exact Nat.lt_of_lt_of_le (by with_reducible assumption) (by with_reducible assumption) | exact Nat.le_trans (by with_reducible assumption) (by with_reducible assumption) | exact (Int.natCast_add _ _).trans (Int.add_comm _ _) | omega)
theorem ringsAt_small : ∀ i, i < 4 → (ringsAt i).length ≤ 6 := by decide
theorem rangeK : ∀ i : Nat, i < 4 → Builtin.Range.small 1 (1 + (i : Int) + 1) 1 = true ∧ Builtin.Range.rangeSize 1 (1 + (i : Int) + 1) 1 = i + 1 := by decide
/-- values written out for 0 to n - 1, with tokens between -/
noncomputable def LitOk (vr : List Value) (n lo hi : Nat) : Prop := vr.length = n ∧ ∀ x : Nat, x < n → ∃ t : Nat, vr[x]? = some (.int x t) ∧ lo ≤ t ∧ t < hi
theorem LitOk.hi {vr : List Value} {n lo hi hi' : Nat} (h : LitOk vr n lo hi) (l : hi ≤ hi') : LitOk vr n lo hi' := ⟨h.1, fun x hx => (by obtain ⟨t, e, h1, h2⟩ := h.2 x hx; exact ⟨t, e, h1, Nat.lt_of_lt_of_le h2 l⟩)⟩
theorem LitOk.lo {vr : List Value} {n lo lo' hi : Nat} (h : LitOk vr n lo hi) (l : lo' ≤ lo) : LitOk vr n lo' hi := ⟨h.1, fun x hx => (by obtain ⟨t, e, h1, h2⟩ := h.2 x hx; exact ⟨t, e, Nat.le_trans l h1, h2⟩)⟩
theorem LitOk.int {vr : List Value} {n lo hi : Nat} (h : LitOk vr n lo hi) {x : Int} (h0 : 0 ≤ x) (h1 : x < n) : ∃ t : Nat, lit vr x = .int x t ∧ lo ≤ t ∧ t < hi := by
  obtain ⟨t, e, a, b⟩ := h.2 x.toNat (by (first | exact Nat.le_trans (by with_reducible assumption) (by decide) | exact Nat.lt_of_lt_of_le (by with_reducible assumption) (by decide) | exact (Int.toNat_lt (by with_reducible assumption)).mpr (by with_reducible assumption) | exact Nat.lt_of_lt_of_le (by with_reducible assumption) (by with_reducible assumption) | exact Nat.le_trans (by with_reducible assumption) (by with_reducible assumption) | exact (Int.natCast_add _ _).trans (Int.add_comm _ _) | omega))
  refine ⟨t, ?_, a, b⟩
  unfold lit
  rw [List.getD_eq_getElem?_getD, e]
  show Value.int ((x.toNat : Nat) : Int) t = _
  rw [Int.toNat_of_nonneg h0]
theorem lit_push {vr : List Value} {v : Value} {x : Int} (h0 : 0 ≤ x) (h1 : x < vr.length) : lit (vr ++ [v]) x = lit vr x := by
  unfold lit
  rw [List.getD_eq_getElem?_getD, List.getD_eq_getElem?_getD, List.getElem?_append_left (by (first | exact Nat.le_trans (by with_reducible assumption) (by decide) | exact Nat.lt_of_lt_of_le (by with_reducible assumption) (by decide) | exact (Int.toNat_lt (by with_reducible assumption)).mpr (by with_reducible assumption) | exact Nat.lt_of_lt_of_le (by with_reducible assumption) (by with_reducible assumption) | exact Nat.le_trans (by with_reducible assumption) (by with_reducible assumption) | exact (Int.natCast_add _ _).trans (Int.add_comm _ _) | omega))]
theorem lit_last {vr : List Value} {v : Value} {x : Int} (h : x = vr.length) : lit (vr ++ [v]) x = v := by
  subst h
  unfold lit
  rw [List.getD_eq_getElem?_getD, Int.toNat_natCast, List.getElem?_append_right (Nat.le_refl _)]; simp
theorem LitOk.push {vr : List Value} {n lo hi hi' t : Nat} (h : LitOk vr n lo hi) (l : hi ≤ hi') (h1 : lo ≤ t) (h2 : t < hi') : LitOk (vr ++ [Value.int (n : Int) t]) (n + 1) lo hi' := by
  refine ⟨by rw [List.length_append, h.1]; rfl, fun x hx => ?_⟩
  by_cases q : x < n
  · obtain ⟨u, e, a, b⟩ := h.2 x q
    exact ⟨u, by rw [List.getElem?_append_left (by rw [h.1]; exact q)]; exact e, a, Nat.lt_of_lt_of_le b l⟩
  · have : x = n := by (first | exact Nat.le_trans (by with_reducible assumption) (by decide) | exact Nat.lt_of_lt_of_le (by with_reducible assumption) (by decide) | exact (Int.toNat_lt (by with_reducible assumption)).mpr (by with_reducible assumption) | exact Nat.lt_of_lt_of_le (by with_reducible assumption) (by with_reducible assumption) | exact Nat.le_trans (by with_reducible assumption) (by with_reducible assumption) | exact (Int.natCast_add _ _).trans (Int.add_comm _ _) | omega)
    subst this
    exact ⟨t, by rw [List.getElem?_append_right (by rw [h.1]; exact Nat.le_refl _), h.1]; simp, h1, h2⟩
/-- a list of rings in the heap: its list, each ring's own list -/
structure RingsH (X : List Addr) (h : Heap) (D : Addr) (vr : List Value) (P : List (Addr × List Int)) : Prop where
  off : D ∉ X
  plain : h.PlainList D (P.map fun p => Value.ref p.1).toArray
  each : ∀ p ∈ P, p.1 ∉ X ∧ h.PlainList p.1 (p.2.map (lit vr)).toArray
theorem RingsH.at {X Y : List Addr} {h h' : Heap} {D : Addr} {vr P} (R : RingsH X h D vr P) (k : ∀ b o, b ∉ X → h.get? b = some o → h'.get? b = some o) (hY : ∀ b ∈ Y, b ∈ X) : RingsH Y h' D vr P :=
  ⟨fun q => R.off (hY _ q), R.plain.at fun o e => k D o R.off e, fun p hp => ⟨fun q => (R.each p hp).1 (hY _ q), (R.each p hp).2.at fun o e => k p.1 o (R.each p hp).1 e⟩⟩
theorem rows2_pairs {X : List Addr} {h : Heap} {vr : List Value} : ∀ {rings : List (List Int)} {vs : List Value}, Rows2 X h vs (rings.map (·.map (lit vr))) → ∃ P : List (Addr × List Int), P.map (·.2) = rings ∧ vs = P.map (fun p => Value.ref p.1) ∧ ∀ p ∈ P, p.1 ∉ X ∧ h.PlainList p.1 (p.2.map (lit vr)).toArray
  | [], vs, r => by cases r; exact ⟨[], rfl, rfl, fun p hp => nomatch hp⟩
  | x :: xs, vs, r => by
    obtain ⟨v, vr', rfl, ⟨l, e, hl, hp⟩, r'⟩ := All2.cons_inv r
    obtain ⟨P, h1, h2, h3⟩ := rows2_pairs r'
    refine ⟨(l, x) :: P, by rw [List.map_cons, h1], by rw [List.map_cons, h2, e], fun p hm => ?_⟩
    rcases List.mem_cons.mp hm with rfl | hm
    · exact ⟨hl, hp⟩
    · exact h3 p hm
theorem outs_flat (g : Nat → Nat → List Value) (n1 : Nat) : ∀ n, outs g n1 n = (List.range n).flatMap fun i => (List.range n1).map (g i)
  | 0 => rfl
  | n + 1 => by rw [outs, outs_flat g n1 n, List.range_succ, List.flatMap_append]; simp
theorem flat_range {α β : Type} (f : α → List β) (d : α) (P : List α) : ((List.range P.length).flatMap fun i => f (P.getD i d)) = P.flatMap f := by
  have : (List.range P.length).map (fun i => P.getD i d) = P := by
    refine List.ext_getElem (by simp) fun i h1 h2 => ?_
    simp at h1 ⊢
    rw [List.getElem?_eq_getElem h1]; rfl
  rw [← List.flatMap_map, this]
section
variable {prog : Program} {w : World} {A : Around} {s₀ s s' : Shared} {m : Mp} {env : Env} {pos : Pos} {Q : Flow → Shared → Prop} {E : Value → Shared → Prop} {L fa : Addr} {d : Nat}
theorem Fm.offB (F : Fm s₀ env m s) {b : Addr} {o : Obj} (e : s₀.heap.get? b = some o) : b ∉ fAd env := fun hm => by
  rcases List.mem_cons.mp hm with q | hm
  · have := F.newL
    rw [← q, e] at this; cases this
  · obtain ⟨y, hy, q⟩ := List.mem_map.mp hm
    have := F.newC y hy
    rw [q, e] at this; cases this
theorem pt_nest1 (i : Int) (k : Nat) (p q pos : Pos) : PT prog w A s₀ (eval (.List [.List [.Constant (.int i) k p] q] pos) env) (fun v s' => ∃ D l, ∃ t : Nat, v = .ref D ∧ s₀.heap.get? D = none ∧ s₀.heap.get? l = none ∧ s'.heap.PlainList D #[.ref l] ∧ s'.heap.PlainList l #[.int i t] ∧ s₀.toks ≤ t ∧ t < s'.toks) := by
  have hzl : sizeLine = 16777216 := sizeLine_eq
  intro s Q E l qq
  refine wpAny_List_spliced (((args1 (pt_displayT [(i, k, p)] (by rw [hzl]; simp))).le l) s _ E (Le.refl _) fun vs s₁ l1 hv => ⟨?_, ?_⟩)
  · obtain ⟨v, rfl, _⟩ := hv; rw [hzl]; simp
  · obtain ⟨v, rfl, s2, l2, la, vl, rfl, h1, h2, h3⟩ := hv
    obtain ⟨t, rfl, ht1, ht2⟩ : ∃ t : Nat, vl = [.int i t] ∧ s₀.toks ≤ t ∧ t < s2.toks := by
      cases h3 with
      | cons h5 h => cases h with
      | nil h6 => exact ⟨_, rfl, h5, h6⟩
    refine qq _ _ (l1.trans (Le.push (tk := s₁.toks))) ⟨_, la, t, rfl, none_le (l.trans l1) (new_none _ _ (Nat.le_refl _)), h1, ⟨_, Heap.get?_push_size _ rfl⟩, h2.at fun o e => Heap.get?_push_of_some _ (l2.keep _ o e), ht1, Nat.lt_of_lt_of_le ht2 l2.tk⟩
set_option maxHeartbeats 8000000 in
theorem phG {lm : Addr} {p2 p3 p4 p5 p6 : Value} (C : Cx A (d + 1)) (T : Tp w s₀) (F : Fm s₀ (lawEnv L fa) [(Str.ofString "made", .ref lm), (Str.ofString "names", p2), (Str.ofString "mates", p3), (Str.ofString "dresses", p4), (Str.ofString "signs", p5), (Str.ofString "numbers", p6)] s)
    (k : ∀ a s' D vr P, Le s₀ a → RingsH [] a.heap D vr P → P.map (·.2) = ringsAt 4 → LitOk vr 5 s₀.toks a.toks → Fm a (lawEnv L fa) [(Str.ofString "rings", .ref D), (Str.ofString "made", .ref lm), (Str.ofString "names", p2), (Str.ofString "mates", p3), (Str.ofString "dresses", p4), (Str.ofString "signs", p5), (Str.ofString "numbers", p6)] s' → wpAny (model prog w) A (execs (lawFrom 16) (lawEnv L fa)) Q E s') :
    wpAny (model prog w) A (execs (lawFrom 14) (lawEnv L fa)) Q E s := by
  have hzl : sizeLine = 16777216 := sizeLine_eq
  rw [lawStep 14 (by decide)]
  refine wp_assignT F (pt_nest1 0 _ _ _ _) ?_
  rintro v1 s₁ l1 ⟨D0, r0, t0, rfl, hD0, hr0, hDP, hrP, ht1, ht2⟩ s₂ F2 B2 g2
  obtain ⟨hDf, hD00⟩ := F.fresh hD0
  obtain ⟨hrf, hr00⟩ := F.fresh hr0
  have hD2 : s₂.heap.PlainList D0 #[.ref r0] := hDP.at fun o e => B2 D0 o hDf e
  have hr2 : s₂.heap.PlainList r0 #[.int 0 t0] := hrP.at fun o e => B2 r0 o hrf e
  have htk0 := F.le.tk
  have htk1 := l1.tk
  rw [lawStep 15 (by decide)]
  obtain ⟨JJ, hJJ⟩ : ∃ J : Addr → Nat → Mp → Shared → Prop, ∀ I i m s', J I i m s' ↔ (∃ D vr P, m.lookup (Str.ofString "rings") = some (.ref D) ∧ Has [(Str.ofString "made", .ref lm), (Str.ofString "names", p2), (Str.ofString "mates", p3), (Str.ofString "dresses", p4), (Str.ofString "signs", p5), (Str.ofString "numbers", p6)] m ∧ RingsH (I :: fAd (lawEnv L fa)) s'.heap D vr P ∧ P.map (·.2) = ringsAt i ∧ LitOk vr (i + 1) s₀.toks s'.toks) := ⟨_, fun _ _ _ _ => Iff.rfl⟩
  refine wp_forR (n := 4) (b := 1) (c := 5) JJ
    F2 (pt_range2 (pt_builtin (T.le F2.le) rfl (by k_is) rfl) (pt_int 1 _ _) (pt_int 5 _ _)) C.hh (by decide) (by decide) ?_ ?_ ?_ ?_
  · intro I i m s3 s4 htk hj hk
    obtain ⟨D, vr, P, m1, m2, hR, hP, hL⟩ := (hJJ _ _ _ _).mp hj
    exact (hJJ _ _ _ _).mpr ⟨D, vr, P, m1, m2, hR.at (fun b o hb e => hk b o (fun q => hb (List.mem_cons_of_mem _ q)) (fun q => hb (by rw [q]; exact .head _)) e) fun _ q => q, hP, hL.hi htk⟩
  · intro I hI
    refine (hJJ _ _ _ _).mpr ⟨D0, [.int 0 t0], [(r0, [0])], rfl, Has.rfl.cons rfl, ⟨?_, hD2, ?_⟩, rfl, rfl, fun x hx => ?_⟩
    · intro q
      rcases List.mem_cons.mp q with q | q
      · obtain ⟨n, e⟩ := hD2; rw [q, hI] at e; cases e
      · exact hDf q
    · intro p hp
      rw [List.mem_singleton.mp hp]
      refine ⟨fun q => ?_, hr2⟩
      rcases List.mem_cons.mp q with q | q
      · obtain ⟨n, e⟩ := hr2; dsimp only at q; rw [q, hI] at e; cases e
      · exact hrf q
    · have : x = 0 := by (first | exact Nat.le_trans (by with_reducible assumption) (by decide) | exact Nat.lt_of_lt_of_le (by with_reducible assumption) (by decide) | exact (Int.toNat_lt (by with_reducible assumption)).mpr (by with_reducible assumption) | exact Nat.lt_of_lt_of_le (by with_reducible assumption) (by with_reducible assumption) | exact Nat.le_trans (by with_reducible assumption) (by with_reducible assumption) | exact (Int.natCast_add _ _).trans (Int.add_comm _ _) | omega)
      subst this
      exact ⟨t0, rfl, by (first | exact Nat.le_trans (by with_reducible assumption) (by decide) | exact Nat.lt_of_lt_of_le (by with_reducible assumption) (by decide) | exact (Int.toNat_lt (by with_reducible assumption)).mpr (by with_reducible assumption) | exact Nat.lt_of_lt_of_le (by with_reducible assumption) (by with_reducible assumption) | exact Nat.le_trans (by with_reducible assumption) (by with_reducible assumption) | exact (Int.natCast_add _ _).trans (Int.add_comm _ _) | omega), by (first | exact Nat.le_trans (by with_reducible assumption) (by decide) | exact Nat.lt_of_lt_of_le (by with_reducible assumption) (by decide) | exact (Int.toNat_lt (by with_reducible assumption)).mpr (by with_reducible assumption) | exact Nat.lt_of_lt_of_le (by with_reducible assumption) (by with_reducible assumption) | exact Nat.le_trans (by with_reducible assumption) (by with_reducible assumption) | exact (Int.natCast_add _ _).trans (Int.add_comm _ _) | omega)⟩
  · intro I i t a m s3 hi ht3 ht4 hta la hback hIF hIex F3 _ hj
    obtain ⟨D, vr, P, m1, m2, hR, hP, hL⟩ := (hJJ _ _ _ _).mp hj
    have F4 : Fm a (lawEnv L fa) [(Str.ofString "k", .int (1 + i) t), (Str.ofString "rings", .ref D), (Str.ofString "made", .ref lm), (Str.ofString "names", p2), (Str.ofString "mates", p3), (Str.ofString "dresses", p4), (Str.ofString "signs", p5), (Str.ofString "numbers", p6)] s3 := F3.has fun x v e => by
      by_cases q : x = Str.ofString "k"
      · subst q; rw [lookup_cons_eq] at e ⊢; exact e
      · rw [lookup_cons_ne q] at e ⊢
        by_cases q : x = Str.ofString "rings"
        · subst q; rw [lookup_cons_eq] at e; cases e; exact m1
        · rw [lookup_cons_ne q] at e; exact m2 _ _ e
    have hPl : P.length ≤ 6 := by have := ringsAt_small i hi; rw [← hP, List.length_map] at this; exact this
    have hmem : ∀ p ∈ P, p.2.length = i + 1 ∧ ∀ x ∈ p.2, 0 ≤ x ∧ x < (i + 1 : Nat) := fun p hp => ringsAt_mem i p.2 (by rw [← hP]; exact List.mem_map_of_mem (f := (·.2)) hp)
    have hmul : P.length * (i + 1) ≤ sizeLine := by
      have := Nat.mul_le_mul hPl (by (first | exact Nat.le_trans (by with_reducible assumption) (by decide) | exact Nat.lt_of_lt_of_le (by with_reducible assumption) (by decide) | exact (Int.toNat_lt (by with_reducible assumption)).mpr (by with_reducible assumption) | exact Nat.lt_of_lt_of_le (by with_reducible assumption) (by with_reducible assumption) | exact Nat.le_trans (by with_reducible assumption) (by with_reducible assumption) | exact (Int.natCast_add _ _).trans (Int.add_comm _ _) | omega) : i + 1 ≤ 4)
      rw [hzl]; (first | exact Nat.le_trans (by with_reducible assumption) (by decide) | exact Nat.lt_of_lt_of_le (by with_reducible assumption) (by decide) | exact (Int.toNat_lt (by with_reducible assumption)).mpr (by with_reducible assumption) | exact Nat.lt_of_lt_of_le (by with_reducible assumption) (by with_reducible assumption) | exact Nat.le_trans (by with_reducible assumption) (by with_reducible assumption) | exact (Int.natCast_add _ _).trans (Int.add_comm _ _) | omega)
    refine wp_assign_comp2 (n := P.length) (n1 := i + 1) (P := fun j v => (P.map fun p => Value.ref p.1)[j]? = some v) (P1 := fun j v => IsI (1 + j) v)
      (fun a j => (((P.getD a (0, [])).2.map (lit vr)).take (j + 1) ++ [Value.int (1 + i) t]) ++ ((P.getD a (0, [])).2.map (lit vr)).drop (j + 1)) [I] (fun b hb => by rw [List.mem_singleton.mp hb]; exact hIex) F4
      (nm (p := fun u => u = .ref D) F4 rfl rfl) (fun v s5 l5 e => ⟨[D], ?_⟩) hmul ?_ ?_ ?_
    · subst e
      have h := src_list (prog := prog) (w := w) (A := A) (s := s5) C.hh (hR.plain.at fun o e => l5.keep _ o e).isList
      rw [List.length_map] at h
      exact h
    · intro Cc j v s5 hj hv l5 hN
      have F5 := F4.grow l5
      have T5 : Tp w s5 := T.le (la.trans F5.le)
      obtain ⟨h1, h2⟩ := rangeK i hi
      exact (pt_range2 (i := 1) (j := 1 + (i : Int) + 1) (pt_builtin T5 rfl (by k_is) rfl) (pt_int 1 _ _) (pv_add_int (nm_f F5 rfl ⟨_, rfl⟩) (pt_int 1 _ _))).mono fun v s' l' zq0 => by
        obtain ⟨r, t, u, x, e, hrg⟩ := zq0
        rw [e]; exact src_range C.hh hrg h1 h2
    · rintro Cc j v q u s5 hj hv hq hu l5 ⟨mc, hn, h1, h2⟩
      have F5 := F4.grow l5
      have T5 : Tp w s5 := T.le (la.trans F5.le)
      obtain ⟨p, hpm, hgd, rfl⟩ : ∃ p, p ∈ P ∧ P.getD j (0, []) = p ∧ v = .ref p.1 := by
        have hpj : P[j]? = some P[j] := List.getElem?_eq_getElem hj
        refine ⟨P[j], List.getElem_mem hj, by rw [List.getD_eq_getElem?_getD, hpj]; rfl, ?_⟩
        have hv' : (P.map fun p => Value.ref p.1)[j]? = some v := hv
        rw [List.getElem?_map, hpj] at hv'
        exact (Option.some.inj hv').symm
      rw [hgd]
      obtain ⟨_, hpl⟩ := hR.each p hpm
      obtain ⟨hlen, _⟩ := hmem p hpm
      have hpl5 : s5.heap.PlainList p.1 (p.2.map (lit vr)).toArray := hpl.at fun o e => l5.keep _ o e
      have hu' : IsI ((q + 1 : Nat) : Int) u := by rw [show ((q + 1 : Nat) : Int) = 1 + q by push_cast; (first | exact Nat.le_trans (by with_reducible assumption) (by decide) | exact Nat.lt_of_lt_of_le (by with_reducible assumption) (by decide) | exact (Int.toNat_lt (by with_reducible assumption)).mpr (by with_reducible assumption) | exact Nat.lt_of_lt_of_le (by with_reducible assumption) (by with_reducible assumption) | exact Nat.le_trans (by with_reducible assumption) (by with_reducible assumption) | exact (Int.natCast_add _ _).trans (Int.add_comm _ _) | omega)]; exact hu
      have hzr : (p.2.map (lit vr)).length = i + 1 := by rw [List.length_map]; exact hlen
      refine (pt_binop (P1 := fun v s' => ∃ D', v = .ref D' ∧ s'.heap.PlainList D' ((p.2.map (lit vr)).take (q + 1) ++ [Value.int (1 + i) t]).toArray) ?_ (P2 := fun v s' => ∃ D', v = .ref D' ∧ s'.heap.PlainList D' ((p.2.map (lit vr)).drop (q + 1)).toArray) (fun a1 s6 l6 _ => ?_)
        (R := fun v s' => ∃ D', v = .ref D' ∧ s5.heap.get? D' = none ∧ s'.heap.PlainList D' (((p.2.map (lit vr)).take (q + 1) ++ [Value.int (1 + i) t]) ++ (p.2.map (lit vr)).drop (q + 1)).toArray) fun a1 b1 s6 s7 l6 ⟨d1, e1, h6⟩ l7 hb => ?_)
      · refine (pt_binop (P1 := fun v s' => ∃ D', v = .ref D' ∧ s'.heap.PlainList D' ((p.2.map (lit vr)).take (q + 1)).toArray) ?_ (P2 := fun v s' => ∃ D', v = .ref D' ∧ s'.heap.PlainList D' ([Value.int (1 + i) t] : List Value).toArray) (fun a1 s6 l6 _ => ?_) fun a1 b1 s6 s7 l6 ⟨d1, e1, h6⟩ l7 hb => ?_)
        · exact (pt_sliceNL hpl5.isList (nm_x (q := fun u => u = .ref p.1) ⟨mc, hn, h1⟩ rfl) (nm_x ⟨mc, hn, h2⟩ hu') (by rw [hzr, hzl]; (first | exact Nat.le_trans (by with_reducible assumption) (by decide) | exact Nat.lt_of_lt_of_le (by with_reducible assumption) (by decide) | exact (Int.toNat_lt (by with_reducible assumption)).mpr (by with_reducible assumption) | exact Nat.lt_of_lt_of_le (by with_reducible assumption) (by with_reducible assumption) | exact Nat.le_trans (by with_reducible assumption) (by with_reducible assumption) | exact (Int.natCast_add _ _).trans (Int.add_comm _ _) | omega))).mono fun v s' l' zq3 => (by obtain ⟨D', e, _, hp⟩ := zq3; exact ⟨D', e, hp⟩)
        · exact (pt_display (ps := [fun v => v = .int (1 + i) t]) (.cons (nm_f (F5.grow l6) rfl rfl) rfl .nil) (by rw [hzl]; simp)).mono fun v s' l' zq4 => (by obtain ⟨D', vs, e, _, hp, hA⟩ := zq4; exact ⟨D', e, by
            obtain ⟨v, vr, rfl, rfl, hh⟩ := hA.cons_inv
            cases hh; exact hp⟩)
        · exact (o_addL ⟨d1, e1, h6.at fun o e => l7.keep _ o e⟩ hb (by rw [List.length_take, hzr, hzl]; simp; exact min_a hi)).mono fun v s' l' zq5 => (by obtain ⟨D', e, _, hp⟩ := zq5; exact ⟨D', e, hp⟩)
      · have hN6 : ∃ mc', s6.heap.Ns Cc mc' ∧ mc' (Str.ofString "ring") = some (.ref p.1) ∧ mc' (Str.ofString "p") = some u := ⟨mc, hn.keeps l6.keep, h1, h2⟩
        obtain ⟨mc', hn', h1', h2'⟩ := hN6
        exact (pt_sliceLN (hpl5.at fun o e => l6.keep _ o e).isList (nm_x (q := fun u => u = .ref p.1) ⟨mc', hn', h1'⟩ rfl) (nm_x ⟨mc', hn', h2'⟩ hu') (by rw [hzr, hzl]; (first | exact Nat.le_trans (by with_reducible assumption) (by decide) | exact Nat.lt_of_lt_of_le (by with_reducible assumption) (by decide) | exact (Int.toNat_lt (by with_reducible assumption)).mpr (by with_reducible assumption) | exact Nat.lt_of_lt_of_le (by with_reducible assumption) (by with_reducible assumption) | exact Nat.le_trans (by with_reducible assumption) (by with_reducible assumption) | exact (Int.natCast_add _ _).trans (Int.add_comm _ _) | omega))).mono fun v s' l' zq6 => (by obtain ⟨D', e, _, hp⟩ := zq6; exact ⟨D', e, hp⟩)
      · exact (o_addL ⟨d1, e1, h6.at fun o e => l7.keep _ o e⟩ hb (by rw [List.length_append, List.length_take, List.length_drop, hzr, hzl]; simp; exact min_b hi)).mono fun v s' l' zq7 => (by obtain ⟨D', e, h0, hp⟩ := zq7; exact ⟨D', e, none_le (l6.trans l7) h0, hp⟩)
    · rintro D' vs X s6 hD'0 hD'X hPl' hRows F6 B6 hXf hXZ htk6
      have hlv : vr.length = i + 1 := hL.1
      have e1 : (1 + (i : Int)) = ((i + 1 : Nat) : Int) := by push_cast; (first | exact Nat.le_trans (by with_reducible assumption) (by decide) | exact Nat.lt_of_lt_of_le (by with_reducible assumption) (by decide) | exact (Int.toNat_lt (by with_reducible assumption)).mpr (by with_reducible assumption) | exact Nat.lt_of_lt_of_le (by with_reducible assumption) (by with_reducible assumption) | exact Nat.le_trans (by with_reducible assumption) (by with_reducible assumption) | exact (Int.natCast_add _ _).trans (Int.add_comm _ _) | omega)
      rw [outs_flat, flat_range (fun p : Addr × List Int => (List.range (i + 1)).map fun j => ((p.2.map (lit vr)).take (j + 1) ++ [Value.int (1 + i) t]) ++ (p.2.map (lit vr)).drop (j + 1)) (0, []) P] at hRows
      have hEq : (P.flatMap fun p => (List.range (i + 1)).map fun j => ((p.2.map (lit vr)).take (j + 1) ++ [Value.int (1 + i) t]) ++ (p.2.map (lit vr)).drop (j + 1)) = (ringsAt (i + 1)).map (·.map (lit (vr ++ [Value.int (1 + i) t]))) := by
        rw [ringsAt, ← hP, List.flatMap_map, List.map_flatMap]
        have hbody : ∀ p ∈ P, ((List.range (i + 1)).map fun j => ((p.2.map (lit vr)).take (j + 1) ++ [Value.int (1 + i) t]) ++ (p.2.map (lit vr)).drop (j + 1)) = List.map (·.map (lit (vr ++ [Value.int (1 + i) t]))) ((List.range (i + 1)).map (insAt ((i + 1 : Nat) : Int) p.2)) := fun p hp => by
          obtain ⟨_, hx⟩ := hmem p hp
          have hm : p.2.map (lit (vr ++ [Value.int (1 + i) t])) = p.2.map (lit vr) := List.map_congr_left fun x hxm => lit_push (hx x hxm).1 (by rw [hlv]; exact (hx x hxm).2)
          rw [List.map_map]
          refine List.map_congr_left fun j _ => ?_
          show _ = (insAt ((i + 1 : Nat) : Int) p.2 j).map _
          unfold insAt
          rw [List.map_append, List.map_append, List.map_take, List.map_drop, hm, List.map_singleton, lit_last (by rw [hlv])]
        clear hRows
        induction P with
        | nil => rfl
        | cons p r ih =>
          clear ih
          exact congrArg List.flatten (List.map_congr_left hbody)
      rw [hEq] at hRows
      obtain ⟨P', hP'1, hP'2, hP'3⟩ := rows2_pairs hRows
      obtain ⟨hf', hf0'⟩ := F4.fresh hD'0
      refine wp_end ⟨_, F6, (hJJ _ _ _ _).mpr ⟨D', _, P', lookup_cons_eq, ((Has.rfl.cons rfl).cons rfl).cons rfl, ⟨?_, by rw [← hP'2]; exact hPl', fun p hp => ⟨fun q => ?_, (hP'3 p hp).2⟩⟩, hP'1, ?_⟩⟩
      · intro q
        rcases List.mem_cons.mp q with q | q
        · obtain ⟨o, e⟩ := hIex; rw [← q, hD'0] at e; cases e
        · exact hf' q
      · rcases List.mem_cons.mp q with q | q
        · exact (hP'3 p hp).1 (q ▸ hXZ I (.head _))
        · exact (hP'3 p hp).1 (hXf _ q)
      · rw [e1]
        exact hL.push htk6 (by (first | exact Nat.le_trans (by with_reducible assumption) (by decide) | exact Nat.lt_of_lt_of_le (by with_reducible assumption) (by decide) | exact (Int.toNat_lt (by with_reducible assumption)).mpr (by with_reducible assumption) | exact Nat.lt_of_lt_of_le (by with_reducible assumption) (by with_reducible assumption) | exact Nat.le_trans (by with_reducible assumption) (by with_reducible assumption) | exact (Int.natCast_add _ _).trans (Int.add_comm _ _) | omega)) (by (first | exact Nat.le_trans (by with_reducible assumption) (by decide) | exact Nat.lt_of_lt_of_le (by with_reducible assumption) (by decide) | exact (Int.toNat_lt (by with_reducible assumption)).mpr (by with_reducible assumption) | exact Nat.lt_of_lt_of_le (by with_reducible assumption) (by with_reducible assumption) | exact Nat.le_trans (by with_reducible assumption) (by with_reducible assumption) | exact (Int.natCast_add _ _).trans (Int.add_comm _ _) | omega))
  · intro I m s3 F3 hj
    obtain ⟨D, vr, P, m1, m2, hR, hP, hL⟩ := (hJJ _ _ _ _).mp hj
    obtain ⟨a, la, Fa, ka, _, kt⟩ := F3.rebaseT [] (by intro b hb; exact nomatch hb)
    refine k a s3 D vr P la (hR.at (fun b o hb e => ka b o (fun q => hb (List.mem_cons_of_mem _ q)) (fun q => nomatch q) e) fun _ q => nomatch q) hP (kt ▸ hL) (Fa.has fun x v e => ?_)
    by_cases q : x = Str.ofString "rings"
    · subst q; rw [lookup_cons_eq] at e; cases e; exact m1
    · rw [lookup_cons_ne q] at e; exact m2 _ _ e
end
end Mine
end

section
open PySem PySem.W PyProof.Rows PySem.Calls
namespace Mine
noncomputable def idx (ring : List Int) (x : Int) : Nat := ring.findIdx (· == x)
noncomputable def shownF (signs : List Str) (x y z : Int) : Str := Txt.join dots [signOf signs x, signOf signs y, signOf signs z, signOf signs x]
noncomputable def fits (signs : List Str) (x y z : Int) (ring : List Int) : Bool := ellF (shownF signs x y z) (tourF ring signs (idx ring x))
noncomputable def strc (a b : Str) : Int := b2i (decide (b.cps.toList < a.cps.toList)) - b2i (decide (a.cps.toList < b.cps.toList))
noncomputable def later (names : List Str) (x y z : Int) : Bool := (y != z) && (strc (signOf names (max x y)) (signOf names (max x z)) == 1)
noncomputable def sieve1 (names signs : List Str) (x y : Int) (R : List (List Int)) (z : Int) : List (List Int) := if later names x y z then R.filter (fits signs x y z) else R
noncomputable def sieveZ (names signs : List Str) (x y : Int) (zs : List Int) (R : List (List Int)) : List (List Int) := zs.foldl (sieve1 names signs x y) R
noncomputable def sieveY (names signs : List Str) (mates : List (List Int)) (x : Int) (ys : List Int) (R : List (List Int)) : List (List Int) := ys.foldl (fun R y => sieveZ names signs x y (rowOf mates x) R) R
noncomputable def sieveX (names signs : List Str) (mates : List (List Int)) (xs : List Int) (R : List (List Int)) : List (List Int) := xs.foldl (fun R x => sieveY names signs mates x (rowOf mates x) R) R
theorem five {x : Int} (h0 : 0 ≤ x) (h1 : x < 5) : x = 0 ∨ x = 1 ∨ x = 2 ∨ x = 3 ∨ x = 4 := by (first | with_reducible assumption | exact Int.natCast_nonneg _ | exact Nat.le_trans (by with_reducible assumption) (by decide) | exact Int.ofNat_lt.mpr (by with_reducible assumption) | omega)
theorem max5 {x u n : Int} (x0 : 0 ≤ x) (x5 : x < n) (u0 : 0 ≤ u) (u5 : u < n) : 0 ≤ max x u ∧ max x u < n := ⟨Int.le_trans x0 (Int.le_max_left _ _), Int.max_lt.mpr ⟨x5, u5⟩⟩
theorem foldl_take {α β : Type} (f : β → α → β) (d : α) (l : List α) (i : Nat) (h : i < l.length) (b : β) : (l.take (i + 1)).foldl f b = f ((l.take i).foldl f b) (l.getD i d) := by
  rw [List.take_add_one, List.foldl_append, List.getD_eq_getElem?_getD, List.getElem?_eq_getElem h]; rfl
theorem sieve1_sub {names signs x y R z} : ∀ r ∈ sieve1 names signs x y R z, r ∈ R := fun r h => by
  unfold sieve1 at h; split at h
  · exact (List.mem_filter.mp h).1
  · exact h
theorem addTo_in {rows : List (List Int)} {j : Nat} {x : Int} (h : ∀ row ∈ rows, ∀ y ∈ row, 0 ≤ y ∧ y < 5) (hx : 0 ≤ x ∧ x < 5) : ∀ row ∈ addTo rows j x, ∀ y ∈ row, 0 ≤ y ∧ y < 5 := fun row hr y hy => by
  unfold addTo at hr
  rcases List.mem_or_eq_of_mem_set hr with hr | hr
  · exact h row hr y hy
  · rw [hr] at hy
    rcases List.mem_append.mp hy with hy | hy
    · rw [List.getD_eq_getElem?_getD] at hy
      by_cases q : j < rows.length
      · rw [List.getElem?_eq_getElem q] at hy; exact h _ (List.getElem_mem q) y hy
      · rw [List.getElem?_eq_none (by (first | with_reducible assumption | exact Int.natCast_nonneg _ | exact Nat.le_trans (by with_reducible assumption) (by decide) | exact Int.ofNat_lt.mpr (by with_reducible assumption) | omega))] at hy; exact nomatch hy
    · rw [List.mem_singleton.mp hy]; exact hx
theorem matesAt_in {ns : List Int} (hns : Nums ns) : ∀ i, i ≤ 4 → ∀ row ∈ matesAt ns i, ∀ y ∈ row, 0 ≤ y ∧ y < 5
  | 0, _ => fun row h y hy => by rw [List.eq_of_mem_replicate h] at hy; exact nomatch hy
  | i + 1, hi => by
    obtain ⟨h0, h1⟩ := par_bnd hns (k := i + 1) (by (first | with_reducible assumption | exact Int.natCast_nonneg _ | exact Nat.le_trans (by with_reducible assumption) (by decide) | exact Int.ofNat_lt.mpr (by with_reducible assumption) | omega))
    exact addTo_in (addTo_in (matesAt_in hns i (by (first | with_reducible assumption | exact Int.natCast_nonneg _ | exact Nat.le_trans (by with_reducible assumption) (by decide) | exact Int.ofNat_lt.mpr (by with_reducible assumption) | omega))) ⟨h0, by (first | with_reducible assumption | exact Int.natCast_nonneg _ | exact Nat.le_trans (by with_reducible assumption) (by decide) | exact Int.ofNat_lt.mpr (by with_reducible assumption) | omega)⟩) ⟨by (first | with_reducible assumption | exact Int.natCast_nonneg _ | exact Nat.le_trans (by with_reducible assumption) (by decide) | exact Int.ofNat_lt.mpr (by with_reducible assumption) | omega), by (first | with_reducible assumption | exact Int.natCast_nonneg _ | exact Nat.le_trans (by with_reducible assumption) (by decide) | exact Int.ofNat_lt.mpr (by with_reducible assumption) | omega)⟩
theorem rowOf_in {ns : List Int} (hns : Nums ns) (x : Int) : ∀ y ∈ rowOf (matesAt ns 4) x, 0 ≤ y ∧ y < 5 := fun y hy => by
  unfold rowOf at hy
  rw [List.getD_eq_getElem?_getD] at hy
  by_cases q : x.toNat < (matesAt ns 4).length
  · rw [List.getElem?_eq_getElem q] at hy; exact matesAt_in hns 4 (Nat.le_refl _) _ (List.getElem_mem q) y hy
  · rw [List.getElem?_eq_none (by (first | with_reducible assumption | exact Int.natCast_nonneg _ | exact Nat.le_trans (by with_reducible assumption) (by decide) | exact Int.ofNat_lt.mpr (by with_reducible assumption) | omega))] at hy; exact nomatch hy
theorem rowOf_len (ns : List Int) (x : Int) : (rowOf (matesAt ns 4) x).length ≤ 8 := by
  unfold rowOf
  rw [List.getD_eq_getElem?_getD]
  by_cases q : x.toNat < (matesAt ns 4).length
  · rw [List.getElem?_eq_getElem q]; exact matesAt_rows ns 4 _ (List.getElem_mem q)
  · rw [List.getElem?_eq_none (by (first | with_reducible assumption | exact Int.natCast_nonneg _ | exact Nat.le_trans (by with_reducible assumption) (by decide) | exact Int.ofNat_lt.mpr (by with_reducible assumption) | omega))]; exact Nat.zero_le _
theorem ring_has : ∀ r ∈ ringsAt 4, ∀ x : Nat, x < 5 → r[idx r (x : Int)]? = some (x : Int) := by decide
theorem idx_first (r : List Int) (x : Int) : ∀ j, j < idx r x → r[j]? ≠ some x := fun j hj e => by
  have h := List.not_of_lt_findIdx hj
  obtain ⟨h1, h2⟩ := List.getElem?_eq_some_iff.mp e
  rw [h2] at h
  simp at h
theorem signs_len (ns : List Int) : ∀ x ∈ signsF ns, x.length ≤ 1 := fun x h => by
  obtain ⟨k, _, rfl⟩ := List.mem_map.mp h
  exact Nat.le_refl _
theorem signsF_len (ns : List Int) : (signsF ns).length = 5 := by unfold signsF; rw [List.length_map, List.length_range]
theorem signOf_len (ns : List Int) (x : Int) : (signOf (signsF ns) x).length ≤ 1 := by
  unfold signOf
  rw [List.getD_eq_getElem?_getD]
  by_cases q : x.toNat < (signsF ns).length
  · rw [List.getElem?_eq_getElem q]; exact signs_len ns _ (List.getElem_mem q)
  · rw [List.getElem?_eq_none (by (first | with_reducible assumption | exact Int.natCast_nonneg _ | exact Nat.le_trans (by with_reducible assumption) (by decide) | exact Int.ofNat_lt.mpr (by with_reducible assumption) | omega))]; exact Nat.zero_le _
theorem shown_len (ns : List Int) (x y z : Int) : (shownF (signsF ns) x y z).length ≤ 100 := by
  refine Nat.le_trans (join_len _ _ 1 fun u hu => ?_) (by have : dots.length = 3 := rfl; rw [this]; simp)
  simp only [List.mem_cons, List.not_mem_nil, or_false] at hu
  rcases hu with rfl | rfl | rfl | rfl <;> exact signOf_len ns _
theorem tour_len (ns : List Int) (ring : List Int) (hl : ring.length = 5) (k : Nat) : (tourF ring (signsF ns) k).length ≤ 10 := by
  have h1 := Txt.slice_le (tourText ring (signsF ns)) (some (k : Int)) none
  have h2 := Txt.slice_le (tourText ring (signsF ns)) none (some ((k : Int) + 1))
  have h3 : (tourText ring (signsF ns)).length ≤ 5 := by
    refine Nat.le_trans (join_len _ _ 1 fun u hu => ?_) ?_
    · obtain ⟨r, _, rfl⟩ := List.mem_map.mp hu; exact signOf_len ns _
    · rw [List.length_map, hl]
      have : Str.empty.length = 0 := rfl
      rw [this]; decide
  unfold tourF
  rw [Str.length_append]; (first | with_reducible assumption | exact Int.natCast_nonneg _ | exact Nat.le_trans (by with_reducible assumption) (by decide) | exact Int.ofNat_lt.mpr (by with_reducible assumption) | omega)
/-- what law has made before the sieve -/
structure Dat (s : Shared) (ns : List Int) (lw lm ld ls ln : Addr) (rs : List Addr) : Prop where
  nums : Nums ns
  names : SLs s.heap lw (namesAt ns 4)
  mates : s.heap.PlainList lm (rs.map Value.ref).toArray
  rs5 : rs.length = 5
  rows : RowsAt s.heap rs (matesAt ns 4)
  dresses : SLs s.heap ld (dressesF ns)
  signs : STs s ls (signsF ns)
  numbers : ILs s.heap ln ns
  tok : 0 < s.toks
theorem Dat.le {s s' : Shared} {ns lw lm ld ls ln rs} (X : Dat s ns lw lm ld ls ln rs) (l : Le s s') : Dat s' ns lw lm ld ls ln rs where
  nums := X.nums
  names := X.names.keeps l.keep
  mates := X.mates.at fun o e => l.keep _ o e
  rs5 := X.rs5
  rows := X.rows.keep X.rs5 fun b o _ e => l.keep b o e
  dresses := X.dresses.keeps l.keep
  signs := X.signs.le l
  numbers := X.numbers.keeps l.keep
  tok := Nat.lt_of_lt_of_le X.tok l.tk
theorem Dat.nest {s : Shared} {ns lw lm ld ls ln rs} (X : Dat s ns lw lm ld ls ln rs) : Nest s.heap lm (matesAt ns 4) := by
  refine ⟨_, X.mates.isList, ?_⟩
  obtain ⟨h5, hr⟩ := X.rows
  have hl := X.rs5
  generalize matesAt ns 4 = rows at *
  match rs, rows, hl, h5 with
  | [a0, a1, a2, a3, a4], [b0, b1, b2, b3, b4], _, _ =>
    have g : ∀ j, j < 5 → ILs s.heap ([a0, a1, a2, a3, a4].getD j 0) ([b0, b1, b2, b3, b4].getD j []) := fun j hj => (by obtain ⟨vs, h1, h2⟩ := hr j hj; exact ⟨vs, h1.isList, h2⟩)
    exact .cons ⟨_, rfl, g 0 (by decide)⟩ (.cons ⟨_, rfl, g 1 (by decide)⟩ (.cons ⟨_, rfl, g 2 (by decide)⟩ (.cons ⟨_, rfl, g 3 (by decide)⟩ (.cons ⟨_, rfl, g 4 (by decide)⟩ .nil))))
theorem RingsH.fresh {X W : List Addr} {h : Heap} {D : Addr} {vr P} (R : RingsH X h D vr P) (hW : ∀ b ∈ W, h.get? b = none) : RingsH (W ++ X) h D vr P :=
  ⟨fun q => (List.mem_append.mp q).elim (fun q => by obtain ⟨n, e⟩ := R.plain; rw [hW D q] at e; cases e) R.off, R.plain, fun p hp => ⟨fun q => (List.mem_append.mp q).elim (fun q => by obtain ⟨n, e⟩ := (R.each p hp).2; rw [hW p.1 q] at e; cases e) (R.each p hp).1, (R.each p hp).2⟩⟩
section
variable {prog : Program} {w : World} {A : Around} {s₀ s s' : Shared} {m : Mp} {env : Env} {pos : Pos} {Q : Flow → Shared → Prop} {E : Value → Shared → Prop} {L fa : Addr} {d : Nat}
theorem isTrue_and2 {x y : Expr} {p : Pos} {b c : Bool} {whole : Sem Value} (h1 : PT prog w A s₀ (isTrue x env (eval x env)) (fun z _ => z = b)) (h2 : PT prog w A s₀ (isTrue y env (eval y env)) (fun z _ => z = c)) :
    PT prog w A s₀ (isTrue (.BoolOp .And [x, y] p) env whole) (fun z _ => z = (b && c)) := by
  intro s Q E l k
  refine isTrue_and ((h1 s _ E l) fun z s₁ l1 e => ?_)
  subst e
  split
  · rename_i e
    refine isTrue_and ((h2 s₁ _ E (l.trans l1)) fun z2 s₂ l2 e2 => ?_)
    subst e2
    split
    · rename_i e2; exact isTrue_and_nil (k _ s₂ (l1.trans l2) (by rw [e, e2]; rfl))
    · rename_i e2; exact k _ s₂ (l1.trans l2) (by simp at e2; rw [e2, Bool.and_false])
  · rename_i e; exact k _ s₁ l1 (by simp at e; rw [e]; rfl)
/-- a row of the mates, its own list -/
theorem pt_rowA {value slice : Expr} {ns : List Int} {lw lm ld ls ln : Addr} {rs : List Addr} {x : Int} (X : Dat s₀ ns lw lm ld ls ln rs) (ho : PV prog w A s (eval value env) (fun u => u = .ref lm)) (hi : PV prog w A s (eval slice env) (IsI x)) (l : Le s₀ s) (h0 : 0 ≤ x) (h1 : x < 5)
    (hs : ∀ t, subscripted slice false (.ref lm) (.int x t) = operate [.ref lm, .int x t] (getItem (.ref lm) (.int x t)) := by intro _; with_unfolding_all rfl) :
    PV prog w A s (eval (.Subscript value slice pos) env) (fun u => u = .ref (rs.getD x.toNat 0)) := by
  refine pt_item (X.mates.at fun o e => l.keep _ o e).isList ho hi (.inl ⟨h0, ?_⟩) (by rw [List.length_map, X.rs5, sizeLine_eq]; decide) hs
  rw [List.getElem?_map, List.getD_eq_getElem?_getD, List.getElem?_eq_getElem (by rw [X.rs5]; (first | with_reducible assumption | exact Int.natCast_nonneg _ | exact Nat.le_trans (by with_reducible assumption) (by decide) | exact Int.ofNat_lt.mpr (by with_reducible assumption) | omega) : x.toNat < rs.length)]; rfl
theorem src_row {ns : List Int} {lw lm ld ls ln : Addr} {rs : List Addr} {x : Int} {v : Value} (hh : A.handled = none) (X : Dat s₀ ns lw lm ld ls ln rs) (l : Le s₀ s) (h0 : 0 ≤ x) (h1 : x < 5) (e : v = .ref (rs.getD x.toNat 0)) (hF : ∀ b o, s₀.heap.get? b = some o → b ∉ fAd env) :
    ∃ src, Src prog w A s v src (rowOf (matesAt ns 4) x).length (fun i v => IsI ((rowOf (matesAt ns 4) x).getD i 0) v) ∧ ∀ b ∈ src, b ∉ fAd env := by
  subst e
  obtain ⟨vs, hp, hI⟩ := X.rows.2 x.toNat (by (first | with_reducible assumption | exact Int.natCast_nonneg _ | exact Nat.le_trans (by with_reducible assumption) (by decide) | exact Int.ofNat_lt.mpr (by with_reducible assumption) | omega))
  refine ⟨[rs.getD x.toNat 0], ?_, fun b hb => ?_⟩
  · have h := src_list (prog := prog) (w := w) (A := A) (s := s) hh (hp.at fun o e => l.keep _ o e).isList
    rw [hI.len] at h
    refine h.mono fun i v hv => ?_
    obtain ⟨y, hy, r⟩ := hI.get' hv
    show IsI (((matesAt ns 4).getD x.toNat []).getD i 0) v
    rw [List.getD_eq_getElem?_getD (l := (matesAt ns 4).getD x.toNat []), hy]; exact r
  · rw [List.mem_singleton.mp hb]
    obtain ⟨n, e⟩ := hp
    exact hF _ _ e
set_option maxHeartbeats 16000000 in
theorem phH {ns : List Int} {lw lm ld ls ln D0 : Addr} {rs : List Addr} {vr : List Value} {P0 : List (Addr × List Int)} {p1 : Value} (C : Cx A (d + 4)) (T : Tp w s₀) (X : Dat s₀ ns lw lm ld ls ln rs)
    (F : Fm s₀ (lawEnv L fa) [(Str.ofString "rings", .ref D0), (Str.ofString "made", p1), (Str.ofString "names", .ref lw), (Str.ofString "mates", .ref lm), (Str.ofString "dresses", .ref ld), (Str.ofString "signs", .ref ls), (Str.ofString "numbers", .ref ln)] s)
    (hR0 : RingsH [] s₀.heap D0 vr P0) (hP0 : P0.map (·.2) = ringsAt 4) (hL : LitOk vr 5 1 s₀.toks)
    (k : ∀ a s' D P, Le s₀ a → RingsH [] a.heap D vr P → P.map (·.2) = sieveX (namesAt ns 4) (signsF ns) (matesAt ns 4) [0, 1, 2, 3, 4] (ringsAt 4) → Fm a (lawEnv L fa) [(Str.ofString "rings", .ref D), (Str.ofString "made", p1), (Str.ofString "names", .ref lw), (Str.ofString "mates", .ref lm), (Str.ofString "dresses", .ref ld), (Str.ofString "signs", .ref ls), (Str.ofString "numbers", .ref ln)] s' → wpAny (model prog w) A (execs (lawFrom 17) (lawEnv L fa)) Q E s') :
    wpAny (model prog w) A (execs (lawFrom 16) (lawEnv L fa)) Q E s := by
  have hzl : sizeLine = 16777216 := sizeLine_eq
  have htk0 := F.le.tk
  have hns := X.nums
  rw [lawStep 16 (by decide)]
  obtain ⟨JX, hJX⟩ : ∃ J : Addr → Nat → Mp → Shared → Prop, ∀ I i m s', J I i m s' ↔ ∃ D P, m.lookup (Str.ofString "rings") = some (.ref D) ∧ Has [(Str.ofString "made", p1), (Str.ofString "names", .ref lw), (Str.ofString "mates", .ref lm), (Str.ofString "dresses", .ref ld), (Str.ofString "signs", .ref ls), (Str.ofString "numbers", .ref ln)] m ∧ RingsH (I :: fAd (lawEnv L fa)) s'.heap D vr P ∧ (∀ p ∈ P, p.2 ∈ ringsAt 4) ∧ P.map (·.2) = sieveX (namesAt ns 4) (signsF ns) (matesAt ns 4) ((List.range i).map fun (i : Nat) => (i : Int)) (ringsAt 4) := ⟨_, fun _ _ _ _ => Iff.rfl⟩
  refine wp_forR (n := 5) (b := 0) (c := 5) JX
    F (pt_range1 (pt_builtin (T.le F.le) rfl (by k_is) rfl) (pt_int 5 _ _)) C.hh (by decide) (by decide) ?_ ?_ ?_ ?_
  · intro I i m s3 s4 htk hj hk
    obtain ⟨D, P, m1, m2, hR, hM, hP⟩ := (hJX _ _ _ _).mp hj
    exact (hJX _ _ _ _).mpr ⟨D, P, m1, m2, hR.at (fun b o hb e => hk b o (fun q => hb (List.mem_cons_of_mem _ q)) (fun q => hb (by rw [q]; exact .head _)) e) fun _ q => q, hM, hP⟩
  · intro I hI
    have hR1 := hR0.at (h' := s.heap) (fun b o _ e => F.le.keep b o e) fun b (q : b ∈ []) => q
    refine (hJX _ _ _ _).mpr ⟨D0, P0, rfl, Has.rfl.cons rfl, ⟨?_, hR1.plain, fun p hp => ⟨?_, (hR1.each p hp).2⟩⟩, fun p hp => by rw [← hP0]; exact List.mem_map_of_mem (f := (·.2)) hp, hP0⟩
    · intro q
      rcases List.mem_cons.mp q with q | q
      · obtain ⟨n, e⟩ := hR1.plain; rw [q, hI] at e; cases e
      · obtain ⟨n, e⟩ := hR0.plain; exact F.offB e q
    · intro q
      rcases List.mem_cons.mp q with q | q
      · obtain ⟨n, e⟩ := (hR1.each p hp).2; rw [q, hI] at e; cases e
      · obtain ⟨n, e⟩ := (hR0.each p hp).2; exact F.offB e q
  · intro I i t a m s3 hi ht3 ht4 hta la hback hIF hIex F3 _ hj
    obtain ⟨D, P, m1, m2, hR, hM, hP⟩ := (hJX _ _ _ _).mp hj
    -- x
    have F4 : Fm a (lawEnv L fa) [(Str.ofString "rings", .ref D), (Str.ofString "x", .int (0 + i) t), (Str.ofString "made", p1), (Str.ofString "names", .ref lw), (Str.ofString "mates", .ref lm), (Str.ofString "dresses", .ref ld), (Str.ofString "signs", .ref ls), (Str.ofString "numbers", .ref ln)] s3 := F3.has fun x v e => by
      by_cases q : x = Str.ofString "rings"
      · subst q; rw [lookup_cons_eq] at e; cases e
        exact (lookup_cons_ne (by decide)).trans m1
      · rw [lookup_cons_ne q] at e
        by_cases q : x = Str.ofString "x"
        · subst q; rw [lookup_cons_eq] at e ⊢; exact e
        · rw [lookup_cons_ne q] at e ⊢; exact m2 _ _ e
    rw [Int.zero_add] at F4
    have hx0 : (0 : Int) ≤ i := by (first | with_reducible assumption | exact Int.natCast_nonneg _ | exact Nat.le_trans (by with_reducible assumption) (by decide) | exact Int.ofNat_lt.mpr (by with_reducible assumption) | omega)
    have hx5 : (i : Int) < 5 := by (first | with_reducible assumption | exact Int.natCast_nonneg _ | exact Nat.le_trans (by with_reducible assumption) (by decide) | exact Int.ofNat_lt.mpr (by with_reducible assumption) | omega)
    have Xa : Dat a ns lw lm ld ls ln rs := X.le la
    have Ta : Tp w a := T.le la
    generalize hRx : sieveX (namesAt ns 4) (signsF ns) (matesAt ns 4) ((List.range i).map fun (i : Nat) => (i : Int)) (ringsAt 4) = Rx at hP
    obtain ⟨JY, hJY⟩ : ∃ J : List Addr → Nat → Mp → Shared → Prop, ∀ W j m s', J W j m s' ↔ ∃ D P, m.lookup (Str.ofString "rings") = some (.ref D) ∧ Has [(Str.ofString "x", .int i t), (Str.ofString "made", p1), (Str.ofString "names", .ref lw), (Str.ofString "mates", .ref lm), (Str.ofString "dresses", .ref ld), (Str.ofString "signs", .ref ls), (Str.ofString "numbers", .ref ln)] m ∧ RingsH (W ++ (I :: fAd (lawEnv L fa))) s'.heap D vr P ∧ (∀ p ∈ P, p.2 ∈ ringsAt 4) ∧ P.map (·.2) = sieveY (namesAt ns 4) (signsF ns) (matesAt ns 4) i ((rowOf (matesAt ns 4) i).take j) Rx := ⟨_, fun _ _ _ _ => Iff.rfl⟩
    refine wp_forW (n := (rowOf (matesAt ns 4) i).length) (P := fun j v => IsI ((rowOf (matesAt ns 4) i).getD j 0) v) JY
      F4 (pt_rowA Xa (nmC (p := fun u => u = .ref lm) F4 rfl rfl) (nmC F4 rfl ⟨_, rfl⟩) F4.le hx0 hx5) (fun v s5 l5 e => src_row C.hh Xa (F4.le.trans l5) hx0 hx5 e fun b o e => F4.offB e) ?_ ?_ ?_ ?_
    · intro W j m s4 s5 htk hj hk
      obtain ⟨D, P, m1, m2, hR, hM, hP⟩ := (hJY _ _ _ _).mp hj
      exact (hJY _ _ _ _).mpr ⟨D, P, m1, m2, hR.at (fun b o hb e => hk b o (fun q => hb (List.mem_append_right _ (List.mem_cons_of_mem _ q))) (fun q => hb (List.mem_append_left _ q)) e) fun _ q => q, hM, hP⟩
    · intro W hW
      exact (hJY _ _ _ _).mpr ⟨D, P, rfl, Has.rfl.cons rfl, hR.fresh hW, hM, hP⟩
    · intro W j vy a2 m s4 hj hy ht4' hta2 la2 hback2 hWF hWex F5 hjj
      obtain ⟨D, P, m1, m2, hR, hM, hP⟩ := (hJY _ _ _ _).mp hjj
      -- y
      have F6 : Fm a2 (lawEnv L fa) [(Str.ofString "rings", .ref D), (Str.ofString "y", vy), (Str.ofString "x", .int i t), (Str.ofString "made", p1), (Str.ofString "names", .ref lw), (Str.ofString "mates", .ref lm), (Str.ofString "dresses", .ref ld), (Str.ofString "signs", .ref ls), (Str.ofString "numbers", .ref ln)] s4 := F5.has fun x v e => by
        by_cases q : x = Str.ofString "rings"
        · subst q; rw [lookup_cons_eq] at e; cases e
          exact (lookup_cons_ne (by decide)).trans m1
        · rw [lookup_cons_ne q] at e
          by_cases q : x = Str.ofString "y"
          · subst q; rw [lookup_cons_eq] at e ⊢; exact e
          · rw [lookup_cons_ne q] at e ⊢; exact m2 _ _ e
      obtain ⟨hy0, hy5⟩ := rowOf_in hns i _ (getD_mem (d := 0) hj)
      generalize hY : (rowOf (matesAt ns 4) i).getD j 0 = y at hy hy0 hy5
      have Xa2 : Dat a2 ns lw lm ld ls ln rs := Xa.le la2
      have Ta2 : Tp w a2 := Ta.le la2
      have hIex4 : ∃ o, s4.heap.get? I = some o := (by obtain ⟨o, e⟩ := hIex; exact ⟨o, F5.le.keep _ _ (la2.keep _ _ (hback I o hIF e))⟩)
      generalize hRy : sieveY (namesAt ns 4) (signsF ns) (matesAt ns 4) i ((rowOf (matesAt ns 4) i).take j) Rx = Ry at hP
      obtain ⟨JZ, hJZ⟩ : ∃ J : List Addr → Nat → Mp → Shared → Prop, ∀ W2 j m s', J W2 j m s' ↔ ∃ D P, m.lookup (Str.ofString "rings") = some (.ref D) ∧ Has [(Str.ofString "y", vy), (Str.ofString "x", .int i t), (Str.ofString "made", p1), (Str.ofString "names", .ref lw), (Str.ofString "mates", .ref lm), (Str.ofString "dresses", .ref ld), (Str.ofString "signs", .ref ls), (Str.ofString "numbers", .ref ln)] m ∧ RingsH (W2 ++ (W ++ (I :: fAd (lawEnv L fa)))) s'.heap D vr P ∧ (∀ p ∈ P, p.2 ∈ ringsAt 4) ∧ P.map (·.2) = sieveZ (namesAt ns 4) (signsF ns) i y ((rowOf (matesAt ns 4) i).take j) Ry := ⟨_, fun _ _ _ _ => Iff.rfl⟩
      refine wp_forW (n := (rowOf (matesAt ns 4) i).length) (P := fun j v => IsI ((rowOf (matesAt ns 4) i).getD j 0) v) JZ
        F6 (pt_rowA Xa2 (nmC (p := fun u => u = .ref lm) F6 rfl rfl) (nmC F6 rfl ⟨_, rfl⟩) F6.le hx0 hx5) (fun v s5 l5 e => src_row C.hh Xa2 (F6.le.trans l5) hx0 hx5 e fun b o e => F6.offB e) ?_ ?_ ?_ ?_
      · intro W2 j m s5 s6 htk hj hk
        obtain ⟨D, P, m1, m2, hR, hM, hP⟩ := (hJZ _ _ _ _).mp hj
        exact (hJZ _ _ _ _).mpr ⟨D, P, m1, m2, hR.at (fun b o hb e => hk b o (fun q => hb (List.mem_append_right _ (List.mem_append_right _ (List.mem_cons_of_mem _ q)))) (fun q => hb (List.mem_append_left _ q)) e) fun _ q => q, hM, hP⟩
      · intro W2 hW2
        exact (hJZ _ _ _ _).mpr ⟨D, P, rfl, Has.rfl.cons rfl, hR.fresh hW2, hM, hP⟩
      · intro W2 jz vz a3 m s5 hjz hz ht5 hta3 la3 hback3 hW2F hW2ex F7 hjj
        obtain ⟨D, P, m1, m2, hR, hM, hP⟩ := (hJZ _ _ _ _).mp hjj
        -- z
        have F8 : Fm a3 (lawEnv L fa) [(Str.ofString "rings", .ref D), (Str.ofString "z", vz), (Str.ofString "y", vy), (Str.ofString "x", .int i t), (Str.ofString "made", p1), (Str.ofString "names", .ref lw), (Str.ofString "mates", .ref lm), (Str.ofString "dresses", .ref ld), (Str.ofString "signs", .ref ls), (Str.ofString "numbers", .ref ln)] s5 := F7.has fun x v e => by
          by_cases q : x = Str.ofString "rings"
          · subst q; rw [lookup_cons_eq] at e; cases e
            exact (lookup_cons_ne (by decide)).trans m1
          · rw [lookup_cons_ne q] at e
            by_cases q : x = Str.ofString "z"
            · subst q; rw [lookup_cons_eq] at e ⊢; exact e
            · rw [lookup_cons_ne q] at e ⊢; exact m2 _ _ e
        obtain ⟨hz0, hz5⟩ := rowOf_in hns i _ (getD_mem (d := 0) hjz)
        generalize hZ : (rowOf (matesAt ns 4) i).getD jz 0 = z at hz hz0 hz5
        have Xa3 : Dat a3 ns lw lm ld ls ln rs := Xa2.le la3
        have Ta3 : Tp w a3 := Ta2.le la3
        have hIex5 : ∃ o, s5.heap.get? I = some o := (by obtain ⟨o, e⟩ := hIex4; exact ⟨o, F7.le.keep _ _ (la3.keep _ _ (hback2 I o hIF e))⟩)
        have hWex5 : ∀ b ∈ W, ∃ o, s5.heap.get? b = some o := fun b hb => (by obtain ⟨o, e⟩ := hWex b hb; exact ⟨o, F7.le.keep _ _ (la3.keep _ _ (hback2 b o (hWF b hb) e))⟩)
        have Xs : Dat s5 ns lw lm ld ls ln rs := Xa3.le F8.le
        have T8 : Tp w s5 := Ta3.le F8.le
        have hnl : (namesAt ns 4).length = 5 := namesAt_len ns 4
        have hmax : ∀ u : Int, 0 ≤ u → u < 5 → 0 ≤ max (i : Int) u ∧ max (i : Int) u < (namesAt ns 4).length := fun u h0 h5 => by rw [hnl]; exact max5 hx0 hx5 h0 h5
        -- the test
        refine wp_if2 (b := later (namesAt ns 4) i y z) ?_ (fun hb s6 l6 => ?_) fun hb s6 l6 => ?_
        · unfold later
          refine isTrue_and2 (isTrue_cmp (p1 := IsI y) (p2 := IsI z) (nm F8 rfl hy) (nm F8 rfl hz) fun _ _ _ _ h1 h2 => o_neI h1 h2) ?_
          refine isTrue_cmp (p1 := IsI (strc (signOf (namesAt ns 4) (max i y)) (signOf (namesAt ns 4) (max i z)))) (p2 := IsI 1) ?_ (pt_int 1 _ _) fun _ _ _ _ h1 h2 => o_eqI h1 h2
          refine pt_callF (f := 84) T8 (by k_is) (pt_global T8 rfl (by k_is)) (argv2
            (pt_sgn (x := max i y) Xs.names (nmC (p := fun u => u = .ref lw) F8 rfl rfl) (pt_callB (R := fun v _ => IsI (max (i : Int) y) v) (pt_builtin T8 rfl (by k_is) rfl) (argv2 (nmC (p := IsI i) F8 rfl ⟨_, rfl⟩) (nm F8 rfl hy)) fun vs s' l' zq0 => by obtain ⟨v, u, e, h1, h2⟩ := zq0; subst e; exact o_max C.hh h1 h2) (hmax y hy0 hy5).1 (hmax y hy0 hy5).2 (by rw [hnl]; decide))
            (pt_sgn (x := max i z) Xs.names (nmC (p := fun u => u = .ref lw) F8 rfl rfl) (pt_callB (R := fun v _ => IsI (max (i : Int) z) v) (pt_builtin T8 rfl (by k_is) rfl) (argv2 (nmC (p := IsI i) F8 rfl ⟨_, rfl⟩) (nm F8 rfl hz)) fun vs s' l' zq1 => by obtain ⟨v, u, e, h1, h2⟩ := zq1; subst e; exact o_max C.hh h1 h2) (hmax z hz0 hz5).1 (hmax z hz0 hz5).2 (by rw [hnl]; decide)))
            fun vs s' l' hv => ?_
          obtain ⟨v, u, rfl, ⟨t1, rfl⟩, t2, rfl⟩ := hv
          exact strcoll_pt (d := d + 3) C (T8.le l')
        · -- shown
          have F9 := F8.grow l6
          have Xs6 := Xs.le l6
          have sg : ∀ {sx : Shared} {e1 e2 : Expr} {px : Pos} {u : Int}, SLs sx.heap ls (signsF ns) → 0 ≤ u → u < 5 → True := fun _ _ _ => trivial
          refine wp_assignT F9 (P := fun v _ => IsS (shownF (signsF ns) i y z) v) (pt_join (texts := [signOf (signsF ns) i, signOf (signsF ns) y, signOf (signsF ns) z, signOf (signsF ns) i]) (pt_str _ _ _)
            ((pt_display (ps := [signOf (signsF ns) i, signOf (signsF ns) y, signOf (signsF ns) z, signOf (signsF ns) i].map fun x => IsS x)
              (.cons (pt_sgn (x := i) Xs6.signs.sls (nmC (p := fun u => u = .ref ls) F9 rfl rfl) (nmC F9 rfl ⟨_, rfl⟩) hx0 (by rw [signsF_len]; exact hx5) (by rw [signsF_len]; decide)) rfl
              (.cons (pt_sgn (x := y) Xs6.signs.sls (nmC (p := fun u => u = .ref ls) F9 rfl rfl) (nm F9 rfl hy) hy0 (by rw [signsF_len]; exact hy5) (by rw [signsF_len]; decide)) rfl
              (.cons (pt_sgn (x := z) Xs6.signs.sls (nmC (p := fun u => u = .ref ls) F9 rfl rfl) (nm F9 rfl hz) hz0 (by rw [signsF_len]; exact hz5) (by rw [signsF_len]; decide)) rfl
              (.cons (pt_sgn (x := i) Xs6.signs.sls (nmC (p := fun u => u = .ref ls) F9 rfl rfl) (nmC F9 rfl ⟨_, rfl⟩) hx0 (by rw [signsF_len]; exact hx5) (by rw [signsF_len]; decide)) rfl .nil)))) (by rw [hzl]; simp)).mono
              fun v s' l' zq2 => (by obtain ⟨D', us, e, _, hp, hA⟩ := zq2; exact ⟨D', us, e, hp.isList, args_strs hA⟩))
            (joinOk_small (b := 1) (fun u hu => by
              simp only [List.mem_cons, List.not_mem_nil, or_false] at hu
              rcases hu with rfl | rfl | rfl | rfl <;> exact signOf_len ns _) (by have : dots.length = 3 := rfl; rw [this]; simp))) ?_
          rintro vsh s7 l7 hsh s8 F10 B8 tk8
          have l58 : ∀ b o, b ∉ fAd (lawEnv L fa) → s5.heap.get? b = some o → s8.heap.get? b = some o := fun b o hb e => B8 b o hb (l7.keep b o (l6.keep b o e))
          have hR8 : RingsH (W2 ++ (W ++ (I :: fAd (lawEnv L fa)))) s8.heap D vr P := hR.at (fun b o hb e => l58 b o (fun q => hb (List.mem_append_right _ (List.mem_append_right _ (List.mem_cons_of_mem _ q)))) e) fun _ q => q
          have hlow : s₀.toks ≤ t := Nat.le_trans htk0 ht3
          -- rings
          refine wp_assign_map (Rin := fun v (p : Addr × List Int) => v = .ref p.1 ∧ p ∈ P) (fun p => fits (signsF ns) i y z p.2) (fun v p => v = .ref p.1 ∧ p ∈ P) F10 C.hh (vs := P.map fun p => Value.ref p.1) (xs := P) ?_
            ((nm (p := fun u => u = .ref D) F10 rfl rfl).mono fun v s' l' e => ⟨D, e, (hR8.plain.at fun o e => l'.keep _ o e).isList⟩) ?_ ?_ ?_
          · have : ∀ Q : List (Addr × List Int), (∀ p ∈ Q, p ∈ P) → All2 (fun v (p : Addr × List Int) => v = .ref p.1 ∧ p ∈ P) (Q.map fun p => Value.ref p.1) Q := fun Q => by
              induction Q with
              | nil => exact fun _ => .nil
              | cons q r ih => exact fun h => .cons ⟨rfl, h q (.head _)⟩ (ih fun p hp => h p (List.mem_cons_of_mem _ hp))
            exact this P fun p hp => hp
          · have h1 : P.length ≤ 24 := by
              have h24 : (ringsAt 4).length = 24 := by decide
              have : ∀ {names signs x y zs} {R : List (List Int)}, (sieveZ names signs x y zs R).length ≤ R.length := by
                intro names signs x y zs
                induction zs with
                | nil => intro R; exact Nat.le_refl _
                | cons z zs ih =>
                  intro R
                  refine Nat.le_trans (ih (R := sieve1 names signs x y R z)) ?_
                  unfold sieve1; split
                  · exact List.length_filter_le _ _
                  · exact Nat.le_refl _
              have hYl : ∀ {names signs mates x ys} {R : List (List Int)}, (sieveY names signs mates x ys R).length ≤ R.length := by
                intro names signs mates x ys
                induction ys with
                | nil => intro R; exact Nat.le_refl _
                | cons y ys ih => intro R; exact Nat.le_trans (ih (R := sieveZ names signs x y (rowOf mates x) R)) this
              have hXl : ∀ {names signs mates xs} {R : List (List Int)}, (sieveX names signs mates xs R).length ≤ R.length := by
                intro names signs mates xs
                induction xs with
                | nil => intro R; exact Nat.le_refl _
                | cons x xs ih => intro R; exact Nat.le_trans (ih (R := sieveY names signs mates x (rowOf mates x) R)) hYl
              have e1 := congrArg List.length hP
              rw [List.length_map] at e1
              have e2 : Ry.length ≤ Rx.length := by rw [← hRy]; exact hYl
              have e3 : Rx.length ≤ 24 := by rw [← hRx, ← h24]; exact hXl
              rw [e1]; exact Nat.le_trans this (Nat.le_trans e2 e3)
            rw [List.length_map, hzl]; (first | with_reducible assumption | exact Int.natCast_nonneg _ | exact Nat.le_trans (by with_reducible assumption) (by decide) | exact Int.ofNat_lt.mpr (by with_reducible assumption) | omega)
          · intro Cc v p s9 hp hv l9 hN
            obtain ⟨rfl, hpm⟩ := hv
            have F11 := F10.grow l9
            have T11 : Tp w s9 := Ta3.le F11.le
            have Xs9 : Dat s9 ns lw lm ld ls ln rs := Xa3.le F11.le
            obtain ⟨hlen, hin⟩ := ringsAt_mem 4 p.2 (hM p hpm)
            have hring := (hR8.each p hpm).2
            have hring9 : s9.heap.PlainList p.1 (p.2.map (lit vr)).toArray := hring.at fun o e => l9.keep _ o e
            have hInts : Ints (p.2.map (lit vr)) p.2 := by
              have : ∀ q : List Int, (∀ x ∈ q, 0 ≤ x ∧ x < ((4 + 1 : Nat) : Int)) → Ints (q.map (lit vr)) q := fun q => by
                induction q with
                | nil => exact fun _ => .nil
                | cons x r ih => exact fun h => .cons ((by obtain ⟨t, e, _⟩ := hL.int (h x (.head _)).1 (h x (.head _)).2; exact ⟨t, e⟩)) (ih fun y hy => h y (List.mem_cons_of_mem _ hy))
              exact this _ hin
            refine ⟨tests1 (isTrue_cmp (p1 := IsB (fits (signsF ns) i y z p.2)) (p2 := IsB true) ?_ (pt_bool true _ _) fun _ _ _ _ h1 h2 => by
              have := o_isB (prog := prog) (w := w) (A := A) (s₀ := by assumption) h1 h2
              simpa using this), fun _ s10 l10 => (nm_x (q := fun u => u = .ref p.1) ((by obtain ⟨mc, hn, e⟩ := hN; exact ⟨mc, hn.keeps l10.keep, e⟩)) rfl).mono fun v s' l' e => ⟨e, hpm⟩⟩
            refine pt_callF (f := 56) T11 (by k_is) (pt_global T11 rfl (by k_is)) (argv2 (q := IsS (tourF p.2 (signsF ns) (idx p.2 i))) (nm_f (q := IsS (shownF (signsF ns) i y z)) F11 rfl hsh)
              (pt_callF (f := 89) T11 (by k_is) (pt_global T11 rfl (by k_is)) (argv3 (nm_x (q := fun u => u = .ref p.1) hN rfl) (nm_f (q := fun u => u = .int i t) F11 rfl rfl) (nm_f (q := fun u => u = .ref ls) F11 rfl rfl)) fun vs s' l' hv => ?_)) fun vs s' l' hv => ?_
            · obtain ⟨v1, v2, v3, rfl, rfl, rfl, rfl⟩ := hv
              obtain ⟨vsg, hsl, hS⟩ := (Xs9.signs.sls.keeps l'.keep)
              refine tour_pt (d := d + 2) C (T11.le l') (hring9.at fun o e => l'.keep _ o e).isList hInts hsl hS (q := i) (k := idx p.2 i) ⟨t, rfl⟩ (fun v hv => ?_) (ring_has p.2 (hM p hpm) i (by (first | with_reducible assumption | exact Int.natCast_nonneg _ | exact Nat.le_trans (by with_reducible assumption) (by decide) | exact Int.ofNat_lt.mpr (by with_reducible assumption) | omega))) (idx_first p.2 i) (fun r hr => ⟨(hin r hr).1, by rw [signsF_len]; exact (hin r hr).2⟩) (by rw [hlen]; decide) (by rw [signsF_len]; decide) fun x hx => Nat.le_trans (signs_len ns x hx) (by decide)
              obtain ⟨x, hx, rfl⟩ := List.mem_map.mp hv
              obtain ⟨hx0', hx5'⟩ := hin x hx
              obtain ⟨tx, e, ht1, ht2⟩ := hL.int hx0' hx5'
              refine ⟨x, i, tx, t, e, rfl, fun (q : (tx : Nat) = 0) => by (first | with_reducible assumption | exact Int.natCast_nonneg _ | exact Nat.le_trans (by with_reducible assumption) (by decide) | exact Int.ofNat_lt.mpr (by with_reducible assumption) | omega), fun (q : (t : Nat) = 0) => by (first | with_reducible assumption | exact Int.natCast_nonneg _ | exact Nat.le_trans (by with_reducible assumption) (by decide) | exact Int.ofNat_lt.mpr (by with_reducible assumption) | omega), ?_, fun _ (q : (tx : Nat) = t) => by (first | with_reducible assumption | exact Int.natCast_nonneg _ | exact Nat.le_trans (by with_reducible assumption) (by decide) | exact Int.ofNat_lt.mpr (by with_reducible assumption) | omega)⟩
              have : x = 0 ∨ x = 1 ∨ x = 2 ∨ x = 3 ∨ x = 4 := five hx0' hx5'
              rcases this with rfl | rfl | rfl | rfl | rfl <;> decide
            · obtain ⟨v1, v2, rfl, ⟨t1, rfl⟩, t2, rfl⟩ := hv
              exact ell_pt (d := d + 3) C (T11.le l') (Nat.le_trans (shown_len ns _ _ _) (by decide)) (Nat.le_trans (tour_len ns p.2 hlen _) (by decide))
          · rintro D' us s9 hD'0 hPl hA F12 B9
            obtain ⟨hf', _⟩ := F10.fresh hD'0
            have hus : us = (P.filter fun p => fits (signsF ns) i y z p.2).map fun p => Value.ref p.1 := by
              clear hPl
              generalize P.filter (fun p => fits (signsF ns) i y z p.2) = G at hA
              induction hA with
              | nil => rfl
              | cons h _ ih => rw [List.map_cons, ← ih, h.1]
            have hex8 : ∀ b ∈ W2 ++ (W ++ [I]), ∃ o, s8.heap.get? b = some o := fun b hb => by
              rcases List.mem_append.mp hb with hb | hb
              · obtain ⟨o, e⟩ := hW2ex b hb; exact ⟨o, l58 b o (hW2F b hb) e⟩
              · rcases List.mem_append.mp hb with hb | hb
                · obtain ⟨o, e⟩ := hWex5 b hb; exact ⟨o, l58 b o (hWF b hb) e⟩
                · rw [List.mem_singleton.mp hb]
                  obtain ⟨o, e⟩ := hIex5; exact ⟨o, l58 I o hIF e⟩
            have hR9 := hR8.at (h' := s9.heap) (fun b o hb e => B9 b o (fun q => hb (List.mem_append_right _ (List.mem_append_right _ (List.mem_cons_of_mem _ q)))) e) fun _ q => q
            refine wp_end ⟨_, F12, (hJZ _ _ _ _).mpr ⟨D', P.filter fun p => fits (signsF ns) i y z p.2, lookup_cons_eq, (((Has.rfl.cons rfl).cons rfl).cons rfl).cons rfl, ⟨?_, by rw [← hus]; exact hPl, fun p hp => hR9.each p (List.mem_filter.mp hp).1⟩, fun p hp => hM p (List.mem_filter.mp hp).1, ?_⟩⟩
            · intro q
              have no : ∀ b, (∃ o, s8.heap.get? b = some o) → D' ≠ b := fun b zq3 q => by obtain ⟨o, e⟩ := zq3; rw [← q, hD'0] at e; cases e
              rcases List.mem_append.mp q with q | q
              · exact no D' (hex8 D' (List.mem_append_left _ q)) rfl
              · rcases List.mem_append.mp q with q | q
                · exact no D' (hex8 D' (List.mem_append_right _ (List.mem_append_left _ q))) rfl
                · rcases List.mem_cons.mp q with q | q
                  · exact no D' (hex8 D' (List.mem_append_right _ (List.mem_append_right _ (q ▸ .head _)))) rfl
                  · exact hf' q
            · unfold sieveZ
              rw [foldl_take _ 0 _ _ hjz, hZ]
              unfold sieveZ at hP
              rw [← hP]
              unfold sieve1
              rw [if_pos hb, List.filter_map]; rfl
        · have F9 := F8.grow l6
          refine wp_end ⟨_, F9, (hJZ _ _ _ _).mpr ⟨D, P, rfl, (Has.rfl.cons rfl).cons rfl, hR.at (fun b o hb e => l6.keep b o e) fun _ q => q, hM, ?_⟩⟩
          unfold sieveZ
          rw [foldl_take _ 0 _ _ hjz, hZ]
          unfold sieveZ at hP
          rw [← hP]
          unfold sieve1
          rw [if_neg (by rw [hb]; decide)]
      · intro W2 m s5 F7 hjj
        obtain ⟨D, P, m1, m2, hR, hM, hP⟩ := (hJZ _ _ _ _).mp hjj
        refine wp_end ⟨_, F7, (hJY _ _ _ _).mpr ⟨D, P, m1, fun x v e => m2 x v ?_, hR.at (fun b o _ e => e) fun b q => List.mem_append_right _ q, hM, ?_⟩⟩
        · exact (Has.rfl.cons (x := Str.ofString "y") (v := vy) rfl) x v e
        · rw [List.take_of_length_le (Nat.le_refl _)] at hP
          unfold sieveY
          rw [foldl_take _ 0 _ _ hj, hY]
          unfold sieveY at hRy
          rw [hRy]; exact hP
    · intro W m s4 F5 hjj
      obtain ⟨D, P, m1, m2, hR, hM, hP⟩ := (hJY _ _ _ _).mp hjj
      refine wp_end ⟨_, F5, (hJX _ _ _ _).mpr ⟨D, P, m1, fun x v e => m2 x v ?_, hR.at (fun b o _ e => e) fun b q => List.mem_append_right _ q, hM, ?_⟩⟩
      · exact (Has.rfl.cons (x := Str.ofString "x") (v := .int i t) rfl) x v e
      · rw [List.take_of_length_le (Nat.le_refl _)] at hP
        rw [List.range_succ, List.map_append]
        unfold sieveX
        rw [List.foldl_append]
        unfold sieveX at hRx
        rw [hRx]; exact hP
  · intro I m s3 F3 hjj
    obtain ⟨D, P, m1, m2, hR, hM, hP⟩ := (hJX _ _ _ _).mp hjj
    obtain ⟨a, la, Fa, ka, _, kt⟩ := F3.rebaseT [] (by intro b hb; exact nomatch hb)
    refine k a s3 D P la (hR.at (fun b o hb e => ka b o (fun q => hb (List.mem_cons_of_mem _ q)) (fun q => nomatch q) e) fun _ q => nomatch q) hP (Fa.has fun x v e => ?_)
    by_cases q : x = Str.ofString "rings"
    · subst q; rw [lookup_cons_eq] at e; cases e; exact m1
    · rw [lookup_cons_ne q] at e; exact m2 _ _ e
end
end Mine
end

section
open PySem PySem.W PyProof.Rows PySem.Calls
namespace Mine
theorem sieve1_len {names signs x y z} {R : List (List Int)} : (sieve1 names signs x y R z).length ≤ R.length := by
  unfold sieve1; split
  · exact List.length_filter_le _ _
  · exact Nat.le_refl _
theorem sieveZ_len {names signs x y} : ∀ {zs} {R : List (List Int)}, (sieveZ names signs x y zs R).length ≤ R.length
  | [], _ => Nat.le_refl _
  | z :: zs, R => Nat.le_trans (sieveZ_len (zs := zs) (R := sieve1 names signs x y R z)) sieve1_len
theorem sieveY_len {names signs mates x} : ∀ {ys} {R : List (List Int)}, (sieveY names signs mates x ys R).length ≤ R.length
  | [], _ => Nat.le_refl _
  | y :: ys, R => Nat.le_trans (sieveY_len (ys := ys) (R := sieveZ names signs x y (rowOf mates x) R)) sieveZ_len
theorem sieveX_len {names signs mates} : ∀ {xs} {R : List (List Int)}, (sieveX names signs mates xs R).length ≤ R.length
  | [], _ => Nat.le_refl _
  | x :: xs, R => Nat.le_trans (sieveX_len (xs := xs) (R := sieveY names signs mates x (rowOf mates x) R)) sieveY_len
theorem sieveZ_sub {names signs x y} : ∀ {zs} {R : List (List Int)}, ∀ r ∈ sieveZ names signs x y zs R, r ∈ R
  | [], _ => fun r h => h
  | z :: zs, R => fun r h => sieve1_sub r (sieveZ_sub (zs := zs) (R := sieve1 names signs x y R z) r h)
theorem sieveY_sub {names signs mates x} : ∀ {ys} {R : List (List Int)}, ∀ r ∈ sieveY names signs mates x ys R, r ∈ R
  | [], _ => fun r h => h
  | y :: ys, R => fun r h => sieveZ_sub r (sieveY_sub (ys := ys) (R := sieveZ names signs x y (rowOf mates x) R) r h)
theorem sieveX_sub {names signs mates} : ∀ {xs} {R : List (List Int)}, ∀ r ∈ sieveX names signs mates xs R, r ∈ R
  | [], _ => fun r h => h
  | x :: xs, R => fun r h => sieveY_sub r (sieveX_sub (xs := xs) (R := sieveY names signs mates x (rowOf mates x) R) r h)
noncomputable def closeOk (ns : List Int) (ring : List Int) : Bool := closesF ring (matesAt ns 4) (piecesF ring (matesAt ns 4) (signsF ns) (dressesF ns))
theorem dress_len (n : Int) : (dressOf n).length ≤ 10 := by
  unfold dressOf
  rw [List.getD_eq_getElem?_getD]
  have : (n / 72 % 5).toNat < 5 := by (first | exact Nat.le_trans (by with_reducible assumption) (by decide) | exact Nat.le_of_lt (by with_reducible assumption) | omega)
  generalize (n / 72 % 5).toNat = j at this
  have h : ∀ j, j < 5 → ((dressOpts[j]?).getD Str.empty).length ≤ 10 := by decide
  exact h j this
theorem dresses_len (ns : List Int) : ∀ x ∈ dressesF ns, x.length ≤ 10 := fun x h => by
  unfold dressesF at h
  simp only [List.mem_cons, List.not_mem_nil, or_false] at h
  have e0 : Str.empty.length ≤ 10 := by decide
  rcases h with rfl | rfl | rfl | rfl | rfl
  · exact e0
  · exact dress_len _
  · exact e0
  · exact dress_len _
  · exact e0
theorem dressOf_le (ns : List Int) (x : Int) : (signOf (dressesF ns) x).length ≤ 10 := by
  unfold signOf
  rw [List.getD_eq_getElem?_getD]
  by_cases q : x.toNat < (dressesF ns).length
  · rw [List.getElem?_eq_getElem q]; exact dresses_len ns _ (List.getElem_mem q)
  · rw [List.getElem?_eq_none (by (first | exact Nat.le_trans (by with_reducible assumption) (by decide) | exact Nat.le_of_lt (by with_reducible assumption) | omega))]; exact Nat.zero_le _
theorem wf_of {ns : List Int} {ring : List Int} (h : ring.length = 5) (h2 : ∀ r ∈ ring, 0 ≤ r ∧ r < 5) : Wf ring (matesAt ns 4) (signsF ns) (dressesF ns) where
  ring5 := h
  inR := h2
  mates5 := matesAt_len ns 4
  rows := fun row hr => Nat.le_trans (matesAt_rows ns 4 row hr) (by decide)
  signs5 := signsF_len ns
  dresses5 := rfl
  sg := fun x hx => Nat.le_trans (signs_len ns x hx) (by decide)
  dr := fun x hx => Nat.le_trans (dresses_len ns x hx) (by decide)
theorem pieces_len {ns : List Int} {ring : List Int} (h : ring.length = 5) : (piecesF ring (matesAt ns 4) (signsF ns) (dressesF ns)).length = 5 ∧ ∀ x ∈ piecesF ring (matesAt ns 4) (signsF ns) (dressesF ns), x.length ≤ 40 := by
  refine ⟨by unfold piecesF; rw [List.length_map, List.length_range], fun x hx => ?_⟩
  obtain ⟨p, hp, rfl⟩ := List.mem_map.mp hx
  have hp5 := List.mem_range.mp hp
  unfold pieceF pieceOf
  have h1 := near_len (matesAt ns 4) (ring.getD p 0) (ring.take p)
  rw [List.length_take] at h1
  have h2 := rowOf_len ns (ring.getD p 0)
  generalize (nearIn (matesAt ns 4) (ring.getD p 0) (ring.take p)).length = came at h1
  generalize (rowOf (matesAt ns 4) (ring.getD p 0)).length = rl at h2
  have e1 := len_mul_leN (x := cls) (n := (came : Int)) (L := 1) (N := 5) (Nat.le_refl _) (by (first | exact Nat.le_trans (by with_reducible assumption) (by decide) | exact Nat.le_of_lt (by with_reducible assumption) | omega))
  have e2 := len_mul_leN (x := opn) (n := (rl : Int) - came) (L := 1) (N := 8) (Nat.le_refl _) (by (first | exact Nat.le_trans (by with_reducible assumption) (by decide) | exact Nat.le_of_lt (by with_reducible assumption) | omega))
  have e3 := signOf_len ns (ring.getD p 0)
  have e4 := dressOf_le ns (ring.getD p 0)
  rw [Str.length_append, Str.length_append, Str.length_append]
  (first | exact Nat.le_trans (by with_reducible assumption) (by decide) | exact Nat.le_of_lt (by with_reducible assumption) | omega)
theorem refs_of {P : List (Addr × List Int)} {us : List Value} {PP : List (Addr × List Int)} (hA : All2 (fun v (p : Addr × List Int) => v = .ref p.1 ∧ p ∈ PP) us P) : us = P.map fun p => Value.ref p.1 := by
  induction hA with
  | nil => rfl
  | cons h _ ih => rw [List.map_cons, ← ih, h.1]
theorem refs_in (P : List (Addr × List Int)) : All2 (fun v (p : Addr × List Int) => v = .ref p.1 ∧ p ∈ P) (P.map fun p => Value.ref p.1) P := by
  have : ∀ Q : List (Addr × List Int), (∀ p ∈ Q, p ∈ P) → All2 (fun v (p : Addr × List Int) => v = .ref p.1 ∧ p ∈ P) (Q.map fun p => Value.ref p.1) Q := fun Q => by
    induction Q with
    | nil => exact fun _ => .nil
    | cons q r ih => exact fun h => .cons ⟨rfl, h q (.head _)⟩ (ih fun p hp => h p (List.mem_cons_of_mem _ hp))
  exact this P fun p hp => hp
theorem LitOk.ints {vr : List Value} {n lo hi : Nat} (h : LitOk vr n lo hi) : ∀ q : List Int, (∀ x ∈ q, 0 ≤ x ∧ x < (n : Int)) → Ints (q.map (lit vr)) q
  | [], _ => .nil
  | x :: r, hq => .cons ((by obtain ⟨t, e, _⟩ := h.int (hq x (.head _)).1 (hq x (.head _)).2; exact ⟨t, e⟩)) (h.ints r fun y hy => hq y (List.mem_cons_of_mem _ hy))
open PySem.SeqAt in
theorem eq_ints {A : Around} {s : Shared} {l b : Addr} {vs us : List Value} {xs : List Int} (hl : s.heap.IsList l vs.toArray) (hb : s.heap.IsList b us.toArray) (h1 : Ints vs xs) (h2 : Ints us xs) (hu : A.units < cLine) : EqAt A s (.ref l) (.ref b) true := by
  by_cases q : l = b
  · subst q; exact EqAt.same _
  · have hsz : vs.toArray.size = us.toArray.size := by rw [List.size_toArray, List.size_toArray, h1.len, h2.len]
    have h := RcAt.lists (A := A) (s := s) (e := fun _ => true) hl hb hsz hu fun j hj1 hj2 => by
      have e1 : vs[j]? = some vs.toArray[j] := by simp at hj1 ⊢
      have e2 : us[j]? = some us.toArray[j] := by simp at hj2 ⊢
      obtain ⟨x, hx, t, e3⟩ := h1.get' e1
      obtain ⟨y, hy, u, e4⟩ := h2.get' e2
      rw [hx] at hy; cases hy
      rw [e3, e4]
      have := EqAt.int_int (A := A.in1) (s := s) x t x u
      rw [beq_self_eq_true] at this
      exact this
    have e : ((List.range vs.toArray.size).all fun _ => true) = true := by simp
    rw [e] at h
    exact EqAt.of_refs q h
section
variable {prog : Program} {w : World} {A : Around} {s₀ s s' : Shared} {m : Mp} {env : Env} {pos : Pos} {Q : Flow → Shared → Prop} {E : Value → Shared → Prop} {L fa : Addr} {d : Nat}
open PySem.SeqAt in
theorem o_neLL {a b : Value} {l lr l2 lm : Addr} {vs us : List Value} {xs : List Int} (ha : a = .ref l) (hl : s₀.heap.PlainList l #[.ref lr]) (hlr : s₀.heap.PlainList lr vs.toArray) (hb : b = .ref l2) (hl2 : s₀.heap.PlainList l2 #[.ref lm]) (hlm : s₀.heap.PlainList lm us.toArray) (h1 : Ints vs xs) (h2 : Ints us xs) (hu : A.units + 1 < cLine) :
    PV prog w A s₀ (compareOp .NotEq a b) (IsB false) := by
  subst ha hb
  intro s Q E l q
  have h := RcNeAt.lists (A := A) (s := s) (e := fun _ => true) (hl.at fun o e => l.keep _ o e).isList (hl2.at fun o e => l.keep _ o e).isList rfl (by (first | exact Nat.le_trans (by with_reducible assumption) (by decide) | exact Nat.le_of_lt (by with_reducible assumption) | omega)) fun j hj1 hj2 => by
    have : j = 0 := by simp at hj1; exact hj1
    subst this
    exact eq_ints (A := A.in1) (hlr.at fun o e => l.keep _ o e).isList (hlm.at fun o e => l.keep _ o e).isList h1 h2 (by show A.units + 1 < _; exact hu)
  exact h prog w E Q (q _ _ (Le.refl _) rfl)
set_option maxHeartbeats 16000000 in
theorem phI {ns made : List Int} {lw lm ld ls ln D0 lmd : Addr} {rs : List Addr} {vr vm : List Value} {P0 : List (Addr × List Int)} (C : Cx A (d + 5)) (T : Tp w s₀) (X : Dat s₀ ns lw lm ld ls ln rs)
    (F : Fm s₀ (lawEnv L fa) [(Str.ofString "rings", .ref D0), (Str.ofString "made", .ref lmd), (Str.ofString "names", .ref lw), (Str.ofString "mates", .ref lm), (Str.ofString "dresses", .ref ld), (Str.ofString "signs", .ref ls), (Str.ofString "numbers", .ref ln)] s)
    (hR0 : RingsH [] s₀.heap D0 vr P0) (hP0 : P0.map (·.2) = sieveX (namesAt ns 4) (signsF ns) (matesAt ns 4) [0, 1, 2, 3, 4] (ringsAt 4)) {lo hi : Nat} (hL : LitOk vr 5 lo hi)
    (hMd : s₀.heap.PlainList lmd vm.toArray) (hMI : Ints vm made)
    (hpure : (sieveX (namesAt ns 4) (signsF ns) (matesAt ns 4) [0, 1, 2, 3, 4] (ringsAt 4)).filter (closeOk ns) = [made])
    (k : ∀ s', Fm s₀ (lawEnv L fa) [(Str.ofString "made", .ref lmd), (Str.ofString "names", .ref lw), (Str.ofString "mates", .ref lm), (Str.ofString "dresses", .ref ld), (Str.ofString "signs", .ref ls), (Str.ofString "numbers", .ref ln)] s' → wpAny (model prog w) A (execs (lawFrom 19) (lawEnv L fa)) Q E s') :
    wpAny (model prog w) A (execs (lawFrom 17) (lawEnv L fa)) Q E s := by
  have hzl : sizeLine = 16777216 := sizeLine_eq
  have hM : ∀ p ∈ P0, p.2 ∈ ringsAt 4 := fun p hp => sieveX_sub p.2 (by rw [← hP0]; exact List.mem_map_of_mem (f := (·.2)) hp)
  have hlen0 : P0.length ≤ 24 := by
    have h24 : (ringsAt 4).length = 24 := by decide
    rw [← h24]
    have := sieveX_len (names := namesAt ns 4) (signs := signsF ns) (mates := matesAt ns 4) (xs := [0, 1, 2, 3, 4]) (R := ringsAt 4)
    rw [← hP0, List.length_map] at this; exact this
  have hR1 := hR0.at (h' := s.heap) (fun b o _ e => F.le.keep b o e) fun b (q : b ∈ []) => q
  rw [lawStep 17 (by decide)]
  refine wp_assign_map (Rin := fun v (p : Addr × List Int) => v = .ref p.1 ∧ p ∈ P0) (fun p => closeOk ns p.2) (fun v p => v = .ref p.1 ∧ p ∈ P0) F C.hh (vs := P0.map fun p => Value.ref p.1) (xs := P0) (refs_in P0)
    ((nm (p := fun u => u = .ref D0) F rfl rfl).mono fun v s' l' e => ⟨D0, e, (hR1.plain.at fun o e => l'.keep _ o e).isList⟩) (by rw [List.length_map, hzl]; (first | exact Nat.le_trans (by with_reducible assumption) (by decide) | exact Nat.le_of_lt (by with_reducible assumption) | omega)) ?_ ?_
  · intro Cc v p s9 hp hv l9 hN
    obtain ⟨rfl, hpm⟩ := hv
    have F11 := F.grow l9
    have T11 : Tp w s9 := T.le F11.le
    have X9 := X.le F11.le
    obtain ⟨hlen, hin⟩ := ringsAt_mem 4 p.2 (hM p hpm)
    have hring9 : ILs s9.heap p.1 p.2 := ⟨_, ((hR1.each p hpm).2.at fun o e => l9.keep _ o e).isList, hL.ints p.2 hin⟩
    refine ⟨tests1 (isTrue_call ?_), fun _ s10 l10 => (nm_x (q := fun u => u = .ref p.1) ((by obtain ⟨mc, hn, e⟩ := hN; exact ⟨mc, hn.keeps l10.keep, e⟩)) rfl).mono fun v s' l' e => ⟨e, hpm⟩⟩
    refine pt_callF (f := 99) (PA := fun vs s' => ∃ lp, vs = [.ref p.1, .ref lm, .ref lp] ∧ SLs s'.heap lp (piecesF p.2 (matesAt ns 4) (signsF ns) (dressesF ns))) T11 (by k_is) (pt_global T11 rfl (by k_is))
      (argsC (by rfl) (nm_x (q := fun u => u = .ref p.1) hN rfl) (P2 := fun vs s' => ∃ lp, vs = [.ref lm, .ref lp] ∧ SLs s'.heap lp (piecesF p.2 (matesAt ns 4) (signsF ns) (dressesF ns))) (fun v s1 l1 _ => argsC (by rfl) (nm_f (q := fun u => u = .ref lm) (F11.grow l1) rfl rfl) (P2 := fun vs s' => ∃ lp, vs = [.ref lp] ∧ SLs s'.heap lp (piecesF p.2 (matesAt ns 4) (signsF ns) (dressesF ns))) (fun v2 s2 l2 _ => ?_) fun v s1 vs s2 _ e _ zq0 => (by obtain ⟨lp, e2, h⟩ := zq0; exact ⟨lp, by rw [e, e2], h⟩)) fun v s1 vs s2 _ e _ zq1 => (by obtain ⟨lp, e2, h⟩ := zq1; exact ⟨lp, by rw [e, e2], h⟩)) fun vs s' l' hv => ?_
    · have F2 := (F11.grow l1).grow l2
      have l12 := l1.trans l2
      have T2 : Tp w s2 := T11.le l12
      refine (args1 (P := fun v s' => ∃ lp, v = .ref lp ∧ SLs s'.heap lp (piecesF p.2 (matesAt ns 4) (signsF ns) (dressesF ns))) (pt_callF (f := 94) T2 (by k_is) (pt_global T2 rfl (by k_is))
        (PA := fun vs _ => vs = [.ref p.1, .ref lm, .ref ls, .ref ld]) ?_ fun vs s' l' hv => ?_)).mono fun vs s' l' zq2 => (by obtain ⟨v, e, s3, l3, lp, e2, h⟩ := zq2; exact ⟨lp, by rw [e, e2], h.keeps l3.keep⟩)
      · have hN2 : ∃ mc, s2.heap.Ns Cc mc ∧ mc (Str.ofString "ring") = some (.ref p.1) := (by obtain ⟨mc, hn, e⟩ := hN; exact ⟨mc, hn.keeps l12.keep, e⟩)
        exact argsC (by rfl) (nm_x (q := fun u => u = .ref p.1) hN2 rfl) (fun v s1 l1 _ => argv3 (nm_f (q := fun u => u = .ref lm) (F2.grow l1) rfl rfl) (nm_f (q := fun u => u = .ref ls) (F2.grow l1) rfl rfl) (nm_f (q := fun u => u = .ref ld) (F2.grow l1) rfl rfl)) fun v s1 vs s2 _ e _ zq3 => by obtain ⟨v1, v2, v3, e2, h1, h2, h3⟩ := zq3; rw [e, e2, h1, h2, h3]
      · subst hv
        have Xs := X9.le (l12.trans l')
        exact (pieces_pt (d := d + 3) C (T2.le l') (wf_of hlen hin) (hring9.keeps (l12.trans l').keep) Xs.nest Xs.signs.sls Xs.dresses).mono fun v s' l' zq4 => (by obtain ⟨D, ws, e, _, hp, hS⟩ := zq4; exact ⟨D, e, ws, hp.isList, hS⟩)
    · obtain ⟨lp, rfl, hlp⟩ := hv
      obtain ⟨h5, h40⟩ := pieces_len (ns := ns) (ring := p.2) hlen
      exact closes_pt (d := d + 1) C (T11.le l') hlen hin (matesAt_len ns 4) h5 (fun x hx => Nat.le_trans (h40 x hx) (by decide)) (hring9.keeps l'.keep) (X9.le l').nest hlp
  · rintro D' us s9 hD'0 hPl hA F12 B9
    have hus := refs_of hA
    have hP' : (P0.filter fun p => closeOk ns p.2).map (·.2) = [made] := by
      rw [← hpure, ← hP0, List.filter_map]; rfl
    obtain ⟨lr, hPe⟩ : ∃ lr, (P0.filter fun p => closeOk ns p.2) = [(lr, made)] := by
      generalize (P0.filter fun p => closeOk ns p.2) = G at hP'
      match G, hP' with
      | [(a, b)], h => simp at h; exact ⟨a, by rw [h]⟩
    have hlr : (lr, made) ∈ P0 := (List.mem_filter.mp (by rw [hPe]; exact .head _ : (lr, made) ∈ P0.filter fun p => closeOk ns p.2)).1
    obtain ⟨hlen, hin⟩ := ringsAt_mem 4 made (hM _ hlr)
    have hlr9 : s9.heap.PlainList lr (made.map (lit vr)).toArray := (hR1.each _ hlr).2.at fun o e => B9 lr o (F.offB (show s₀.heap.get? lr = some _ from (hR0.each _ hlr).2.choose_spec)) e
    rw [hus, hPe] at hPl
    rw [lawStep 18 (by decide)]
    refine wp_if1 (b := false) (isTrue_cmp1 (b := false) (P1 := fun v _ => v = .ref D') (P2 := fun v s' => ∃ l2, v = .ref l2 ∧ s'.heap.PlainList l2 #[.ref lmd]) (nm F12 rfl rfl) (fun a s1 l1 _ => (pt_display (ps := [fun v => v = .ref lmd]) (.cons (nm (F12.grow l1) rfl rfl) rfl .nil) (by rw [hzl]; simp)).mono fun v s' l' zq5 => (by obtain ⟨D2, vs, e, _, hp, hA⟩ := zq5; exact ⟨D2, e, by
      obtain ⟨v, vr, rfl, rfl, hh⟩ := hA.cons_inv
      cases hh; exact hp⟩)) fun a b s1 s2 l1 ea l2 zq6 => (by obtain ⟨l3, eb, hb⟩ := zq6; exact o_neLL ea (hPl.at fun o e => (l1.trans l2).keep _ o e) (hlr9.at fun o e => (l1.trans l2).keep _ o e) eb hb (hMd.at fun o e => (F12.le.trans (l1.trans l2)).keep _ o e) (hL.ints made hin) hMI (by have := C.un; (first | exact Nat.le_trans (by with_reducible assumption) (by decide) | exact Nat.le_of_lt (by with_reducible assumption) | omega)))) (fun hb => nomatch hb) fun _ s10 l10 => ?_
    exact k s10 ((F12.grow l10).has ((Has.rfl.cons rfl).cons rfl))
end
end Mine
end

section
open PySem PySem.W PyProof.Rows PySem.Calls
namespace Mine
noncomputable def wholeF (ns made : List Int) : Str := Txt.join Str.empty (piecesF made (matesAt ns 4) (signsF ns) (dressesF ns))
theorem whole_len {ns made : List Int} (h : made.length = 5) : (wholeF ns made).length ≤ 200 := by
  obtain ⟨h5, h40⟩ := pieces_len (ns := ns) h
  have := join_len Str.empty _ 40 h40
  rw [h5, show Str.empty.length = 0 from rfl] at this
  exact this
section
variable {prog : Program} {w : World} {A : Around} {s₀ s s' : Shared} {m : Mp} {env : Env} {pos : Pos} {Q : Flow → Shared → Prop} {E : Value → Shared → Prop} {L fa : Addr} {d : Nat}
/-- a loop that makes nothing that is kept -/
theorem wp_forK {x : Str} {px pos : Pos} {iter : Expr} {body rest : List Stmt} {PI : Value → Shared → Prop} {n : Nat} {P : Nat → Value → Prop} {ps : Mp}
    (F : Fm s₀ env ps s) (hi : PT prog w A s (eval iter env) PI) (hsrc : ∀ v s₁, Le s s₁ → PI v s₁ → ∃ src, Src prog w A s₁ v src n P ∧ ∀ b ∈ src, b ∉ fAd env)
    (turn : ∀ i v a s', i < n → P i v → Le s₀ a → Fm a env ((x, v) :: ps) s' →
      wpAny (model prog w) A (execs body env) (LQ prog w A a env (fun m' _ => Has ps m') rest Q E) (fun _ _ => False) s')
    (done : ∀ s, Fm s₀ env ps s → wpAny (model prog w) A (execs rest env) Q E s)
    (hps : ps.all (fun p => p.1 != x) = true := by rfl)
    (hx : env.kindOf x = some .local ∨ (env.kindOf x = some .cell ∧ (env.cells.lookup x).isSome = true) := by first | exact Or.inl rfl | exact Or.inr ⟨rfl, rfl⟩)
    (hs : ∀ v, foldedSetIterable iter env v = pure v := by intro _; rfl) :
    wpAny (model prog w) A (execs (.For (.Name x px) iter body [] pos :: rest) env) Q E s := by
  refine wp_forW (fun _ _ m _ => Has ps m) F hi hsrc (fun _ _ _ _ _ _ h _ => h) (fun _ _ => Has.rfl) (fun W i v a m s' hi hv _ _ la _ _ _ F3 hm => ?_) (fun _ m s' F3 hm => done s' (F3.has hm)) hx hs
  refine turn i v a s' hi hv la (F3.has fun y u e => ?_)
  by_cases q : y = x
  · subst q; rw [lookup_cons_eq] at e ⊢; exact e
  · rw [lookup_cons_ne q] at e ⊢; exact hm _ _ e
theorem letGo_tup {elts : List Expr} {k : Nat} {pos : Pos} {I l T : Addr} {i : Nat} {Q : Unit → Shared → Prop} (hit : s.heap.IsTupleIter I l i) (hQ : Q () s) :
    wpAny (model prog w) A (letOwnedTupleGo (.Tuple elts k pos) (.ref I) (.ref T)) Q E s := by
  obtain ⟨o, ho, hc, hd⟩ := hit
  unfold letOwnedTupleGo
  refine wpAny_bind (wpAny_load ho ?_)
  rw [hc, hd]
  show wpAny _ A (if (["enumerate", "zip", "dict_itemiterator", "dict_reverseitemiterator", "odict_iterator", "itertools.zip_longest", "itertools.pairwise"].contains "tuple_iterator" &&
      (#[.ref l, .int i 0] : Array Value)[0]? == some (rawInt T)) = true then _ else _) Q E s
  rw [if_neg (by
    intro h
    rw [show (["enumerate", "zip", "dict_itemiterator", "dict_reverseitemiterator", "odict_iterator", "itertools.zip_longest", "itertools.pairwise"].contains "tuple_iterator") = false from by decide, Bool.false_and] at h
    cases h)]
  exact wpAny_pure hQ
/-- pairs in a tuple -/
noncomputable def Duo (s s' : Shared) (p : (Value → Prop) × (Value → Prop)) (v : Value) : Prop := ∃ T a b, v = .ref T ∧ s.heap.get? T = none ∧ s'.heap.IsTuple T #[a, b] ∧ p.1 a ∧ p.2 b
theorem wp_forD {x y : Str} {px py tpos pos : Pos} {tk : Nat} {iter : Expr} {body rest : List Stmt} {pps : List ((Value → Prop) × (Value → Prop))} {ps : Mp}
    (F : Fm s₀ env ps s) (hh : A.handled = none) (hi : PT prog w A s (eval iter env) (fun v s' => ∃ t vs, v = .ref t ∧ s.heap.get? t = none ∧ s'.heap.IsTuple t (vs : List Value).toArray ∧ All2 (fun v p => Duo s s' p v) vs pps))
    (turn : ∀ p va vb a s', p ∈ pps → p.1 va → p.2 vb → Le s₀ a → Fm a env ((y, vb) :: (x, va) :: ps) s' →
      wpAny (model prog w) A (execs body env) (LQ prog w A a env (fun m' _ => Has ps m') rest Q E) (fun _ _ => False) s')
    (done : ∀ s, Fm s₀ env ps s → wpAny (model prog w) A (execs rest env) Q E s)
    (hpx : ps.all (fun p => p.1 != x) = true := by rfl) (hpy : ps.all (fun p => p.1 != y) = true := by rfl)
    (hx : env.kindOf x = some .local ∨ (env.kindOf x = some .cell ∧ (env.cells.lookup x).isSome = true) := by first | exact Or.inl rfl | exact Or.inr ⟨rfl, rfl⟩)
    (hy : env.kindOf y = some .local ∨ (env.kindOf y = some .cell ∧ (env.cells.lookup y).isSome = true) := by first | exact Or.inl rfl | exact Or.inr ⟨rfl, rfl⟩)
    (hs : ∀ v, foldedSetIterable iter env v = pure v := by intro _; rfl) :
    wpAny (model prog w) A (execs (.For (.Tuple [.Name x px, .Name y py] tk tpos) iter body [] pos :: rest) env) Q E s := by
  refine wp_cons (wpAny_For (hi.use fun v s₁ l1 p1 => ?_) hs)
  obtain ⟨t, vs, rfl, ht0, ht, hA⟩ := p1
  refine wpAny_pyIter_tuple ht ?_
  have hne : t ≠ s₁.heap.objs.size := by obtain ⟨o, ho, _⟩ := id ht; exact Nat.ne_of_lt (Heap.lt_size ho)
  generalize hI : s₁.heap.objs.size = I at hne
  have hI0 : s₁.heap.get? I = none := by rw [← hI]; exact new_none _ _ (Nat.le_refl _)
  have W := Walks.tuple (prog := prog) (w := w) hh I t hne vs.toArray
  rw [show vs.toArray.size = vs.length from List.size_toArray] at W
  have l2 : Le s₁ { s₁ with heap := s₁.heap.push { cls := .type "tuple_iterator", data := .fields #[.ref t, .int 0 0] } } := Le.push
  have st0 : ({ s₁ with heap := s₁.heap.push { cls := .type "tuple_iterator", data := .fields #[.ref t, .int 0 0] } } : Shared).heap.IsTupleIter I t 0 ∧ ({ s₁ with heap := s₁.heap.push { cls := .type "tuple_iterator", data := .fields #[.ref t, .int 0 0] } } : Shared).heap.IsTuple t vs.toArray :=
    ⟨⟨_, by rw [← hI]; exact Heap.get?_push_size _ rfl, rfl, rfl⟩, let ⟨o, ho, r⟩ := ht; ⟨o, Heap.get?_push_of_some _ ho, r⟩⟩
  generalize ({ s₁ with heap := s₁.heap.push { cls := .type "tuple_iterator", data := .fields #[.ref t, .int 0 0] } } : Shared) = s₂ at l2 st0
  have F2 := (F.grow l1).grow l2
  have hIF : I ∉ fAd env := fun hm => by
    obtain ⟨o, ho⟩ := (F.grow l1).there I hm
    rw [hI0] at ho; cases ho
  have hI00 : s₀.heap.get? I = none := none_le (F.le.trans l1) hI0
  have htF : t ∉ fAd env := (F.fresh ht0).1
  have hA2 : All2 (fun v (p : (Value → Prop) × (Value → Prop)) => ∃ T a b, v = .ref T ∧ T ∉ fAd env ∧ T ≠ I ∧ s₂.heap.IsTuple T #[a, b] ∧ p.1 a ∧ p.2 b) vs pps := hA.mono fun v p ⟨T, a, b, e, h0, hT, ha, hb⟩ =>
    ⟨T, a, b, e, (F.fresh h0).1, (fun q => (by obtain ⟨o, ho, _⟩ := id hT; rw [q, hI0] at ho; cases ho) : T ≠ I), hT.at fun o e => l2.keep _ o e, ha, hb⟩
  obtain ⟨Iv, hIv⟩ : ∃ Iq : Nat → Shared → Prop, ∀ k s', Iq k s' ↔ ∃ i m, i ≤ vs.length ∧ k = vs.length + 1 - i ∧ Fm s₀ env m s' ∧ Has ps m ∧ (s'.heap.IsTupleIter I t i ∧ s'.heap.IsTuple t vs.toArray) ∧ ∀ b o, b ∉ fAd env → b ≠ I → s₂.heap.get? b = some o → s'.heap.get? b = some o := ⟨_, fun _ _ => Iff.rfl⟩
  refine codeAny_forLoop_any Iv ?_ (vs.length + 1)
    ((hIv _ _).mpr ⟨0, ps, Nat.zero_le _, rfl, F2, Has.rfl, st0, fun _ _ _ _ e => e⟩)
  intro k s' hIk
  obtain ⟨i, m, hin, hk0, F, hm, hst, hold⟩ := (hIv k s').mp hIk
  by_cases hlt : i < vs.length
  · refine wp_tk (W.item i s' _ _ hlt hst fun v h' tk hv hst' hk htk => ?_)
    have hv' : vs[i]? = some v := by simpa using hv
    obtain ⟨p, hp, T, va, vb, rfl, hTF, hTI, hT, pa, pb⟩ := hA2.get' hv'
    have F' := F.mut (tk := tk) hk (fun b hb => by rw [List.mem_singleton.mp hb]; exact hI00) (fun b hb => by rw [List.mem_singleton.mp hb]; exact hIF) htk
    have hk' : ∀ b o, b ≠ I → s'.heap.get? b = some o → h'.get? b = some o := fun b o hb e => hk b o (fun q => hb (List.mem_singleton.mp q)) e
    refine letGo_tup (i := i + 1) hst'.1 ?_
    have hT' : h'.IsTuple T #[va, vb] := hT.at fun o e => hk' T o hTI (hold T o hTF hTI e)
    refine wpAny_assign_Tuple (s := { s' with heap := h', toks := tk }) hh hT' rfl rfl fun h'' he => ?_
    have l₄ : Le { s' with heap := h', toks := tk } { s' with heap := h'', toks := tk } := .of_same (fun c o e => he c o (Nat.ne_of_lt (Heap.lt_size e)) e) rfl rfl
    have F₄ := F'.grow l₄
    refine assignInOrder_cons (wpAny_assign_Name (wp_store F₄ hx fun s₅ F₅ B₅ g₅ => assignInOrder_cons (wpAny_assign_Name (wp_store F₅ hy fun s₆ F₆ B₆ g₆ => assignInOrder_nil ?_))))
    have kp : ∀ b o, b ∉ fAd env → h'.get? b = some o → s₆.heap.get? b = some o := fun b o hb e => B₆ b o hb (B₅ b o hb (l₄.keep b o e))
    have F7 : Fm s₀ env ((y, vb) :: (x, va) :: ps) s₆ := F₆.has fun z u e => by
      by_cases q : z = y
      · subst q; rw [lookup_cons_eq] at e ⊢; exact e
      · rw [lookup_cons_ne q] at e ⊢
        by_cases q : z = x
        · subst q; rw [lookup_cons_eq] at e ⊢; exact e
        · rw [lookup_cons_ne q] at e ⊢; exact hm _ _ e
    refine wpAny_mono (turn p va vb (anchor env [] s₆) s₆ (List.mem_of_getElem? hp) pa pb (anchor_ge F7 fun b hb => nomatch hb) (anchor_fm F7 [])) (fun fl s₇ h₇ => ?_) fun _ _ x => x.elim
    have step : (∃ m', Fm (anchor env [] s₆) env m' s₇ ∧ Has ps m') → ∃ k', k' < k ∧ Iv k' s₇ := by
      rintro ⟨m', F₈, hm'⟩
      have kp7 : ∀ b o, b ∉ fAd env → h'.get? b = some o → s₇.heap.get? b = some o := fun b o hb e => F₈.le.keep b o (anchor_get (kp b o hb e) hb fun q => nomatch q)
      exact ⟨vs.length + 1 - (i + 1), cd_lt hk0 hlt, (hIv _ _).mpr ⟨i + 1, m', hlt, rfl, F₈.weak (anchor_ge F7 fun b hb => nomatch hb) F7.newL F7.newC, hm', ⟨hst'.1.at fun o e => kp7 I o hIF e, hst'.2.at fun o e => kp7 t o htF e⟩, fun b o h1 h2 e => kp7 b o h1 (hk' b o h2 (hold b o h1 h2 e))⟩⟩
    cases fl with
    | next => exact step h₇
    | cont => exact step h₇
    | brk => exact h₇
    | ret v => exact h₇
  · have : vs.length = i := (end_eq hin hlt).symm
    clear hIk
    subst this
    refine wp_tk (W.done s' _ _ hst fun h' tk hk htk => wpAny_execs_nil ?_)
    exact done _ ((F.mut (tk := tk) hk (fun b hb => by rw [List.mem_singleton.mp hb]; exact hI00) (fun b hb => by rw [List.mem_singleton.mp hb]; exact hIF) htk).has hm)

theorem pt_check {nx : Str} {np : Pos} {e : Expr} {x : Str} (C : Cx A (d + 3)) (T : Tp w s₀) (hk : keepIn (_root_.Mine.hd.heap_39 w.params) (.ref 77) = true) (hf : PV prog w A s₀ (eval (.Name nx np) env) (fun u => u = .ref 77)) (h : PV prog w A s₀ (eval e env) (IsS x)) (hx : x.length ≤ 1000)
    (he : starEach (e :: []) env = (false, eval e env) :: starEach [] env := by rfl) : PV prog w A s₀ (eval (.Call (.Name nx np) [e] [] pos) env) (IsB (checkF x)) :=
  pt_callF T hk hf (argv1 h he) (fun vs s' l' hv => by
    obtain ⟨v, rfl, t, rfl⟩ := hv
    exact check_pt C (T.le l') hx) he rfl
set_option maxHeartbeats 16000000 in
theorem phJ {ns made : List Int} {lw lm ld ls ln lmd : Addr} {rs : List Addr} {vm : List Value} (C : Cx A (d + 5)) (T : Tp w s₀) (X : Dat s₀ ns lw lm ld ls ln rs)
    (F : Fm s₀ (lawEnv L fa) [(Str.ofString "made", .ref lmd), (Str.ofString "names", .ref lw), (Str.ofString "mates", .ref lm), (Str.ofString "dresses", .ref ld), (Str.ofString "signs", .ref ls), (Str.ofString "numbers", .ref ln)] s)
    (hMd : s₀.heap.PlainList lmd vm.toArray) (hMI : Ints vm made) (hlen : made.length = 5) (hin : ∀ x ∈ made, 0 ≤ x ∧ x < 5)
    (hc1 : checkF (wholeF ns made) = true) (hc2 : checkF ((Str.ofString "\"(\"" ++ wholeF ns made) ++ Str.ofString "\"") = true)
    (hc3 : checkF (wholeF ns made ++ Str.ofString "\"(") = false) (hc4 : checkF ((Str.ofString ")" ++ wholeF ns made) ++ Str.ofString "(") = false)
    (k : ∀ s', Fm s₀ (lawEnv L fa) [(Str.ofString "made", .ref lmd), (Str.ofString "names", .ref lw), (Str.ofString "mates", .ref lm), (Str.ofString "dresses", .ref ld), (Str.ofString "signs", .ref ls), (Str.ofString "numbers", .ref ln)] s' → wpAny (model prog w) A (execs (lawFrom 22) (lawEnv L fa)) Q E s') :
    wpAny (model prog w) A (execs (lawFrom 19) (lawEnv L fa)) Q E s := by
  have hzl : sizeLine = 16777216 := sizeLine_eq
  obtain ⟨h5, h40⟩ := pieces_len (ns := ns) hlen
  have hwl := whole_len (ns := ns) hlen
  have Ts : Tp w s := T.le F.le
  rw [lawStep 19 (by decide)]
  refine wp_assign F (P := fun v _ => IsS (wholeF ns made) v) (pt_join (texts := piecesF made (matesAt ns 4) (signsF ns) (dressesF ns)) (pt_str _ _ _) (pt_callF (f := 94) Ts (by k_is) (pt_global Ts rfl (by k_is))
      (PA := fun vs _ => vs = [.ref lmd, .ref lm, .ref ls, .ref ld]) ?_ fun vs s' l' hv => ?_) (joinOk_small (b := 40) h40 (by rw [h5, show Str.empty.length = 0 from rfl]; decide))) ?_
  · exact argsC (by rfl) (nm (p := fun u => u = .ref lmd) F rfl rfl) (fun v s1 l1 _ => argv3 (nmC (p := fun u => u = .ref lm) (F.grow l1) rfl rfl) (nmC (p := fun u => u = .ref ls) (F.grow l1) rfl rfl) (nmC (p := fun u => u = .ref ld) (F.grow l1) rfl rfl)) fun v s1 vs s2 _ e _ ⟨v1, v2, v3, e2, h1, h2, h3⟩ => by rw [e, e2, h1, h2, h3]
  · subst hv
    have Xs := X.le (F.le.trans l')
    exact (pieces_pt (d := d + 3) C (Ts.le l') (wf_of hlen hin) ⟨_, (hMd.at fun o e => (F.le.trans l').keep _ o e).isList, hMI⟩ Xs.nest Xs.signs.sls Xs.dresses).mono fun v s' l' ⟨D, ws, e, _, hp, hS⟩ => ⟨D, ws, e, hp.isList, hS⟩
  rintro vw s1 l1 hvw s2 F2 B2 g2
  have T2 : Tp w s2 := T.le F2.le
  have hps : ∀ (ps : List Str) (b : Bool), (∀ x ∈ ps, checkF x = b) → ∀ i v (p : Value → Prop), (ps.map fun x => IsS x)[i]? = some p → p v → ∃ x, IsS x v ∧ checkF x = b ∧ x ∈ ps := fun ps b h i v p e hp => by
    rw [List.getElem?_map] at e
    obtain ⟨x, hx, rfl⟩ := Option.map_eq_some_iff.mp e
    exact ⟨x, hp, h x (List.mem_of_getElem? hx), List.mem_of_getElem? hx⟩
  have l1' : (Str.ofString "\"(\"").length = 3 := rfl
  have l2' : (Str.ofString "\"").length = 1 := rfl
  have l3' : (Str.ofString "\"(").length = 2 := rfl
  have l4' : (Str.ofString ")").length = 1 := rfl
  have l5' : (Str.ofString "(").length = 1 := rfl
  rw [lawStep 20 (by decide)]
  refine wp_forK (n := 2) (P := fun i v => ∃ x, IsS x v ∧ checkF x = true ∧ x ∈ [wholeF ns made, (Str.ofString "\"(\"" ++ wholeF ns made) ++ Str.ofString "\""]) F2
    (pt_tuple (ps := [wholeF ns made, (Str.ofString "\"(\"" ++ wholeF ns made) ++ Str.ofString "\""].map fun x => IsS x)
      (.cons (nm F2 rfl hvw) rfl (.cons (pv_add_str (pv_add_str (pt_str _ _ _) (nm F2 rfl hvw) (by rw [hzl, l1']; (first | exact Nat.le_trans (by with_reducible assumption) (by decide) | omega))) (pt_str _ _ _) (by rw [hzl, Str.length_append, l1', l2']; (first | exact Nat.le_trans (by with_reducible assumption) (by decide) | omega))) rfl .nil)) (by rw [hzl]; simp))
    (fun v s3 l3 h => let ⟨src, h1, h2⟩ := tuple_src (D := []) F2 C.hh (fun b hb => nomatch hb) h (hps _ true fun x hx => by
      simp only [List.mem_cons, List.not_mem_nil, or_false] at hx
      rcases hx with rfl | rfl
      · exact hc1
      · exact hc2); ⟨src, h1, fun b hb => (h2 b hb).1⟩) (fun i v a s3 hi ⟨x, hx, hcx, hxm⟩ la F3 => ?_) fun s3 F3 => ?_
  · have T3 : Tp w s3 := (T.le la).le F3.le
    have hxl : x.length ≤ 1000 := by
      simp only [List.mem_cons, List.not_mem_nil, or_false] at hxm
      rcases hxm with rfl | rfl
      · (first | exact Nat.le_trans (by with_reducible assumption) (by decide) | omega)
      · rw [Str.length_append, Str.length_append, l1', l2']; (first | exact Nat.le_trans (by with_reducible assumption) (by decide) | omega)
    refine wp_if1 (b := false) (isTrue_cmp (b' := false) (p1 := IsB true) (p2 := IsB true) (hcx ▸ pt_check (d := d + 2) C T3 (by k_is) (pt_global T3 rfl (by k_is)) (nm F3 rfl hx) hxl) (pt_bool true _ _) fun _ _ _ _ h1 h2 => o_isntB h1 h2) (fun hb => nomatch hb) fun _ s4 l4 => wp_end ⟨_, F3.grow l4, Has.rfl.cons rfl⟩
  rw [lawStep 21 (by decide)]
  have T3 : Tp w s3 := T.le F3.le
  refine wp_forK (n := 2) (P := fun i v => ∃ x, IsS x v ∧ checkF x = false ∧ x ∈ [wholeF ns made ++ Str.ofString "\"(", (Str.ofString ")" ++ wholeF ns made) ++ Str.ofString "("]) F3
    (pt_tuple (ps := [wholeF ns made ++ Str.ofString "\"(", (Str.ofString ")" ++ wholeF ns made) ++ Str.ofString "("].map fun x => IsS x)
      (.cons (pv_add_str (nm F3 rfl hvw) (pt_str _ _ _) (by rw [hzl, l3']; (first | exact Nat.le_trans (by with_reducible assumption) (by decide) | omega))) rfl (.cons (pv_add_str (pv_add_str (pt_str _ _ _) (nm F3 rfl hvw) (by rw [hzl, l4']; (first | exact Nat.le_trans (by with_reducible assumption) (by decide) | omega))) (pt_str _ _ _) (by rw [hzl, Str.length_append, l4', l5']; (first | exact Nat.le_trans (by with_reducible assumption) (by decide) | omega))) rfl .nil)) (by rw [hzl]; simp))
    (fun v s3 l3 h => let ⟨src, h1, h2⟩ := tuple_src (D := []) F3 C.hh (fun b hb => nomatch hb) h (hps _ false fun x hx => by
      simp only [List.mem_cons, List.not_mem_nil, or_false] at hx
      rcases hx with rfl | rfl
      · exact hc3
      · exact hc4); ⟨src, h1, fun b hb => (h2 b hb).1⟩) (fun i v a s4 hi ⟨x, hx, hcx, hxm⟩ la F4 => ?_) fun s4 F4 => k s4 (F4.has (Has.rfl.cons rfl))
  have T4 : Tp w s4 := (T.le la).le F4.le
  have hxl : x.length ≤ 1000 := by
    simp only [List.mem_cons, List.not_mem_nil, or_false] at hxm
    rcases hxm with rfl | rfl
    · rw [Str.length_append, l3']; (first | exact Nat.le_trans (by with_reducible assumption) (by decide) | omega)
    · rw [Str.length_append, Str.length_append, l4', l5']; (first | exact Nat.le_trans (by with_reducible assumption) (by decide) | omega)
  exact wp_if1 (b := false) (isTrue_cmp (b' := false) (p1 := IsB false) (p2 := IsB false) (hcx ▸ pt_check (d := d + 2) C T4 (by k_is) (pt_global T4 rfl (by k_is)) (nm F4 rfl hx) hxl) (pt_bool false _ _) fun _ _ _ _ h1 h2 => o_isntB h1 h2) (fun hb => nomatch hb) fun _ s5 l5 => wp_end ⟨_, F4.grow l5, Has.rfl.cons rfl⟩
end
end Mine
end

section
open PySem PySem.W PyProof.Rows PySem.Calls
namespace Mine
noncomputable def pOf (ns : List Int) : Int := ns.getD 0 0 % 5
noncomputable def farOf (ns : List Int) : Int := 1 + ns.getD 0 0 / 5 % 4
noncomputable def sOf (ns made : List Int) : Int := made.getD (pOf ns).toNat 0
noncomputable def tOf (ns made : List Int) : Int := made.getD ((pOf ns + farOf ns) % 5).toNat 0
noncomputable def tourOf (ns made : List Int) : Str := tourF made (signsF ns) (idx made (sOf ns made))
noncomputable def roundsOf (ns made : List Int) : Str := tourOf ns made ++ Txt.slice (tourOf ns made) (some 1) none
noncomputable def codeOf (ns : List Int) (x : Int) : Nat := (20000 + 3000 * ((x.toNat : Nat) : Int) + ns.getD x.toNat 0 / 360).toNat
theorem signOf_code (ns : List Int) {x : Int} (h0 : 0 ≤ x) (h1 : x < 5) : signOf (signsF ns) x = ⟨#[codeOf ns x]⟩ := by
  have : x.toNat < 5 := by omega
  unfold signOf signsF codeOf
  rw [List.getD_eq_getElem?_getD, List.getElem?_map, List.getElem?_eq_getElem (by rw [List.length_range]; exact this)]
  simp [sgnOf]
theorem idx_at {ring : List Int} {q : Int} (h : q ∈ ring) : ring[idx ring q]? = some q := by
  have hl : idx ring q < ring.length := List.findIdx_lt_length.mpr ⟨q, h, by simp⟩
  rw [List.getElem?_eq_getElem hl]
  have := List.findIdx_getElem (xs := ring) (p := (· == q)) (w := hl)
  simp only [beq_iff_eq] at this
  exact congrArg some this
theorem rounds_len {ns made : List Int} (h : made.length = 5) : (roundsOf ns made).length ≤ 20 := by
  have h1 := tour_len ns made h (idx made (sOf ns made))
  have h2 := Txt.slice_le (tourOf ns made) (some 1) none
  unfold roundsOf
  rw [Str.length_append]
  unfold tourOf at *; omega
theorem p_bnd {ns : List Int} : 0 ≤ pOf ns ∧ pOf ns < 5 := by unfold pOf; omega
theorem far_bnd {ns : List Int} : 1 ≤ farOf ns ∧ farOf ns < 5 := by unfold farOf; omega
theorem getD_in {made : List Int} (hl : made.length = 5) {i : Int} (h0 : 0 ≤ i) (h1 : i < 5) : made.getD i.toNat 0 ∈ made := getD_mem (by omega)
section
variable {prog : Program} {w : World} {A : Around} {s₀ s s' : Shared} {m : Mp} {env : Env} {pos : Pos} {Q : Flow → Shared → Prop} {E : Value → Shared → Prop} {L fa : Addr} {d : Nat}
/-- an item of a list of whole numbers, its value -/
theorem pt_numV {value slice : Expr} {l : Addr} {vs : List Value} {xs : List Int} {i : Int} (hl : s₀.heap.IsList l vs.toArray) (hI : Ints vs xs) (ho : PV prog w A s₀ (eval value env) (fun u => u = .ref l)) (hi : PV prog w A s₀ (eval slice env) (IsI i)) (h0 : 0 ≤ i) (h1 : i < xs.length) (hz : xs.length ≤ 1000)
    (hs : ∀ t, subscripted slice false (.ref l) (.int i t) = operate [.ref l, .int i t] (getItem (.ref l) (.int i t)) := by intro _; with_unfolding_all rfl) :
    PV prog w A s₀ (eval (.Subscript value slice pos) env) (fun u => u = vs.getD i.toNat .none) := by
  refine pt_item hl ho hi (.inl ⟨h0, ?_⟩) (by rw [hI.len, sizeLine_eq]; omega) hs
  have := hI.len
  rw [List.getD_eq_getElem?_getD, List.getElem?_eq_getElem (by omega : i.toNat < vs.length)]; rfl
theorem ints_getD {vs : List Value} {xs : List Int} (hI : Ints vs xs) {i : Nat} (h : i < xs.length) : IsI (xs.getD i 0) (vs.getD i .none) ∧ vs.getD i .none ∈ vs := by
  obtain ⟨v, hv, r⟩ := hI.get (List.getElem?_eq_getElem h)
  rw [List.getD_eq_getElem?_getD, List.getD_eq_getElem?_getD, hv, List.getElem?_eq_getElem h]
  exact ⟨r, List.mem_of_getElem? hv⟩
theorem pt_sgnT {value slice : Expr} {ls : Addr} {ns : List Int} {x : Int} {sb : Shared} (hm : STs sb ls (signsF ns)) (lb : Le sb s₀) (ho : PV prog w A s₀ (eval value env) (fun u => u = .ref ls)) (hi : PV prog w A s₀ (eval slice env) (IsI x)) (h0 : 0 ≤ x) (h1 : x < 5)
    (hs : ∀ t, subscripted slice false (.ref ls) (.int x t) = operate [.ref ls, .int x t] (getItem (.ref ls) (.int x t)) := by intro _; with_unfolding_all rfl) :
    PV prog w A s₀ (eval (.Subscript value slice pos) env) (fun v => ∃ t : Nat, v = .str ⟨#[codeOf ns x]⟩ t ∧ t ≠ 0 ∧ t < sb.toks) := by
  obtain ⟨vs, hl, ha⟩ := hm
  have hlt : x.toNat < (signsF ns).length := by rw [signsF_len]; omega
  obtain ⟨v, hv, t, e, h2, h3⟩ := ha.get (List.getElem?_eq_getElem hlt)
  refine pt_of_name (pt_item (hl.at fun o e => lb.keep _ o e) ho hi (.inl ⟨h0, hv⟩) (by rw [ha.len, signsF_len, sizeLine_eq]; decide) hs) ⟨t, ?_, h2, h3⟩
  rw [e]
  have := signOf_code ns h0 h1
  unfold signOf at this
  rw [List.getD_eq_getElem?_getD, List.getElem?_eq_getElem hlt] at this
  exact congrArg (fun z => Value.str z t) this
set_option maxHeartbeats 16000000 in
theorem phK {ns made : List Int} {lw lm ld ls ln lmd : Addr} {rs : List Addr} {vm : List Value} (C : Cx A (d + 5)) (T : Tp w s₀) (X : Dat s₀ ns lw lm ld ls ln rs)
    (F : Fm s₀ (lawEnv L fa) [(Str.ofString "made", .ref lmd), (Str.ofString "names", .ref lw), (Str.ofString "mates", .ref lm), (Str.ofString "dresses", .ref ld), (Str.ofString "signs", .ref ls), (Str.ofString "numbers", .ref ln)] s)
    (hMd : s₀.heap.PlainList lmd vm.toArray) (hMI : Ints vm made) (hap : ∀ v ∈ vm, ∀ u ∈ vm, IntsApart v u) (hlen : made.length = 5) (hin : ∀ x ∈ made, 0 ≤ x ∧ x < 5)
    (hf1 : (roundsOf ns made).cps[(farOf ns).toNat]? = some (codeOf ns (tOf ns made))) (hf2 : ∀ j, j < (farOf ns).toNat → (roundsOf ns made).cps[j]? ≠ some (codeOf ns (tOf ns made)))
    (k : ∀ s' vs vt vtr vrd, IsS (signOf (signsF ns) (sOf ns made)) vs → IsS (signOf (signsF ns) (tOf ns made)) vt → IsS (tourOf ns made) vtr → IsS (roundsOf ns made) vrd → Fm s₀ (lawEnv L fa) [(Str.ofString "rounds", vrd), (Str.ofString "tour", vtr), (Str.ofString "t", vt), (Str.ofString "s", vs)] s' → wpAny (model prog w) A (execs (lawFrom 29) (lawEnv L fa)) Q E s') :
    wpAny (model prog w) A (execs (lawFrom 22) (lawEnv L fa)) Q E s := by
  have hzl : sizeLine = 16777216 := sizeLine_eq
  obtain ⟨hp0, hp5⟩ := p_bnd (ns := ns)
  obtain ⟨hf0, hf5⟩ := far_bnd (ns := ns)
  have hq0 : 0 ≤ (pOf ns + farOf ns) % 5 := by omega
  have hq5 : (pOf ns + farOf ns) % 5 < 5 := by omega
  have hsm := getD_in hlen hp0 hp5
  have htm := getD_in hlen hq0 hq5
  have hs5 : 0 ≤ sOf ns made ∧ sOf ns made < 5 := hin _ hsm
  have ht5 : 0 ≤ tOf ns made ∧ tOf ns made < 5 := hin _ htm
  have hns := X.nums
  have hMdi : ∀ {sx : Shared}, Le s₀ sx → ILs sx.heap lmd made := fun l => ⟨vm, (hMd.at fun o e => l.keep _ o e).isList, hMI⟩
  rw [lawStep 22 (by decide)]
  refine wp_assign F (P := fun v _ => IsI (pOf ns) v) (pv_binop (p1 := IsI (ns.getD 0 0)) (p2 := IsI 5) (pt_num (x := 0) (X.numbers.keeps F.le.keep) (nmC (p := fun u => u = .ref ln) F rfl rfl) (pt_int 0 _ _) (by decide) (by rw [hns.len]; decide) (by rw [hns.len]; decide)) (pt_int 5 _ _) fun _ _ _ _ h1 h2 => o_mod h1 h2 (by decide)) ?_
  rintro vp s1 l1 hvp s2 F2 B2 g2
  rw [lawStep 23 (by decide)]
  refine wp_assign F2 (P := fun v _ => IsI (farOf ns) v) (pv_add_int (pt_int 1 _ _) (pv_binop (p1 := IsI (ns.getD 0 0 / 5)) (p2 := IsI 4) (pv_binop (p1 := IsI (ns.getD 0 0)) (p2 := IsI 5) (pt_num (x := 0) (X.numbers.keeps F2.le.keep) (nmC (p := fun u => u = .ref ln) F2 rfl rfl) (pt_int 0 _ _) (by decide) (by rw [hns.len]; decide) (by rw [hns.len]; decide)) (pt_int 5 _ _) fun _ _ _ _ h1 h2 => o_fdiv h1 h2 (by decide) (noPylong (by decide))) (pt_int 4 _ _) fun _ _ _ _ h1 h2 => o_mod h1 h2 (by decide))) ?_
  rintro vf s3 l3 hvf s4 F4 B4 g4
  rw [lawStep 24 (by decide)]
  refine wp_assign F4 (P := fun v _ => ∃ t : Nat, v = .str ⟨#[codeOf ns (sOf ns made)]⟩ t ∧ t ≠ 0 ∧ t < s₀.toks) (pt_sgnT X.signs F4.le (nmC (p := fun u => u = .ref ls) F4 rfl rfl) (pt_num (x := pOf ns) (hMdi F4.le) (nm (p := fun u => u = .ref lmd) F4 rfl rfl) (nm F4 rfl hvp) hp0 (by rw [hlen]; exact hp5) (by rw [hlen]; decide)) hs5.1 hs5.2) ?_
  rintro vs s5 l5 ⟨ts, hvs, _⟩ s6 F6 B6 g6
  rw [lawStep 25 (by decide)]
  refine wp_assign F6 (P := fun v _ => ∃ t : Nat, v = .str ⟨#[codeOf ns (tOf ns made)]⟩ t ∧ t ≠ 0 ∧ t < s₀.toks) (pt_sgnT X.signs F6.le (nmC (p := fun u => u = .ref ls) F6 rfl rfl) (pt_num (x := (pOf ns + farOf ns) % 5) (hMdi F6.le) (nm (p := fun u => u = .ref lmd) F6 rfl rfl) (pv_binop (p1 := IsI (pOf ns + farOf ns)) (p2 := IsI 5) (pv_add_int (nm F6 rfl hvp) (nm F6 rfl hvf)) (pt_int 5 _ _) fun _ _ _ _ h1 h2 => o_mod h1 h2 (by decide)) hq0 (by rw [hlen]; exact hq5) (by rw [hlen]; decide)) ht5.1 ht5.2) ?_
  rintro vt s7 l7 ⟨tt, hvt, ht1, ht2⟩ s8 F8 B8 g8
  have T8 : Tp w s8 := T.le F8.le
  obtain ⟨hsI, hsM⟩ := ints_getD hMI (i := (pOf ns).toNat) (by rw [hlen]; omega)
  rw [lawStep 26 (by decide)]
  refine wp_assign F8 (P := fun v _ => IsS (tourOf ns made) v) (pt_callF (f := 89) T8 (by k_is) (pt_global T8 rfl (by k_is)) (argv3 (nm (p := fun u => u = .ref lmd) F8 rfl rfl) (pt_numV (i := pOf ns) (hMd.at fun o e => F8.le.keep _ o e).isList hMI (nm (p := fun u => u = .ref lmd) F8 rfl rfl) (nm F8 rfl hvp) hp0 (by rw [hlen]; exact hp5) (by rw [hlen]; decide)) (nmC (p := fun u => u = .ref ls) F8 rfl rfl)) fun vs' s' l' hv => ?_) ?_
  · obtain ⟨v1, v2, v3, rfl, rfl, rfl, rfl⟩ := hv
    obtain ⟨vsg, hsl, hS⟩ := X.signs.sls.keeps (F8.le.trans l').keep
    exact tour_pt (d := d + 3) C (T8.le l') (hMd.at fun o e => (F8.le.trans l').keep _ o e).isList hMI hsl hS (q := sOf ns made) (k := idx made (sOf ns made)) hsI (fun v hv => hap v hv _ hsM) (idx_at hsm) (idx_first made _) (fun r hr => ⟨(hin r hr).1, by rw [signsF_len]; exact (hin r hr).2⟩) (by rw [hlen]; decide) (by rw [signsF_len]; decide) fun x hx => Nat.le_trans (signs_len ns x hx) (by decide)
  rintro vtr s9 l9 hvtr s10 F10 B10 g10
  have htl := tour_len ns made hlen (idx made (sOf ns made))
  have htl' : (tourOf ns made).length ≤ 10 := htl
  rw [lawStep 27 (by decide)]
  refine wp_assign F10 (P := fun v _ => IsS (roundsOf ns made) v) (pv_add_str (nm F10 rfl hvtr) (pt_sliceSN (nm F10 rfl hvtr) (pt_int 1 _ _) (by rw [hzl]; omega)) (by
    have := Txt.slice_le (tourOf ns made) (some 1) none
    rw [hzl]; omega)) ?_
  rintro vrd s11 l11 hvrd s12 F12 B12 g12
  have T12 : Tp w s12 := T.le F12.le
  rw [lawStep 28 (by decide)]
  refine wp_if1 (b := false) ?_ (fun hb => nomatch hb) fun _ s13 l13 => ?_
  · rw [show false = (((farOf ns).toNat : Int) != farOf ns) by rw [Int.toNat_of_nonneg (by omega)]; simp]
    refine isTrue_cmp (p1 := IsI ((farOf ns).toNat : Int)) (p2 := IsI (farOf ns)) (pt_callF (f := 42) T12 (by k_is) (pt_global T12 rfl (by k_is)) (argv2 (nm F12 rfl hvrd) (nm (p := fun u => u = vt) F12 rfl rfl)) fun vs' s' l' hv => ?_) (nm F12 rfl hvf) fun _ _ _ _ h1 h2 => o_neI h1 h2
    obtain ⟨v1, v2, rfl, ⟨tr, rfl⟩, e2⟩ := hv
    rw [e2, hvt]
    exact indexS_pt (d := d + 4) C (T12.le l') ht1 (Nat.lt_of_lt_of_le ht2 (F12.le.trans l').tk) hf1 hf2
  · refine k s13 vs vt vtr vrd ?_ ?_ hvtr hvrd ((F12.grow l13).pick _ ⟨rfl, rfl, rfl, rfl, trivial⟩)
    · rw [signOf_code ns hs5.1 hs5.2]; exact ⟨ts, hvs⟩
    · rw [signOf_code ns ht5.1 ht5.2]; exact ⟨tt, hvt⟩
end
end Mine
end

section
open PySem PySem.W PyProof.Rows PySem.Calls
namespace Mine
noncomputable def gotsF (tour rounds S T : Str) : List (Str × Str) := [(tour, tour), ((S ++ dots) ++ S, tour), ((S ++ dots) ++ S, S ++ S), (Txt.join dots [S, T, S, S], rounds)]
noncomputable def wantsF (tour S T : Str) : List (List Str) :=
  [[Txt.slice tour (some 1) none], [Txt.slice tour none (some 5)], [S, S, S], [S, T, T, S], [S, Txt.slice tour (some 1) (some 3), Txt.slice tour (some 2) (some 4), S], [T, S], [S, T]]
section
variable {prog : Program} {w : World} {A : Around} {s₀ s s' : Shared} {m : Mp} {env : Env} {pos : Pos} {Q : Flow → Shared → Prop} {E : Value → Shared → Prop} {L fa : Addr} {d : Nat}
/-- a loop whose word is chosen when its source is made -/
theorem wp_forX {x : Str} {px pos : Pos} {iter : Expr} {body rest : List Stmt} {PI : Value → Shared → Prop}
    (F : Fm s₀ env m s) (hi : PT prog w A s (eval iter env) PI)
    (h : ∀ v s₁, Le s s₁ → PI v s₁ → ∃ src n P, ∃ J : List Addr → Nat → Mp → Shared → Prop, Src prog w A s₁ v src n P ∧ (∀ b ∈ src, b ∉ fAd env) ∧
      (∀ W i m s s', s.toks ≤ s'.toks → J W i m s → (∀ b o, b ∉ fAd env → b ∉ W → s.heap.get? b = some o → s'.heap.get? b = some o) → J W i m s') ∧
      (∀ W, (∀ b ∈ W, s₁.heap.get? b = none) → J W 0 m s₁) ∧
      (∀ W i v a m s', i < n → P i v → Le s₀ a → Fm a env ((x, v) :: m) s' → J W i m s' →
        wpAny (model prog w) A (execs body env) (fun fl s'' => match fl with
          | .next => ∃ m', Fm a env m' s'' ∧ ∀ s3, s'.toks ≤ s3.toks → (∀ b o, b ∉ fAd env → s'.heap.get? b = some o → s3.heap.get? b = some o) → J W (i + 1) m' s3
          | .cont => False
          | .brk => False
          | .ret v => Q (.ret v) s'') (fun _ _ => False) s') ∧
      (∀ W m s, Fm s₀ env m s → J W n m s → wpAny (model prog w) A (execs rest env) Q E s))
    (hx : env.kindOf x = some .local ∨ (env.kindOf x = some .cell ∧ (env.cells.lookup x).isSome = true) := by first | exact Or.inl rfl | exact Or.inr ⟨rfl, rfl⟩)
    (hs : ∀ v, foldedSetIterable iter env v = pure v := by intro _; rfl) :
    wpAny (model prog w) A (execs (.For (.Name x px) iter body [] pos :: rest) env) Q E s := by
  refine wp_cons (wpAny_For (hi.use fun v s₁ l1 p1 => ?_) hs)
  obtain ⟨src, n, P, J, hsr, hso, hJ, h0, turn, done⟩ := h v s₁ l1 p1
  refine hsr _ E fun I fp wr St s₂ l2 W st0 hwr hfp _ hwx => ?_
  have F2 := (F.grow l1).grow l2
  have hwrF : ∀ b ∈ wr, b ∉ fAd env := fun b hb hm => by
    obtain ⟨o, ho⟩ := (F.grow l1).there b hm
    rw [hwr b hb] at ho; cases ho
  have hwr0 : ∀ b ∈ wr, s₀.heap.get? b = none := fun b hb => none_le (F.le.trans l1) (hwr b hb)
  have hfpF : ∀ b ∈ fp, b ∉ fAd env := fun b hb => (hfp b hb).elim (fun h => hwrF b h) (hso b)
  obtain ⟨Iv, hIv⟩ : ∃ Iq : Nat → Shared → Prop, ∀ k s', Iq k s' ↔ ∃ i m, i ≤ n ∧ k = n + 1 - i ∧ Fm s₀ env m s' ∧ J wr i m s' ∧ St i s'.heap := ⟨_, fun _ _ => Iff.rfl⟩
  refine codeAny_forLoop Iv ?_ (n + 1)
    ((hIv _ _).mpr ⟨0, m, Nat.zero_le _, rfl, F2, hJ wr 0 m s₁ s₂ l2.tk (h0 wr hwr) fun b o _ _ e => l2.keep _ _ e, st0⟩) (by intro _; rfl)
  intro k s' hIk
  obtain ⟨i, m, hin, hk0, F, hj, hst⟩ := (hIv k s').mp hIk
  by_cases hlt : i < n
  · refine wp_tk (W.item i s' _ _ hlt hst fun v h' tk hv hst' hk htk => ?_)
    have F' := F.mut (tk := tk) hk hwr0 hwrF htk
    have hj' := hJ wr i m s' { s' with heap := h', toks := tk } htk hj fun b o _ hb e => hk b o hb e
    refine wpAny_assign_Name (wp_tk (wp_store F' hx fun s₃ F₃ B₃ g₃ htk3 => ?_))
    have hj₃ := hJ wr i m _ s₃ htk3 hj' fun b o hb _ e => B₃ b o hb e
    have hst₃ : St (i + 1) s₃.heap := W.frame _ _ _ hst' fun b hb o e => B₃ b o (hfpF b hb) e
    refine wpAny_mono (turn wr i v (anchor env [] s₃) m s₃ hlt hv (anchor_ge F₃ fun b hb => nomatch hb) (anchor_fm F₃ []) hj₃) (fun fl s₄ h₄ => ?_) fun _ _ x => x.elim
    cases fl with
    | next =>
      obtain ⟨m', F₄, hj₄⟩ := h₄
      exact ⟨n + 1 - (i + 1), cd_lt hk0 hlt, (hIv _ _).mpr ⟨i + 1, m', hlt, rfl, F₄.weak (anchor_ge F₃ fun b hb => nomatch hb) F₃.newL F₃.newC, hj₄ s₄ F₄.le.tk (fun b o hb e => F₄.le.keep b o (anchor_get e hb (fun q => nomatch q))), W.frame _ _ _ hst₃ fun b hb o e => F₄.le.keep b o (anchor_get e (hfpF b hb) (fun q => nomatch q))⟩⟩
    | cont => exact h₄.elim
    | brk => exact h₄.elim
    | ret v => exact h₄
  · have : n = i := (end_eq hin hlt).symm
    clear hIk
    subst this
    refine wp_tk (W.done s' _ _ hst fun h' tk hk htk => wpAny_execs_nil ?_)
    exact done wr m _ (F.mut (tk := tk) hk hwr0 hwrF htk) (hJ wr _ m s' { s' with heap := h', toks := tk } htk hj fun b o _ hb e => hk b o hb e)

theorem Duo.le {sb s s' : Shared} {p : (Value → Prop) × (Value → Prop)} {v : Value} (h : Duo sb s p v) (l : Le s s') : Duo sb s' p v := (by obtain ⟨T, a, b, e, h0, hT, pa, pb⟩ := h; exact ⟨T, a, b, e, h0, hT.at fun o e => l.keep _ o e, pa, pb⟩)
inductive Duos (prog : Program) (w : World) (A : Around) (env : Env) (s₀ : Shared) : List Expr → List ((Value → Prop) × (Value → Prop)) → Prop
  | nil : Duos prog w A env s₀ [] []
  | cons {e rest p ps} : PT prog w A s₀ (eval e env) (fun v s' => Duo s₀ s' p v) → starEach (e :: rest) env = (false, eval e env) :: starEach rest env → Duos prog w A env s₀ rest ps → Duos prog w A env s₀ (e :: rest) (p :: ps)
theorem Duos.pt {es : List Expr} {pps : List ((Value → Prop) × (Value → Prop))} (h : Duos prog w A env s₀ es pps) : PT prog w A s₀ (spliced (backTo pos (starEach es env))) (fun vs s' => All2 (fun v p => Duo s₀ s' p v) vs pps) := by
  induction h with
  | nil => exact args0 fun _ _ => .nil
  | cons h1 he _ ih => exact argsC he h1 (fun v s₁ l1 p1 => ih.le l1) fun v s₁ vs s₂ l1 p1 l2 p2 => .cons (p1.le l2) p2
theorem pt_duo {e f : Expr} {k : Nat} {p q : Value → Prop} (h1 : PV prog w A s₀ (eval e env) p) (h2 : PV prog w A s₀ (eval f env) q) (he : starEach (e :: [f]) env = (false, eval e env) :: starEach [f] env := by rfl) (hf : starEach (f :: []) env = (false, eval f env) :: starEach [] env := by rfl) :
    PT prog w A s₀ (eval (.Tuple [e, f] k pos) env) (fun v s' => Duo s₀ s' (p, q) v) := by
  intro s Q E l qq
  refine Tuple_ ((argv2 h1 h2 he hf) s _ E l fun vs s₁ l1 hv => ?_)
  obtain ⟨a, b, rfl, pa, qb⟩ := hv
  exact wpAny_newObj_type (qq _ _ (l1.trans Le.push) ⟨_, a, b, rfl, none_le (l.trans l1) (new_none _ _ (Nat.le_refl _)), ⟨_, Heap.get?_push_size _ rfl, rfl, _, rfl⟩, pa, qb⟩)
theorem pt_duos {es : List Expr} {k : Nat} {pps : List ((Value → Prop) × (Value → Prop))} (h : Duos prog w A env s₀ es pps) (hz : pps.length ≤ sizeLine) :
    PT prog w A s₀ (eval (.Tuple es k pos) env) (fun v s' => ∃ t vs, v = .ref t ∧ s₀.heap.get? t = none ∧ s'.heap.IsTuple t (vs : List Value).toArray ∧ All2 (fun v p => Duo s₀ s' p v) vs pps) := by
  intro s Q E l q
  refine wpAny_Tuple_spliced (h.pt s _ E l fun vs s₁ l1 hv => ⟨by rw [hv.len]; exact hz, ?_⟩)
  exact q _ _ (l1.trans (Le.push (tk := s₁.toks))) ⟨_, vs, rfl, none_le (l.trans l1) (new_none _ _ (Nat.le_refl _)), ⟨_, Heap.get?_push_size _ rfl, rfl, _, rfl⟩, hv.mono fun v p h => h.le (Le.push (tk := s₁.toks))⟩

/-- lists of texts, in a tuple -/
noncomputable def LstAt (sb s : Shared) (p : Addr × List Str) : Prop := sb.heap.get? p.1 = none ∧ ∃ vs : List Value, s.heap.PlainList p.1 vs.toArray ∧ Strs vs p.2
theorem LstAt.le {sb s s' : Shared} {p} (h : LstAt sb s p) (l : Le s s') : LstAt sb s' p := ⟨h.1, (by obtain ⟨vs, a, b⟩ := h.2; exact ⟨vs, a.at fun o e => l.keep _ o e, b⟩)⟩
inductive Lsts (prog : Program) (w : World) (A : Around) (env : Env) (s₀ : Shared) : List Expr → List (List Str) → Prop
  | nil : Lsts prog w A env s₀ [] []
  | cons {e rest x xs} : PT prog w A s₀ (eval e env) (fun v s' => ∃ l, v = .ref l ∧ LstAt s₀ s' (l, x)) → starEach (e :: rest) env = (false, eval e env) :: starEach rest env → Lsts prog w A env s₀ rest xs → Lsts prog w A env s₀ (e :: rest) (x :: xs)
theorem Lsts.pt {es : List Expr} {xs : List (List Str)} (h : Lsts prog w A env s₀ es xs) : PT prog w A s₀ (spliced (backTo pos (starEach es env))) (fun vs s' => ∃ PP : List (Addr × List Str), vs = PP.map (fun p => Value.ref p.1) ∧ PP.map (·.2) = xs ∧ ∀ p ∈ PP, LstAt s₀ s' p) := by
  induction h with
  | nil => exact args0 fun _ _ => ⟨[], rfl, rfl, fun p hp => nomatch hp⟩
  | @cons e0 rest0 x0 xs0 h1 he _ ih => exact argsC he h1 (fun v s₁ l1 p1 => ih.le l1) fun v s₁ vs s₂ l1 zq0 l2 zq1 => (by obtain ⟨l, e, hl⟩ := zq0; obtain ⟨PP, e2, e3, h⟩ := zq1; exact ⟨(l, x0) :: PP, by rw [List.map_cons, e, e2], by rw [List.map_cons, e3], fun p hp => by
      rcases List.mem_cons.mp hp with rfl | hp
      · exact hl.le l2
      · exact h p hp⟩)
theorem pt_lsts {es : List Expr} {k : Nat} {xs : List (List Str)} (h : Lsts prog w A env s₀ es xs) (hz : xs.length ≤ sizeLine) :
    PT prog w A s₀ (eval (.Tuple es k pos) env) (fun v s' => ∃ t, ∃ PP : List (Addr × List Str), v = .ref t ∧ s₀.heap.get? t = none ∧ s'.heap.IsTuple t (PP.map fun p => Value.ref p.1).toArray ∧ PP.map (·.2) = xs ∧ ∀ p ∈ PP, LstAt s₀ s' p) := by
  intro s Q E l q
  refine wpAny_Tuple_spliced (h.pt s _ E l fun vs s₁ l1 hv => ?_)
  obtain ⟨PP, rfl, h2, h3⟩ := hv
  refine ⟨by rw [List.length_map, ← List.length_map (f := (·.2)), h2]; exact hz, ?_⟩
  exact q _ _ (l1.trans (Le.push (tk := s₁.toks))) ⟨_, PP, rfl, none_le (l.trans l1) (new_none _ _ (Nat.le_refl _)), ⟨_, Heap.get?_push_size _ rfl, rfl, _, rfl⟩, h2, fun p hp => (h3 p hp).le (Le.push (tk := s₁.toks))⟩
theorem pt_lst {es : List Expr} {xs : List Str} (h : Args prog w A env s₀ es (xs.map fun x => IsS x)) (hz : xs.length ≤ sizeLine) : PT prog w A s₀ (eval (.List es pos) env) (fun v s' => ∃ l, v = .ref l ∧ LstAt s₀ s' (l, xs)) :=
  (pt_display h (by rw [List.length_map]; exact hz)).mono fun v s' l' zq2 => (by obtain ⟨D, vs, e, h0, hp, hA⟩ := zq2; exact ⟨D, e, h0, vs, hp, args_strs hA⟩)
theorem pt_ell {nx : Str} {np : Pos} {e f : Expr} {x y : Str} (C : Cx A (d + 1)) (T : Tp w s₀) (hk : keepIn (_root_.Mine.hd.heap_39 w.params) (.ref 56) = true) (hf : PV prog w A s₀ (eval (.Name nx np) env) (fun u => u = .ref 56)) (h : PV prog w A s₀ (eval e env) (IsS x)) (h2 : PV prog w A s₀ (eval f env) (IsS y)) (hx : x.length ≤ 1000) (hy : y.length ≤ 1000)
    (he : starEach (e :: [f]) env = (false, eval e env) :: starEach [f] env := by rfl) (he2 : starEach (f :: []) env = (false, eval f env) :: starEach [] env := by rfl) (hp : (backTo pos (starEach [f] env)).any (·.1) = false := by rfl) : PV prog w A s₀ (eval (.Call (.Name nx np) [e, f] [] pos) env) (IsB (ellF x y)) :=
  pt_callF T hk hf (argv2 h h2 he he2) (fun vs s' l' hv => by
    obtain ⟨v1, v2, rfl, ⟨t1, rfl⟩, t2, rfl⟩ := hv
    exact ell_pt C (T.le l') hx hy) he hp
set_option maxHeartbeats 16000000 in
theorem phL {tour rounds S Tt : Str} {vs vt vtr vrd : Value} (C : Cx A (d + 5)) (T : Tp w s₀)
    (F : Fm s₀ (lawEnv L fa) [(Str.ofString "rounds", vrd), (Str.ofString "tour", vtr), (Str.ofString "t", vt), (Str.ofString "s", vs)] s)
    (hS : IsS S vs) (hT : IsS Tt vt) (htr : IsS tour vtr) (hrd : IsS rounds vrd) (hSl : S.length ≤ 1) (hTl : Tt.length ≤ 1) (htl : tour.length ≤ 10) (hrl : rounds.length ≤ 20)
    (hg : ∀ p ∈ gotsF tour rounds S Tt, ellF p.1 p.2 = true) (hwn : ∀ x ∈ wantsF tour S Tt, ellF (Txt.join dots x) tour = false) (hl : ellF ((S ++ dots) ++ S) S = false)
    (k : ∀ s', Le s₀ s' → Q (.ret (.bool true)) s') :
    wpAny (model prog w) A (execs (lawFrom 29) (lawEnv L fa)) Q E s := by
  have hzl : sizeLine = 16777216 := sizeLine_eq
  have Ts : Tp w s := T.le F.le
  have dl : dots.length = 3 := rfl
  have sds : ((S ++ dots) ++ S).length ≤ 5 := by rw [Str.length_append, Str.length_append, dl]; (first | exact Nat.le_trans (by with_reducible assumption) (by decide) | omega)
  have jl : ∀ xs : List Str, xs.length ≤ 4 → (∀ x ∈ xs, x.length ≤ 10) → JoinOk dots xs = true ∧ (Txt.join dots xs).length ≤ 100 := fun xs h1 h2 => by
    refine ⟨joinOk_small (b := 10) h2 (by rw [dl]; (first | exact Nat.le_trans (by with_reducible assumption) (by decide) | omega)), ?_⟩
    have := join_len dots xs 10 h2
    rw [dl] at this; (first | exact Nat.le_trans (by with_reducible assumption) (by decide) | omega)
  have hSTSS : ∀ x ∈ [S, Tt, S, S], x.length ≤ 10 := fun x hx => by
    simp only [List.mem_cons, List.not_mem_nil, or_false] at hx
    rcases hx with rfl | rfl | rfl | rfl <;> (first | exact Nat.le_trans (by with_reducible assumption) (by decide) | omega)
  have sd : ∀ {sx : Shared} {mx : Mp} (Fx : Fm s₀ (lawEnv L fa) mx sx), mx.lookup (Str.ofString "s") = some vs → ∀ pa k2 pb pc pd pe, PV prog w A sx (eval (.BinOp (.BinOp (.Name (Str.ofString "s") pa) .Add (.Constant (.str (Str.ofString "...")) k2 pb) pc) .Add (.Name (Str.ofString "s") pd) pe) (lawEnv L fa)) (IsS ((S ++ dots) ++ S)) := fun Fx hm pa k2 pb pc pd pe =>
    pv_add_str (pv_add_str (nm Fx hm hS) (pt_str dots _ _) (by rw [hzl, dl]; (first | exact Nat.le_trans (by with_reducible assumption) (by decide) | omega))) (nm Fx hm hS) (by rw [hzl, Str.length_append, dl]; (first | exact Nat.le_trans (by with_reducible assumption) (by decide) | omega))
  rw [lawStep 29 (by decide)]
  refine wp_forD (pps := (gotsF tour rounds S Tt).map fun p => (IsS p.1, IsS p.2)) F C.hh
    (pt_duos (pps := (gotsF tour rounds S Tt).map fun p => (IsS p.1, IsS p.2)) (.cons (pt_duo (nm F rfl htr) (nm F rfl htr)) rfl (.cons (pt_duo (sd F rfl _ _ _ _ _ _) (nm F rfl htr)) rfl (.cons (pt_duo (sd F rfl _ _ _ _ _ _) (pv_add_str (nm F rfl hS) (nm F rfl hS) (by rw [hzl]; (first | exact Nat.le_trans (by with_reducible assumption) (by decide) | omega)))) rfl (.cons (pt_duo (pt_join (texts := [S, Tt, S, S]) (pt_str _ _ _) ((pt_lst (xs := [S, Tt, S, S]) (.cons (nm F rfl hS) rfl (.cons (nm F rfl hT) rfl (.cons (nm F rfl hS) rfl (.cons (nm F rfl hS) rfl .nil)))) (by rw [hzl]; simp)).mono fun v s' l' zq3 => (by obtain ⟨l, e, h0, vs, hp, hs⟩ := zq3; exact ⟨l, vs, e, hp.isList, hs⟩)) (jl _ (by simp) hSTSS).1) (nm F rfl hrd)) rfl .nil)))) (by rw [hzl]; simp [gotsF]))
    (fun p va vb a s2 hp ha hb la F2 => ?_) fun s2 F2 => ?_
  · obtain ⟨q, hq, rfl⟩ := List.mem_map.mp hp
    have hgq := hg q hq
    have T2 : Tp w s2 := (T.le la).le F2.le
    have hlq : q.1.length ≤ 1000 ∧ q.2.length ≤ 1000 := by
      unfold gotsF at hq
      have hj := (jl _ (by simp) hSTSS).2
      simp only [List.mem_cons, List.not_mem_nil, or_false] at hq
      rcases hq with rfl | rfl | rfl | rfl
      · exact ⟨by dsimp only; (first | exact Nat.le_trans (by with_reducible assumption) (by decide) | omega), by dsimp only; (first | exact Nat.le_trans (by with_reducible assumption) (by decide) | omega)⟩
      · exact ⟨by dsimp only; (first | exact Nat.le_trans (by with_reducible assumption) (by decide) | omega), by dsimp only; (first | exact Nat.le_trans (by with_reducible assumption) (by decide) | omega)⟩
      · exact ⟨by dsimp only; (first | exact Nat.le_trans (by with_reducible assumption) (by decide) | omega), by dsimp only; rw [Str.length_append]; (first | exact Nat.le_trans (by with_reducible assumption) (by decide) | omega)⟩
      · exact ⟨by dsimp only; (first | exact Nat.le_trans (by with_reducible assumption) (by decide) | omega), by dsimp only; (first | exact Nat.le_trans (by with_reducible assumption) (by decide) | omega)⟩
    exact wp_if1 (b := false) (isTrue_cmp (b' := false) (p1 := IsB true) (p2 := IsB true) (hgq ▸ pt_ell (d := d + 4) C T2 (by k_is) (pt_global T2 rfl (by k_is)) (nm F2 rfl ha) (nm F2 rfl hb) hlq.1 hlq.2) (pt_bool true _ _) fun _ _ _ _ h1 h2 => o_isntB h1 h2) (fun hb => nomatch hb) fun _ s4 l4 => wp_end ⟨_, F2.grow l4, (Has.rfl.cons rfl).cons rfl⟩
  have T2 : Tp w s2 := T.le F2.le
  rw [lawStep 30 (by decide)]
  have sl : ∀ i j, (Txt.slice tour i j).length ≤ 10 := fun i j => Nat.le_trans (Txt.slice_le tour i j) htl
  have tz : tour.length ≤ sizeLine := by rw [hzl]; (first | exact Nat.le_trans (by with_reducible assumption) (by decide) | omega)
  refine wp_forX F2
    (pt_lsts (xs := wantsF tour S Tt) (.cons (pt_lst (xs := [Txt.slice tour (some 1) none]) (.cons (pt_sliceSN (nm F2 rfl htr) (pt_int 1 _ _) tz) rfl .nil) (by rw [hzl]; simp)) rfl
      (.cons (pt_lst (xs := [Txt.slice tour none (some 5)]) (.cons (pt_sliceNS (nm F2 rfl htr) (pt_int 5 _ _) tz) rfl .nil) (by rw [hzl]; simp)) rfl
      (.cons (pt_lst (xs := [S, S, S]) (.cons (nm F2 rfl hS) rfl (.cons (nm F2 rfl hS) rfl (.cons (nm F2 rfl hS) rfl .nil))) (by rw [hzl]; simp)) rfl
      (.cons (pt_lst (xs := [S, Tt, Tt, S]) (.cons (nm F2 rfl hS) rfl (.cons (nm F2 rfl hT) rfl (.cons (nm F2 rfl hT) rfl (.cons (nm F2 rfl hS) rfl .nil)))) (by rw [hzl]; simp)) rfl
      (.cons (pt_lst (xs := [S, Txt.slice tour (some 1) (some 3), Txt.slice tour (some 2) (some 4), S]) (.cons (nm F2 rfl hS) rfl (.cons (pt_sliceSS (nm F2 rfl htr) (pt_int 1 _ _) (pt_int 3 _ _) tz) rfl (.cons (pt_sliceSS (nm F2 rfl htr) (pt_int 2 _ _) (pt_int 4 _ _) tz) rfl (.cons (nm F2 rfl hS) rfl .nil)))) (by rw [hzl]; simp)) rfl
      (.cons (pt_lst (xs := [Tt, S]) (.cons (nm F2 rfl hT) rfl (.cons (nm F2 rfl hS) rfl .nil)) (by rw [hzl]; simp)) rfl
      (.cons (pt_lst (xs := [S, Tt]) (.cons (nm F2 rfl hS) rfl (.cons (nm F2 rfl hT) rfl .nil)) (by rw [hzl]; simp)) rfl .nil))))))) (by rw [hzl]; simp [wantsF]))
    fun v s3 l3 ⟨t, PP, e, ht0, ht, hPP, hLs⟩ => ?_
  subst e
  refine ⟨[t], PP.length, fun i v => (PP.map fun p => Value.ref p.1)[i]? = some v, fun W i m s' => Has [(Str.ofString "rounds", vrd), (Str.ofString "tour", vtr), (Str.ofString "t", vt), (Str.ofString "s", vs)] m ∧ ∀ p ∈ PP, p.1 ∉ fAd (lawEnv L fa) ∧ p.1 ∉ W ∧ ∃ vs : List Value, s'.heap.PlainList p.1 vs.toArray ∧ Strs vs p.2, ?_, ?_, ?_, ?_, ?_, ?_⟩
  · have := src_tuple (prog := prog) (w := w) (A := A) C.hh ht
    rw [List.length_map] at this; exact this
  · intro b hb
    rw [List.mem_singleton.mp hb]; exact (F2.fresh ht0).1
  · rintro W i m s4 s5 htk ⟨m1, h1⟩ hk
    exact ⟨m1, fun p hp => (by obtain ⟨a, b, vs, c, d⟩ := h1 p hp; exact ⟨a, b, vs, c.at fun o e => hk p.1 o a b e, d⟩)⟩
  · intro W hW
    refine ⟨Has.rfl, fun p hp => ⟨(F2.fresh (hLs p hp).1).1, fun q => ?_, (hLs p hp).2⟩⟩
    obtain ⟨us, ⟨n, e⟩, _⟩ := (hLs p hp).2
    rw [hW p.1 q] at e; cases e
  · rintro W i v a m s4 hi hv la F4 ⟨m1, h1⟩
    have T4 : Tp w s4 := (T.le la).le F4.le
    have F5 : Fm a (lawEnv L fa) [(Str.ofString "want", v), (Str.ofString "rounds", vrd), (Str.ofString "tour", vtr), (Str.ofString "t", vt), (Str.ofString "s", vs)] s4 := F4.has fun x u e => by
      by_cases q : x = Str.ofString "want"
      · subst q; rw [lookup_cons_eq] at e ⊢; exact e
      · rw [lookup_cons_ne q] at e ⊢; exact m1 _ _ e
    obtain ⟨p, hp, rfl⟩ : ∃ p, p ∈ PP ∧ v = .ref p.1 := by
      have hpi : PP[i]? = some PP[i] := List.getElem?_eq_getElem hi
      rw [List.getElem?_map, hpi] at hv
      exact ⟨PP[i], List.getElem_mem hi, (Option.some.inj hv).symm⟩
    obtain ⟨_, _, us, hus, hst⟩ := h1 p hp
    have hpw : p.2 ∈ wantsF tour S Tt := by rw [← hPP]; exact List.mem_map_of_mem (f := (·.2)) hp
    have hw1 := hwn p.2 hpw
    have hj : JoinOk dots p.2 = true ∧ (Txt.join dots p.2).length ≤ 100 := by
      generalize p.2 = z at hpw
      unfold wantsF at hpw
      simp only [List.mem_cons, List.not_mem_nil, or_false] at hpw
      rcases hpw with rfl | rfl | rfl | rfl | rfl | rfl | rfl <;> refine jl _ (by simp) fun x hx => ?_ <;> simp only [List.mem_cons, List.not_mem_nil, or_false] at hx
      · rw [hx]; exact sl _ _
      · rw [hx]; exact sl _ _
      · rcases hx with rfl | rfl | rfl <;> (first | exact Nat.le_trans (by with_reducible assumption) (by decide) | omega)
      · rcases hx with rfl | rfl | rfl | rfl <;> (first | exact Nat.le_trans (by with_reducible assumption) (by decide) | omega)
      · rcases hx with rfl | rfl | rfl | rfl
        · (first | exact Nat.le_trans (by with_reducible assumption) (by decide) | omega)
        · exact sl _ _
        · exact sl _ _
        · (first | exact Nat.le_trans (by with_reducible assumption) (by decide) | omega)
      · rcases hx with rfl | rfl <;> (first | exact Nat.le_trans (by with_reducible assumption) (by decide) | omega)
      · rcases hx with rfl | rfl <;> (first | exact Nat.le_trans (by with_reducible assumption) (by decide) | omega)
    refine wp_if1 (b := false) (isTrue_cmp (b' := false) (p1 := IsB false) (p2 := IsB false) (hw1 ▸ pt_ell (d := d + 4) C T4 (by k_is) (pt_global T4 rfl (by k_is)) (pt_join (texts := p.2) (pt_str _ _ _) ((nm (p := fun u => u = .ref p.1) F5 rfl rfl).mono fun v s' l' e => ⟨p.1, us, e, (hus.at fun o e => l'.keep _ o e).isList, hst⟩) hj.1) (nm F5 rfl htr) (by have := hj.2; (first | exact Nat.le_trans (by with_reducible assumption) (by decide) | omega)) (by (first | exact Nat.le_trans (by with_reducible assumption) (by decide) | omega))) (pt_bool false _ _) fun _ _ _ _ h1 h2 => o_isntB h1 h2) (fun hb => nomatch hb) fun _ s5 l5 => wp_end ⟨_, F5.grow l5, fun s6 _ hk => ⟨Has.rfl.cons rfl, fun p hp => (by obtain ⟨a, b, vs, c, d⟩ := h1 p hp; exact ⟨a, b, vs, c.at fun o e => hk p.1 o a e, d⟩)⟩⟩
  · rintro W m s4 F4 ⟨m1, _⟩
    have F5 := F4.has m1
    have T4 : Tp w s4 := T.le F5.le
    rw [lawStep 31 (by decide)]
    refine wp_return1 (P := fun v _ => IsB true v) (pv_cmp (p1 := IsB false) (p2 := IsB false) (hl ▸ pt_ell (d := d + 4) C T4 (by k_is) (pt_global T4 rfl (by k_is)) (sd F5 rfl _ _ _ _ _ _) (nm F5 rfl hS) (by (first | exact Nat.le_trans (by with_reducible assumption) (by decide) | omega)) (by (first | exact Nat.le_trans (by with_reducible assumption) (by decide) | omega))) (pt_bool false _ _) fun _ _ _ _ h1 h2 => o_isB h1 h2) fun v s' l' hv => ?_
    rw [show v = .bool true from hv]
    exact k s' (F5.le.trans l')
end
end Mine
end

section
open PySem PySem.W PyProof.Rows PySem.Calls
namespace Mine
noncomputable def madeOf (ns order : List Int) : List Int := 0 :: mdTl (rowAt ns order 4) 4
/-- what the plain law must say -/
structure LawFacts (ns made : List Int) : Prop where
  rings : (sieveX (namesAt ns 4) (signsF ns) (matesAt ns 4) [0, 1, 2, 3, 4] (ringsAt 4)).filter (closeOk ns) = [made]
  c1 : checkF (wholeF ns made) = true
  c2 : checkF ((Str.ofString "\"(\"" ++ wholeF ns made) ++ Str.ofString "\"") = true
  c3 : checkF (wholeF ns made ++ Str.ofString "\"(") = false
  c4 : checkF ((Str.ofString ")" ++ wholeF ns made) ++ Str.ofString "(") = false
  f1 : (roundsOf ns made).cps[(farOf ns).toNat]? = some (codeOf ns (tOf ns made))
  f2 : ∀ j, j < (farOf ns).toNat → (roundsOf ns made).cps[j]? ≠ some (codeOf ns (tOf ns made))
  g : ∀ p ∈ gotsF (tourOf ns made) (roundsOf ns made) (signOf (signsF ns) (sOf ns made)) (signOf (signsF ns) (tOf ns made)), ellF p.1 p.2 = true
  wn : ∀ x ∈ wantsF (tourOf ns made) (signOf (signsF ns) (sOf ns made)) (signOf (signsF ns) (tOf ns made)), ellF (Txt.join dots x) (tourOf ns made) = false
  l : ellF ((signOf (signsF ns) (sOf ns made) ++ dots) ++ signOf (signsF ns) (sOf ns made)) (signOf (signsF ns) (sOf ns made)) = false
theorem lit_apart {vr : List Value} {a b : Nat} (h : IncI a b vr [0, 1, 2, 3, 4]) {x y : Int} (hx : x ∈ ([0, 1, 2, 3, 4] : List Int)) (hy : y ∈ ([0, 1, 2, 3, 4] : List Int)) {t u : Nat} (e1 : lit vr x = .int x t) (e2 : lit vr y = .int y u) (hne : x ≠ y) : t ≠ u := by
  have key : ∀ {x y : Int}, x ∈ ([0, 1, 2, 3, 4] : List Int) → y ∈ ([0, 1, 2, 3, 4] : List Int) → ∀ {t u : Nat}, lit vr x = .int x t → lit vr y = .int y u → x.toNat < y.toNat → t < u := fun {x y} hx hy {t u} e1 e2 hlt => by
    obtain ⟨t', u', a1, a2, a3⟩ := h.up _ _ x y hlt (at5 x hx).1 (at5 y hy).1
    unfold lit at e1 e2
    rw [List.getD_eq_getElem?_getD, a1] at e1
    rw [List.getD_eq_getElem?_getD, a2] at e2
    cases e1; cases e2; exact a3
  rcases Nat.lt_trichotomy x.toNat y.toNat with q | q | q
  · exact Nat.ne_of_lt (key hx hy e1 e2 q)
  · have a1 := (at5 x hx).1
    rw [q, (at5 y hy).1] at a1
    exact absurd (Option.some.inj a1).symm hne
  · exact Nat.ne_of_gt (key hy hx e2 e1 q)
theorem small5 {x : Int} (hx : x ∈ ([0, 1, 2, 3, 4] : List Int)) : smallInt x = true := by
  exact (by decide : ∀ x ∈ ([0, 1, 2, 3, 4] : List Int), smallInt x = true) x hx
theorem md_apart {vr : List Value} {b c t0 : Nat} {row : List Int} (h : IncI b c vr [0, 1, 2, 3, 4]) (hb : 0 < b) (ht : c ≤ t0) (hm : ∀ x ∈ mdTl row 4, x ∈ ([0, 1, 2, 3, 4] : List Int)) : ∀ v ∈ mdVals vr t0 row 4, ∀ u ∈ mdVals vr t0 row 4, IntsApart v u := by
  have lt := h.lt
  have key : ∀ v ∈ mdVals vr t0 row 4, ∃ x : Int, ∃ t : Nat, v = .int x t ∧ 0 < t ∧ x ∈ ([0, 1, 2, 3, 4] : List Int) ∧ ((x = 0 ∧ t = t0) ∨ (lit vr x = .int x t ∧ t < c)) := fun v hv => by
    rcases List.mem_cons.mp hv with rfl | hv
    · exact ⟨0, t0, rfl, by (first | exact Nat.lt_of_lt_of_le (by with_reducible assumption) (by with_reducible assumption) | exact Nat.le_trans (by with_reducible assumption) (by with_reducible assumption) | omega), by decide, .inl ⟨rfl, rfl⟩⟩
    · obtain ⟨x, hx, rfl⟩ := List.mem_map.mp hv
      obtain ⟨t, e, h1, h2⟩ := lit_int h (hm x hx)
      exact ⟨x, t, e, by (first | exact Nat.lt_of_lt_of_le (by with_reducible assumption) (by with_reducible assumption) | exact Nat.le_trans (by with_reducible assumption) (by with_reducible assumption) | omega), hm x hx, .inr ⟨e, h2⟩⟩
  intro v hv u hu
  obtain ⟨x, t, rfl, ht1, hx, h1⟩ := key v hv
  obtain ⟨y, r, rfl, hr1, hy, h2⟩ := key u hu
  refine ⟨x, y, t, r, rfl, rfl, fun (q : (t : Nat) = 0) => by (first | exact Nat.lt_of_lt_of_le (by with_reducible assumption) (by with_reducible assumption) | exact Nat.le_trans (by with_reducible assumption) (by with_reducible assumption) | omega), fun (q : (r : Nat) = 0) => by (first | exact Nat.lt_of_lt_of_le (by with_reducible assumption) (by with_reducible assumption) | exact Nat.le_trans (by with_reducible assumption) (by with_reducible assumption) | omega), small5 hx, fun hne (q : (t : Nat) = r) => ?_⟩
  rcases h1 with ⟨a1, a2⟩ | ⟨a1, a2⟩ <;> rcases h2 with ⟨b1, b2⟩ | ⟨b1, b2⟩
  · exact hne (a1.trans b1.symm)
  · (first | exact Nat.lt_of_lt_of_le (by with_reducible assumption) (by with_reducible assumption) | exact Nat.le_trans (by with_reducible assumption) (by with_reducible assumption) | omega)
  · (first | exact Nat.lt_of_lt_of_le (by with_reducible assumption) (by with_reducible assumption) | exact Nat.le_trans (by with_reducible assumption) (by with_reducible assumption) | omega)
  · exact lit_apart h hx hy a1 b1 hne q
theorem md_ints {vr : List Value} {b c t0 : Nat} {row : List Int} (h : IncI b c vr [0, 1, 2, 3, 4]) (hm : ∀ x ∈ mdTl row 4, x ∈ ([0, 1, 2, 3, 4] : List Int)) : Ints (mdVals vr t0 row 4) (0 :: mdTl row 4) := by
  refine .cons ⟨_, rfl⟩ ?_
  generalize mdTl row 4 = q at hm
  induction q with
  | nil => exact .nil
  | cons x r ih => exact .cons ((by obtain ⟨t, e, _⟩ := lit_int h (hm x (.head _)); exact ⟨t, e⟩)) (ih fun y hy => hm y (List.mem_cons_of_mem _ hy))
section
variable {prog : Program} {w : World} {A : Around} {s₀ s s' : Shared} {m : Mp} {env : Env} {pos : Pos} {Q : Flow → Shared → Prop} {E : Value → Shared → Prop} {L fa : Addr} {d : Nat}
theorem Lam.isL (X : Lam w s₀) {l : Addr} {vs : Array Value} (h : s₀.heap.IsList l vs) : (noTab s₀).heap.IsList l vs := by
  obtain ⟨o, e, hc, n, hd⟩ := h
  exact ⟨o, noTab_get e (X.ne e (by rw [hd]; nofun)), hc, n, hd⟩
theorem Lam.plainL (X : Lam w s₀) {l : Addr} {vs : Array Value} (h : s₀.heap.PlainList l vs) : (noTab s₀).heap.PlainList l vs := by
  obtain ⟨n, e⟩ := h
  exact ⟨n, noTab_get e (X.ne e (by nofun))⟩
theorem Lam.dat (X : Lam w s₀) {ns lw lm ld ls ln rs} (D : Dat s₀ ns lw lm ld ls ln rs) : Dat (noTab s₀) ns lw lm ld ls ln rs where
  nums := D.nums
  names := (by obtain ⟨vs, a, b⟩ := D.names; exact ⟨vs, X.isL a, b⟩)
  mates := X.plainL D.mates
  rs5 := D.rs5
  rows := ⟨D.rows.1, fun j hj => (by obtain ⟨vs, a, b⟩ := D.rows.2 j hj; exact ⟨vs, X.plainL a, b⟩)⟩
  dresses := (by obtain ⟨vs, a, b⟩ := D.dresses; exact ⟨vs, X.isL a, b⟩)
  signs := (by obtain ⟨vs, a, b⟩ := D.signs; exact ⟨vs, X.isL a, b⟩)
  numbers := (by obtain ⟨vs, a, b⟩ := D.numbers; exact ⟨vs, X.isL a, b⟩)
  tok := D.tok
set_option maxHeartbeats 8000000 in
theorem law_all {l : Addr} {vs : List Value} {xs : List Int} (C : Cx A (d + 5)) (X : Lam w s₀) (h101 : 101 ∉ fAd (lawEnv L fa)) (F : Fm s₀ (lawEnv L fa) [(Str.ofString "script", .ref l)] s) (hl : s₀.heap.IsList l vs.toArray) (hx : Ints vs xs) (hz : vs.length ≤ 63)
    (facts : ∀ ns order, Nums ns → Ordered ns order → LawFacts ns (madeOf ns order))
    (k : ∀ s', (∀ b o, b ≠ 101 → s₀.heap.get? b = some o → s'.heap.get? b = some o) → (∃ ps, s'.heap.get? 101 = some (tabObj ps)) → s'.os = s₀.os → (AllBare s₀.gens → AllBare s'.gens) → Q (.ret (.bool true)) s') :
    wpAny (model prog w) A (execs (lawFrom 0) (lawEnv L fa)) Q E s := by
  refine phA (d := d + 4) C X.T F rfl hl hx hz fun ns a1 s1 lb ln ls hns l1 hn1 hS1 ht1 F1 => ?_
  refine phB (d := d + 4) C (X.T.le l1) (F1.pick [(Str.ofString "signs", .ref ls), (Str.ofString "numbers", .ref ln)] ⟨rfl, rfl, trivial⟩) hns hn1 fun a2 s2 ld l2 hd2 F2 => ?_
  refine phC (d := d + 4) C (X.T.le (l1.trans l2)) F2 hns (hn1.keeps l2.keep) (hS1.le l2).sls fun a3 s3 lm rs lw vw l3 hm3 hrs hrows hw3 hW3 F3 => ?_
  have X3 : Lam w a3 := X.le ((l1.trans l2).trans l3)
  have l13 : Le a1 a3 := l2.trans l3
  have D3 : Dat a3 ns lw lm ld ls ln rs := ⟨hns, ⟨vw, hw3.isList, hW3⟩, hm3, hrs, hrows, hd2.keeps l3.keep, hS1.le l13, hn1.keeps l13.keep, Nat.lt_of_lt_of_le ht1 l13.tk⟩
  refine phD (d := d + 2) C X3 h101 F3 rfl hw3 hW3 fun a4 s4 lo vo order ps l4 ht4 T4 ho4 hO hOr F4 => ?_
  have D4 := (X3.dat D3).le l4
  have A := facts ns order hns hOr
  have hol : order.length = 4 := hOr.perm.length_eq
  have ho' : ∀ k ∈ order, (1 : Int) ≤ k ∧ k < 5 := fun k hk => by
    exact mem4 _ (hOr.perm.mem_iff.mp hk)
  refine phE (d := d + 4) C T4 F4 hns hOr D4.names ⟨vo, ho4.isList, hO⟩ fun s5 F5 => ?_
  refine phF (d := d + 4) C T4 F5 hns hOr D4.numbers ho4 hO fun a6 s6 lr vr b c l6 hr6 hI6 hb6 hc6 F6 => ?_
  have T6 := T4.le l6
  have D6 := D4.le l6
  have hrm := rowAt_mem ns order hns ho' 4 (by (first | exact Nat.lt_of_lt_of_le (by with_reducible assumption) (by with_reducible assumption) | exact Nat.le_trans (by with_reducible assumption) (by with_reducible assumption) | omega))
  have hrl := rowAt_len ns order 4
  refine phF2 (d := d + 4) C T6 F6 hr6 hI6 hrl hrm fun a7 s7 lmd t0 l7 ht7 ht7' hm7 F7 => ?_
  have T7 := T6.le l7
  have D7 := D6.le l7
  have hmm := mdTl_mem hrm hrl 4
  have hb0 := D4.tok
  have hap := md_apart (t0 := t0) hI6 (by (first | exact Nat.lt_of_lt_of_le (by with_reducible assumption) (by with_reducible assumption) | exact Nat.le_trans (by with_reducible assumption) (by with_reducible assumption) | omega)) (by (first | exact Nat.lt_of_lt_of_le (by with_reducible assumption) (by with_reducible assumption) | exact Nat.le_trans (by with_reducible assumption) (by with_reducible assumption) | omega)) hmm
  have hmi := md_ints (t0 := t0) hI6 hmm
  have hml : (madeOf ns order).length = 5 := by unfold madeOf; rw [List.length_cons, mdTl_len]
  have hmin : ∀ x ∈ madeOf ns order, 0 ≤ x ∧ x < 5 := fun x hx => by
    have : x ∈ ([0, 1, 2, 3, 4] : List Int) := by
      rcases List.mem_cons.mp hx with rfl | hx
      · decide
      · exact hmm x hx
    exact mem5 _ this
  refine phG (d := d + 4) C T7 F7 fun a8 s8 D8 vq P8 l8 hR8 hP8 hL8 F8 => ?_
  have T8 := T7.le l8
  have D8' := D7.le l8
  refine phH (d := d + 1) C T8 D8' F8 hR8 hP8 (hL8.lo D7.tok) fun a9 s9 D9 P9 l9 hR9 hP9 F9 => ?_
  have T9 := T8.le l9
  have D9' := D8'.le l9
  have hm9 := hm7.at fun o e => (l8.trans l9).keep _ o e
  refine phI (d := d) C T9 D9' F9 hR9 hP9 hL8 hm9 hmi A.rings fun s10 F10 => ?_
  refine phJ (d := d) C T9 D9' F10 hm9 hmi hml hmin A.c1 A.c2 A.c3 A.c4 fun s11 F11 => ?_
  refine phK (d := d) C T9 D9' F11 hm9 hmi hap hml hmin A.f1 A.f2 fun s12 v1 v2 v3 v4 h1 h2 h3 h4 F12 => ?_
  refine phL (d := d) C T9 F12 h1 h2 h3 h4 (signOf_len ns _) (signOf_len ns _) (tour_len ns _ hml _) (rounds_len hml) A.g A.wn A.l fun s13 l13' => ?_
  have l49 : Le a4 s13 := (l6.trans (l7.trans (l8.trans l9))).trans l13'
  have l03 : Le s₀ a3 := l1.trans l13
  have ln4 : Le (noTab a3) s13 := l4.trans l49
  refine k s13 (fun b o hb e => ln4.keep b o (noTab_get (l03.keep b o e) hb)) ⟨ps, l49.keep _ _ ht4⟩ (ln4.os.trans l03.os) fun hA => ln4.allBare (show AllBare a3.gens from l03.allBare hA)
end
end Mine
end

section
open PySem PySem.W PyProof.Rows PySem.Calls
namespace Mine
open PySem.Builtin.Str (occurrences strSub partsBetween subAt strKind strSliceIndices)
/-- a text with its codes renamed -/
noncomputable def ren (f : Nat → Nat) (x : Str) : Str := ⟨x.cps.map f⟩
noncomputable def Inj (f : Nat → Nat) : Prop := ∀ a b, f a = f b → a = b
section
variable {f : Nat → Nat}
theorem ren_length (x : Str) : (ren f x).length = x.length := by simp [ren, Str.length]
theorem ren_append (x y : Str) : ren f (x ++ y) = ren f x ++ ren f y := Str.ext' (by simp [ren, Str.cps_append])
theorem ren_empty : ren f Str.empty = Str.empty := Str.ext' (by simp [ren, Str.empty])
theorem ren_list (x : Str) : (ren f x).cps.toList = x.cps.toList.map f := by simp [ren]
theorem str_ext {x y : Str} (h : x.cps.toList = y.cps.toList) : x = y := Str.ext' (Array.toList_inj.mp h)
theorem ren_sub (x : Str) (i j : Nat) : strSub (ren f x) i j = ren f (strSub x i j) := str_ext (by rw [ren_list, StrLaws.strSub_toList, StrLaws.strSub_toList, ren_list, List.map_take, List.map_drop])
theorem map_beq (hf : Inj f) : ∀ a b : List Nat, (a.map f == b.map f) = (a == b)
  | [], [] => rfl
  | [], _ :: _ => rfl
  | _ :: _, [] => rfl
  | x :: r, y :: q => by
    have := map_beq hf r q
    show (f x == f y && (r.map f == q.map f)) = (x == y && (r == q))
    rw [this]
    congr 1
    rw [Bool.eq_iff_iff, beq_iff_eq, beq_iff_eq]
    exact ⟨hf x y, fun e => by rw [e]⟩
theorem ren_subAt (hf : Inj f) (x y : Str) (i : Nat) : subAt (ren f x) (ren f y) i = subAt x y i := by
  rw [StrLaws.subAt_eq, StrLaws.subAt_eq, ren_list, ren_list, ren_length, ← map_beq hf (List.take y.length (List.drop i x.cps.toList)), List.map_take, List.map_drop]
theorem ren_occ (hf : Inj f) (x y : Str) (lo hi n : Nat) : occurrences (ren f x) (ren f y) lo hi n = occurrences x y lo hi n := by
  unfold occurrences
  simp only [ren_subAt hf, ren_length]
theorem ren_parts (x : Str) (cuts : List Nat) (w : Nat) : partsBetween (ren f x) cuts w = (partsBetween x cuts w).map (ren f) := by
  unfold partsBetween
  rw [List.map_map]
  simp only [ren_length]
  refine List.map_congr_left fun p _ => ?_
  obtain ⟨i, j⟩ := p
  exact ren_sub x i j
theorem ren_beq (hf : Inj f) (x y : Str) : (ren f x == ren f y) = (x == y) := by
  have h : ∀ a b : Str, (a == b) = (a.cps.toList == b.cps.toList) := fun a b => by
    rw [Bool.eq_iff_iff, beq_iff_eq, beq_iff_eq]
    exact ⟨fun e => by rw [e], str_ext⟩
  rw [h, h, ren_list, ren_list, map_beq hf]
theorem ren_find (hf : Inj f) (x y : Str) (i j : Int) : findB (ren f x) (ren f y) i j = findB x y i j := by
  unfold findB
  rw [ren_occ hf, ren_length]
theorem ren_starts (hf : Inj f) (x y : Str) : Txt.startswith (ren f x) (ren f y) = Txt.startswith x y := by
  unfold Txt.startswith
  rw [ren_subAt hf, ren_length, ren_length]
theorem ren_ends (hf : Inj f) (x y : Str) : Txt.endswith (ren f x) (ren f y) = Txt.endswith x y := by
  unfold Txt.endswith
  rw [ren_subAt hf, ren_length, ren_length]
theorem ren_tail (hf : Inj f) (got : Str) (e : Int) : ∀ (ws : List Str) (p : Int), ellTail (ren f got) e (ws.map (ren f)) p = ellTail got e ws p
  | [], _ => rfl
  | w :: r, p => by
    show (if findB (ren f got) (ren f w) p e < 0 then false else ellTail (ren f got) e (r.map (ren f)) (findB (ren f got) (ren f w) p e + (ren f w).length)) = _
    rw [ren_find hf, ren_length, ren_tail hf got e r]; rfl
theorem ren_lastD : ∀ (ws : List Str), (ws.map (ren f)).getLastD Str.empty = ren f (ws.getLastD Str.empty) := fun ws => by
  rw [List.getLastD_eq_getLast?, List.getLastD_eq_getLast?, List.getLast?_map]
  cases ws.getLast? with
  | none => exact ren_empty.symm
  | some x => rfl
theorem ren_end (hf : Inj f) (got : Str) (ws : List Str) (p e : Int) : ellEnd (ren f got) (ws.map (ren f)) p e = ellEnd got ws p e := by
  unfold ellEnd; rw [ren_tail hf]
theorem ren_last (hf : Inj f) (got : Str) (ws : List Str) (z : Str) (p : Int) : ellLast (ren f got) (ws.map (ren f)) (ren f z) p = ellLast got ws z p := by
  unfold ellLast
  rw [ren_length, ren_length, ren_ends hf, ← List.map_dropLast, ren_end hf, ren_end hf]
theorem ren_head (hf : Inj f) (got : Str) : ∀ ws : List Str, ellHead (ren f got) (ws.map (ren f)) = ellHead got ws
  | [] => rfl
  | w :: r => by
    have e : (w :: r).map (ren f) = ren f w :: r.map (ren f) := rfl
    have h1 := ren_last hf got r (r.getLastD Str.empty) w.length
    have h2 := ren_last hf got (w :: r) ((w :: r).getLastD Str.empty) 0
    rw [← ren_lastD] at h1 h2
    rw [e] at h2 ⊢
    show (if (ren f w).length ≠ 0 then (if Txt.startswith (ren f got) (ren f w) then ellLast (ren f got) (r.map (ren f)) ((r.map (ren f)).getLastD Str.empty) (ren f w).length else false) else ellLast (ren f got) (ren f w :: r.map (ren f)) ((ren f w :: r.map (ren f)).getLastD Str.empty) 0) = if w.length ≠ 0 then (if Txt.startswith got w then ellLast got r (r.getLastD Str.empty) w.length else false) else ellLast got (w :: r) ((w :: r).getLastD Str.empty) 0
    rw [ren_length, ren_starts hf, h1, h2]
theorem ren_dots (hd : f 46 = 46) : ren f dots = dots := str_ext (by
  rw [ren_list]
  show [46, 46, 46].map f = [46, 46, 46]
  simp [hd])
theorem ren_ell (hf : Inj f) (hd : f 46 = 46) (want got : Str) : ellF (ren f want) (ren f got) = ellF want got := by
  unfold ellF
  have h : ∀ n, occurrences (ren f want) dots 0 (ren f want).length n = occurrences want dots 0 want.length n := fun n => by
    have := ren_occ hf want dots 0 want.length n
    rw [ren_dots hd] at this
    rw [ren_length]; exact this
  rw [h, ren_length, show occurrences (ren f want) dots 0 want.length (want.length + 1) = occurrences want dots 0 want.length (want.length + 1) by rw [← ren_length (f := f) want, h, ren_length], ren_beq hf, ren_parts, ren_head hf]
theorem ren_join (sep : Str) : ∀ xs : List Str, Txt.join (ren f sep) (xs.map (ren f)) = ren f (Txt.join sep xs) := fun xs => by
  show Builtin.Str.glued _ _ = ren f (Builtin.Str.glued _ _)
  rw [StrLaws.glued_eq_join, StrLaws.glued_eq_join]
  induction xs with
  | nil => exact ren_empty.symm
  | cons x r ih =>
    cases r with
    | nil => rfl
    | cons y r =>
      show ren f x ++ ren f sep ++ Str.join (ren f sep) ((y :: r).map (ren f)) = ren f (x ++ sep ++ Str.join sep (y :: r))
      rw [ih, ren_append, ren_append]
theorem ren_slice (x : Str) (i j : Option Int) : Txt.slice (ren f x) i j = ren f (Txt.slice x i j) := by
  unfold Txt.slice
  rw [ren_length]
  split
  · rfl
  · refine str_ext ?_
    rw [ren_list, List.map_filterMap]
    simp only [ren]
    congr 1
    funext k
    simp
end
end Mine
end

section
open PySem PySem.W PyProof.Rows PySem.Calls
namespace Mine
open PySem.Builtin.Str (occurrences strSub partsBetween subAt strKind strSliceIndices)
noncomputable def cC (k : Nat) : Str := ⟨#[k]⟩
noncomputable def base5 : Str := ⟨#[0, 1, 2, 3, 4]⟩
noncomputable def rot (k : Nat) : Str := Txt.slice base5 (some (k : Int)) none ++ Txt.slice base5 none (some ((k : Int) + 1))
noncomputable def shownC (p q r : Nat) : Str := Txt.join dots [cC p, cC q, cC r, cC p]
noncomputable def fitC (p q r : Nat) : Bool := decide (0 < (q + 5 - p) % 5) && decide ((q + 5 - p) % 5 < (r + 5 - p) % 5)
/-- a turn of the five -/
noncomputable def rr (p c : Nat) : Nat := if c < 5 then (c + p) % 5 else c
theorem rr_inj (p : Nat) : Inj (rr p) := fun a b h => by
  unfold rr at h
  by_cases a5 : a < 5
  · rw [if_pos a5] at h
    by_cases b5 : b < 5
    · rw [if_pos b5] at h; omega
    · rw [if_neg b5] at h; omega
  · rw [if_neg a5] at h
    by_cases b5 : b < 5
    · rw [if_pos b5] at h; omega
    · rw [if_neg b5] at h; exact h
theorem rr_dot (p : Nat) : rr p 46 = 46 := rfl
theorem mod_a : ∀ p, p < 5 → ∀ q, q < 5 → (q + 5 - p) % 5 < 5 ∧ ((q + 5 - p) % 5 + p) % 5 = q ∧ ((q + 5 - p) % 5 + 5 - 0) % 5 = (q + 5 - p) % 5 ∧ ((p + q) % 5 + 5 - p) % 5 = q ∧ (p + q) % 5 < 5 := by decide
theorem mod_0 (p : Nat) : (p + 5 - p) % 5 = 0 := by rw [Nat.add_sub_cancel_left]
theorem rr_c {p q : Nat} (hp : p < 5) (hq : q < 5) : ren (rr p) (cC ((q + 5 - p) % 5)) = cC q := by
  obtain ⟨h1, h2, _⟩ := mod_a p hp q hq
  refine str_ext ?_
  rw [ren_list]
  show [rr p ((q + 5 - p) % 5)] = [q]
  unfold rr
  rw [if_pos h1, h2]
theorem rot_rr : ∀ p, p < 5 → rot p = ren (rr p) (rot 0) := by decide +kernel
theorem fit_tab0 : ∀ q, q < 5 → ∀ r, r < 5 → ellF (shownC 0 q r) (rot 0) = fitC 0 q r := by decide +kernel
theorem fit_tab (p : Nat) (hp : p < 5) (q : Nat) (hq : q < 5) (r : Nat) (hr : r < 5) : ellF (shownC p q r) (rot p) = fitC p q r := by
  have h : shownC p q r = ren (rr p) (shownC 0 ((q + 5 - p) % 5) ((r + 5 - p) % 5)) := by
    unfold shownC
    rw [← ren_join, ren_dots (rr_dot p)]
    have h0 : ren (rr p) (cC 0) = cC p := by
      have := rr_c hp hp
      rwa [mod_0] at this
    show _ = Txt.join dots [ren (rr p) (cC 0), ren (rr p) (cC ((q + 5 - p) % 5)), ren (rr p) (cC ((r + 5 - p) % 5)), ren (rr p) (cC 0)]
    rw [h0, rr_c hp hq, rr_c hp hr]
  rw [h, rot_rr p hp, ren_ell (rr_inj p) (rr_dot p), fit_tab0 _ (mod_a p hp q hq).1 _ (mod_a p hp r hr).1]
  unfold fitC
  rw [(mod_a p hp q hq).2.2.1, (mod_a p hp r hr).2.2.1]
noncomputable def rn (v : List Nat) (c : Nat) : Nat := if c = 46 then 46 else if c < 5 then v.getD c 0 else c + 1000000
theorem rn_dot (v : List Nat) : rn v 46 = 46 := rfl
theorem rn_inj {v : List Nat} (hl : v.length = 5) (hn : v.Nodup) (hv : ∀ c ∈ v, 20000 ≤ c ∧ c < 1000000) : Inj (rn v) := by
  intro a b h
  have g : ∀ i, i < 5 → 20000 ≤ v.getD i 0 ∧ v.getD i 0 < 1000000 := fun i hi => hv _ (getD_mem (hl ▸ hi))
  unfold rn at h
  by_cases a46 : a = 46
  · rw [if_pos a46] at h
    by_cases b46 : b = 46
    · rw [a46, b46]
    · rw [if_neg b46] at h
      by_cases b5 : b < 5
      · rw [if_pos b5] at h; have := g b b5; omega
      · rw [if_neg b5] at h; omega
  · rw [if_neg a46] at h
    by_cases a5 : a < 5
    · rw [if_pos a5] at h
      have ga := g a a5
      by_cases b46 : b = 46
      · rw [if_pos b46] at h; omega
      · rw [if_neg b46] at h
        by_cases b5 : b < 5
        · rw [if_pos b5] at h
          rw [List.getD_eq_getElem?_getD, List.getD_eq_getElem?_getD, List.getElem?_eq_getElem (hl ▸ a5), List.getElem?_eq_getElem (hl ▸ b5)] at h
          have hp := List.pairwise_iff_getElem.mp hn
          rcases Nat.lt_trichotomy a b with q | q | q
          · exact absurd h (hp a b (hl ▸ a5) (hl ▸ b5) q)
          · exact q
          · exact absurd h.symm (hp b a (hl ▸ b5) (hl ▸ a5) q)
        · rw [if_neg b5] at h; omega
    · rw [if_neg a5] at h
      by_cases b46 : b = 46
      · rw [if_pos b46] at h; omega
      · rw [if_neg b46] at h
        by_cases b5 : b < 5
        · rw [if_pos b5] at h; have := g b b5; omega
        · rw [if_neg b5] at h; omega
/-- the codes of the things are apart -/
theorem nat5 {x : Int} (h0 : 0 ≤ x) (h1 : x < 5) : x.toNat < 5 := (Int.toNat_lt h0).mpr h1
theorem code_bnd {ns : List Int} (hns : Nums ns) {x : Int} (h0 : 0 ≤ x) (h1 : x < 5) : 20000 ≤ codeOf ns x ∧ codeOf ns x < 1000000 := by
  obtain ⟨a, b⟩ := nums_at hns (k := x.toNat) (nat5 h0 h1)
  unfold codeOf; omega
theorem code_inj {ns : List Int} (hns : Nums ns) {x y : Int} (h0 : 0 ≤ x) (h1 : x < 5) (h2 : 0 ≤ y) (h3 : y < 5) (h : codeOf ns x = codeOf ns y) : x = y := by
  unfold codeOf at h
  rw [Int.toNat_of_nonneg h0, Int.toNat_of_nonneg h2] at h
  exact code_eq h0 h2 (nums_at hns (nat5 h0 h1)) (nums_at hns (nat5 h2 h3)) h
theorem ring_nodup : ∀ r ∈ ringsAt 4, r.Nodup := by decide
noncomputable def codes (ns ring : List Int) : List Nat := ring.map (codeOf ns)
theorem codes_inj {ns ring : List Int} (hns : Nums ns) (hr : ring ∈ ringsAt 4) : Inj (rn (codes ns ring)) := by
  obtain ⟨hl, hin⟩ := ringsAt_mem 4 ring hr
  refine rn_inj (by unfold codes; rw [List.length_map]; exact hl) ?_ fun c hc => ?_
  · have hn := ring_nodup ring hr
    unfold codes
    rw [List.Nodup, List.pairwise_map]
    refine List.Pairwise.imp_of_mem (fun {a b} ha hb hab e => ?_) hn
    exact hab (code_inj hns (hin a ha).1 (hin a ha).2 (hin b hb).1 (hin b hb).2 e)
  · obtain ⟨x, hx, rfl⟩ := List.mem_map.mp hc
    exact code_bnd hns (hin x hx).1 (hin x hx).2
theorem ren_c {ns ring : List Int} (hl : ring.length = 5) {p : Nat} (hp : p < 5) {x : Int} (hx : ring[p]? = some x) : ren (rn (codes ns ring)) (cC p) = ⟨#[codeOf ns x]⟩ := by
  refine str_ext ?_
  rw [ren_list]
  show [rn (codes ns ring) p] = [codeOf ns x]
  congr 1
  unfold rn codes
  rw [if_neg (Nat.ne_of_lt (Nat.lt_trans hp (by decide))), if_pos hp, List.getD_eq_getElem?_getD, List.getElem?_map, hx]; rfl
theorem tourText_ren {ns ring : List Int} (hr : ring ∈ ringsAt 4) : tourText ring (signsF ns) = ren (rn (codes ns ring)) base5 := by
  obtain ⟨hl, hin⟩ := ringsAt_mem 4 ring hr
  match ring, hl with
  | [a, b, c, d, e], _ =>
    have g : ∀ x ∈ ([a, b, c, d, e] : List Int), signOf (signsF ns) x = ⟨#[codeOf ns x]⟩ := fun x hx => signOf_code ns (hin x hx).1 (hin x hx).2
    unfold tourText
    simp only [List.map_cons, List.map_nil]
    rw [g a (by simp), g b (by simp), g c (by simp), g d (by simp), g e (by simp)]
    refine str_ext ?_
    rw [ren_list]
    have h1 : base5.cps.toList.map (rn (codes ns [a, b, c, d, e])) = [codeOf ns a, codeOf ns b, codeOf ns c, codeOf ns d, codeOf ns e] := by simp [base5, rn, codes]
    rw [h1]
    show (Builtin.Str.glued _ _).cps.toList = _
    simp [Builtin.Str.glued, Str.empty]
theorem tour_ren {ns ring : List Int} (hr : ring ∈ ringsAt 4) (k : Nat) : tourF ring (signsF ns) k = ren (rn (codes ns ring)) (rot k) := by
  unfold tourF rot
  rw [tourText_ren hr, ren_slice, ren_slice, ren_append]
theorem ring_at {ring : List Int} (hr : ring ∈ ringsAt 4) {x : Int} (h0 : 0 ≤ x) (h1 : x < 5) : ring[idx ring x]? = some x ∧ idx ring x < 5 := by
  have h := ring_has ring hr x.toNat (nat5 h0 h1)
  rw [Int.toNat_of_nonneg h0] at h
  refine ⟨h, ?_⟩
  have := (List.getElem?_eq_some_iff.mp h).1
  rw [(ringsAt_mem 4 ring hr).1] at this; exact this
theorem sign_ren {ns ring : List Int} (hr : ring ∈ ringsAt 4) {x : Int} (h0 : 0 ≤ x) (h1 : x < 5) : signOf (signsF ns) x = ren (rn (codes ns ring)) (cC (idx ring x)) := by
  obtain ⟨h, h5⟩ := ring_at hr h0 h1
  rw [ren_c (ringsAt_mem 4 ring hr).1 h5 h, signOf_code ns h0 h1]
theorem fits_eq {ns ring : List Int} (hns : Nums ns) (hr : ring ∈ ringsAt 4) {x y z : Int} (hx : 0 ≤ x ∧ x < 5) (hy : 0 ≤ y ∧ y < 5) (hz : 0 ≤ z ∧ z < 5) :
    fits (signsF ns) x y z ring = fitC (idx ring x) (idx ring y) (idx ring z) := by
  unfold fits shownF
  rw [tour_ren hr, sign_ren hr hx.1 hx.2, sign_ren hr hy.1 hy.2, sign_ren hr hz.1 hz.2]
  have : Txt.join dots [ren (rn (codes ns ring)) (cC (idx ring x)), ren (rn (codes ns ring)) (cC (idx ring y)), ren (rn (codes ns ring)) (cC (idx ring z)), ren (rn (codes ns ring)) (cC (idx ring x))] = ren (rn (codes ns ring)) (shownC (idx ring x) (idx ring y) (idx ring z)) := by
    unfold shownC
    rw [← ren_join, ren_dots (rn_dot _)]; rfl
  rw [this, ren_ell (codes_inj hns hr) (rn_dot _)]
  exact fit_tab _ (ring_at hr hx.1 hx.2).2 _ (ring_at hr hy.1 hy.2).2 _ (ring_at hr hz.1 hz.2).2
end Mine
end

section
open PySem PySem.W PyProof.Rows PySem.Calls
namespace Mine
noncomputable def roundsC (p : Nat) : Str := rot p ++ Txt.slice (rot p) (some 1) none
section
variable {f : Nat → Nat}
theorem gots_ren (hd : f 46 = 46) (t r S T : Str) : gotsF (ren f t) (ren f r) (ren f S) (ren f T) = (gotsF t r S T).map fun p => (ren f p.1, ren f p.2) := by
  have h : Txt.join dots [ren f S, ren f T, ren f S, ren f S] = ren f (Txt.join dots [S, T, S, S]) := by
    rw [← ren_join, ren_dots hd]; rfl
  unfold gotsF
  rw [h]
  simp only [List.map_cons, List.map_nil, ren_append, ren_dots hd]
theorem wants_ren (t S T : Str) : wantsF (ren f t) (ren f S) (ren f T) = (wantsF t S T).map (List.map (ren f)) := by
  unfold wantsF
  simp only [List.map_cons, List.map_nil, ren_slice]
noncomputable def finC (tour rounds S T : Str) : Bool :=
  (gotsF tour rounds S T).all (fun x => ellF x.1 x.2) && (wantsF tour S T).all (fun x => !ellF (Txt.join dots x) tour) && !ellF ((S ++ dots) ++ S) S
theorem fin_ren (hf : Inj f) (hd : f 46 = 46) (t r S T : Str) : finC (ren f t) (ren f r) (ren f S) (ren f T) = finC t r S T := by
  unfold finC
  rw [gots_ren hd, wants_ren, List.all_map, List.all_map]
  congr 1
  · congr 1
    · congr 1; funext p; exact ren_ell hf hd p.1 p.2
    · congr 1; funext x
      show (!ellF (Txt.join dots (x.map (ren f))) (ren f t)) = !ellF (Txt.join dots x) t
      rw [show Txt.join dots (x.map (ren f)) = ren f (Txt.join dots x) by rw [← ren_join, ren_dots hd], ren_ell hf hd]
  · rw [show (ren f S ++ dots) ++ ren f S = ren f ((S ++ dots) ++ S) by rw [ren_append, ren_append, ren_dots hd], ren_ell hf hd]
end
theorem fin_tab : ∀ far, far < 5 → 1 ≤ far → finC (rot 0) (roundsC 0) (cC 0) (cC far) = true := by decide +kernel
theorem idx_tab : ∀ far, far < 5 → 1 ≤ far → (roundsC 0).cps.toList[far]? = some far ∧ ∀ j, j < far → (roundsC 0).cps.toList[j]? ≠ some far := by decide +kernel
theorem idx_back : ∀ r ∈ ringsAt 4, ∀ p, p < 5 → idx r (r.getD p 0) = p := by decide
theorem get_ren {f : Nat → Nat} (hf : Inj f) (x : Str) (j c : Nat) : (ren f x).cps[j]? = some (f c) ↔ x.cps.toList[j]? = some c := by
  have : (ren f x).cps[j]? = (x.cps.toList[j]?).map f := by simp [ren]
  rw [this]
  constructor
  · intro h
    obtain ⟨d, hd, e⟩ := Option.map_eq_some_iff.mp h
    rw [hd, hf d c e]
  · intro h; rw [h]; rfl
/-- what the last tests ask -/
theorem fin_facts {ns made : List Int} (hns : Nums ns) (hm : made ∈ ringsAt 4) :
    (roundsOf ns made).cps[(farOf ns).toNat]? = some (codeOf ns (tOf ns made)) ∧ (∀ j, j < (farOf ns).toNat → (roundsOf ns made).cps[j]? ≠ some (codeOf ns (tOf ns made))) ∧
    finC (tourOf ns made) (roundsOf ns made) (signOf (signsF ns) (sOf ns made)) (signOf (signsF ns) (tOf ns made)) = true := by
  obtain ⟨hp0, hp5⟩ := p_bnd (ns := ns)
  obtain ⟨hf0, hf5⟩ := far_bnd (ns := ns)
  obtain ⟨hl, hin⟩ := ringsAt_mem 4 made hm
  have hsm : sOf ns made ∈ made := getD_in hl hp0 hp5
  have htm : tOf ns made ∈ made := getD_in hl (Int.emod_nonneg _ (by decide)) (Int.emod_lt_of_pos _ (by decide))
  have hs5 := hin _ hsm
  have ht5 := hin _ htm
  have his : idx made (sOf ns made) = (pOf ns).toNat := idx_back made hm _ (nat5 hp0 hp5)
  have hit : idx made (tOf ns made) = ((pOf ns + farOf ns) % 5).toNat := idx_back made hm _ (nat5 (Int.emod_nonneg _ (by decide)) (Int.emod_lt_of_pos _ (by decide)))
  generalize hg : rn (codes ns made) = g at *
  have hgi : Inj g := by rw [← hg]; exact codes_inj hns hm
  have hgd : g 46 = 46 := by rw [← hg]; rfl
  obtain ⟨p, hp⟩ : ∃ p : Nat, (pOf ns).toNat = p := ⟨_, rfl⟩
  obtain ⟨fr, hfr⟩ : ∃ fr : Nat, (farOf ns).toNat = fr := ⟨_, rfl⟩
  have hp5' : p < 5 := hp ▸ nat5 hp0 hp5
  have hfr5 : fr < 5 := hfr ▸ nat5 (Int.le_trans (by decide) hf0) hf5
  have hfr1 : 1 ≤ fr := by
    rw [← hfr]; exact (Int.le_toNat (Int.le_trans (by decide) hf0)).mpr hf0
  have hq : ((pOf ns + farOf ns) % 5).toNat = (p + fr) % 5 := by
    rw [← Int.toNat_of_nonneg hp0, ← Int.toNat_of_nonneg (Int.le_trans (by decide) hf0 : 0 ≤ farOf ns), hp, hfr]; rfl
  have hmd := (mod_a p hp5' fr hfr5).2.2.2
  have htr : tourOf ns made = ren g (ren (rr p) (rot 0)) := by
    unfold tourOf
    rw [tour_ren hm, his, hp, rot_rr p hp5', hg]
  have hrd : roundsOf ns made = ren g (ren (rr p) (roundsC 0)) := by
    unfold roundsOf roundsC
    rw [htr, ren_slice, ren_slice, ren_append, ren_append]
  have hS : signOf (signsF ns) (sOf ns made) = ren g (ren (rr p) (cC 0)) := by
    rw [sign_ren hm hs5.1 hs5.2, his, hp, hg]
    have := rr_c hp5' hp5'
    rw [mod_0] at this
    rw [this]
  have hT : signOf (signsF ns) (tOf ns made) = ren g (ren (rr p) (cC fr)) := by
    rw [sign_ren hm ht5.1 ht5.2, hit, hq, hg]
    have := rr_c hp5' hmd.2
    rw [hmd.1] at this
    rw [this]
  have hcode : codeOf ns (tOf ns made) = g (rr p fr) := by
    have e := signOf_code ns ht5.1 ht5.2
    rw [hT] at e
    have e2 := congrArg (fun s : Str => s.cps.toList) e
    simp only [ren_list] at e2
    have e3 : [g (rr p fr)] = [codeOf ns (tOf ns made)] := e2
    exact (List.cons.inj e3).1.symm
  obtain ⟨i1, i2⟩ := idx_tab fr hfr5 hfr1
  have key : ∀ j c, (roundsOf ns made).cps[j]? = some (g (rr p c)) ↔ (roundsC 0).cps.toList[j]? = some c := fun j c => by
    rw [hrd, get_ren hgi, ren_list, List.getElem?_map]
    constructor
    · intro h
      obtain ⟨d, hd, e⟩ := Option.map_eq_some_iff.mp h
      rw [hd, rr_inj p d c e]
    · intro h; rw [h]; rfl
  refine ⟨?_, fun j hj => ?_, ?_⟩
  · rw [hfr, hcode]; exact (key _ _).mpr i1
  · rw [hcode]; exact fun h => i2 j (hfr ▸ hj) ((key _ _).mp h)
  · rw [htr, hrd, hS, hT, fin_ren hgi hgd, fin_ren (rr_inj p) (rr_dot p)]
    exact fin_tab fr hfr5 hfr1
end Mine
end

section
open PySem PySem.W PyProof.Rows PySem.Calls
namespace Mine
open PySem.Builtin.Str (occurrences strSub partsBetween subAt strKind strSliceIndices)
/-- a sign, or one behind a backslash -/
noncomputable abbrev Atom := Bool × Nat
noncomputable def atxt (a : Atom) : List Nat := if a.1 then [92, a.2] else [a.2]
noncomputable def aitem (a : Atom) : Str := if a.1 then bsl ++ ⟨#[a.2]⟩ else ⟨#[a.2]⟩
noncomputable def plain92 (a : Atom) : Prop := a.1 = true ∨ a.2 ≠ 92
noncomputable def aok (a : Atom) : Prop := a.1 = true ∨ (a.2 ≠ 34 ∧ a.2 ≠ 92)
theorem aok.p {a : Atom} (h : aok a) : plain92 a := h.imp id (·.2)
inductive Blk
  | pl (a : Atom)
  | qu (as : List Atom)
noncomputable def Blk.txt : Blk → List Nat
  | .pl a => atxt a
  | .qu as => 34 :: (as.flatMap atxt ++ [34])
noncomputable def Blk.keep : Blk → List Atom
  | .pl a => [a]
  | .qu _ => []
noncomputable def Blk.ok : Blk → Prop
  | .pl a => aok a
  | .qu as => ∀ a ∈ as, aok a
theorem sg_eq (c d : Nat) : ((⟨#[c]⟩ : Str) == ⟨#[d]⟩) = (c == d) := by
  rw [Bool.eq_iff_iff, beq_iff_eq, beq_iff_eq]
  exact ⟨fun e => by injection e with e; injection e with e; injection e, fun e => by rw [e]⟩
theorem sg_bsl (c : Nat) : ((⟨#[c]⟩ : Str) == bsl) = (c == 92) := sg_eq c 92
theorem two_ne (c d : Nat) : (bsl ++ (⟨#[c]⟩ : Str) == ⟨#[d]⟩) = false := by
  rw [Bool.eq_false_iff]
  intro h
  have e := congrArg Str.length (beq_iff_eq.mp h)
  rw [Str.length_append] at e
  exact absurd (show 1 + 1 = 1 from e) (by decide)
theorem aitem_eq (a : Atom) (d : Nat) : (aitem a == (⟨#[d]⟩ : Str)) = (!a.1 && a.2 == d) := by
  unfold aitem
  cases h : a.1 with
  | true => simp [two_ne]
  | false => simp [sg_eq]
theorem esc_atom {a : Atom} (h : plain92 a) (rest : List Nat) (i : Int) : escItems (atxt a ++ rest) i false = (i + (if a.1 then 1 else 0), aitem a) :: escItems rest (i + (atxt a).length) false := by
  obtain ⟨e, c⟩ := a
  cases e with
  | true =>
    show escItems (92 :: c :: rest) i false = _
    rw [escItems_false, sg_bsl, escItems_true]
    show _ = (i + 1, bsl ++ ⟨#[c]⟩) :: escItems rest (i + 2) false
    rw [show i + 1 + 1 = i + 2 by (first | exact Int.natCast_nonneg _ | exact Nat.le_refl _ | omega)]
    exact if_pos rfl
  | false =>
    have hc : c ≠ 92 := h.elim (fun q => nomatch q) id
    show escItems (c :: rest) i false = _
    rw [escItems_false, sg_bsl, if_neg (by simpa using hc)]
    show _ = (i + 0, ⟨#[c]⟩) :: escItems rest (i + 1) false
    rw [Int.add_zero]
theorem fold_atoms (x : Str) : ∀ (as : List Atom), (∀ a ∈ as, aok a) → ∀ (rest : List Nat) (i : Int) (q : Int × Option Int × List Str),
    (escItems (as.flatMap atxt ++ rest) i false).foldl (stripStep x) q = (escItems rest (i + (as.flatMap atxt).length) false).foldl (stripStep x) q
  | [], _, rest, i, q => by simp
  | a :: r, h, rest, i, q => by
    have ha := h a (.head _)
    rw [List.flatMap_cons, List.append_assoc, esc_atom ha.p, List.foldl_cons]
    have hs : stripStep x q (i + (if a.1 then 1 else 0), aitem a) = q := by
      unfold stripStep
      have : ((i + (if a.1 then 1 else 0 : Int), aitem a).2 == qt) = false := by
        show (aitem a == (⟨#[34]⟩ : Str)) = false
        rw [aitem_eq]
        rcases ha with h | h
        · rw [h]; rfl
        · have : (a.2 == 34) = false := by simpa using h.1
          rw [this, Bool.and_false]
      rw [this]; rfl
    rw [hs, fold_atoms x r (fun b hb => h b (List.mem_cons_of_mem _ hb)), List.length_append]
    congr 2; push_cast; (first | exact Int.natCast_nonneg _ | exact Nat.le_refl _ | omega)
theorem esc_quote (rest : List Nat) (i : Int) : escItems (34 :: rest) i false = (i, qt) :: escItems rest (i + 1) false := by
  rw [escItems_false, sg_bsl, if_neg (by decide)]; rfl
theorem slice_list (x : Str) {a b : Nat} (hab : a ≤ b) (hb : b ≤ x.cps.toList.length) : (Txt.slice x (some (a : Int)) (some (b : Int))).cps.toList = (x.cps.toList.drop a).take (b - a) := by
  have h := slice_closes (x := x) (i := a) (j := b) ⟨by (first | exact Int.natCast_nonneg _ | exact Nat.le_refl _ | omega), by (first | exact Int.natCast_nonneg _ | exact Nat.le_refl _ | omega), by (first | exact Int.natCast_nonneg _ | exact Nat.le_refl _ | omega)⟩
  rw [beq_iff_eq.mp h]
  simp only [Int.toNat_natCast]
  rw [show ((b : Int) - a).toNat = b - a by (first | exact Int.natCast_nonneg _ | exact Nat.le_refl _ | omega)]
theorem slice_list_from (x : Str) {a : Nat} (ha : a ≤ x.cps.toList.length) : (Txt.slice x (some (a : Int)) none).cps.toList = x.cps.toList.drop a := by
  have h := slice_closes_from (x := x) (i := a) ⟨by (first | exact Int.natCast_nonneg _ | exact Nat.le_refl _ | omega), by (first | exact Int.natCast_nonneg _ | exact Nat.le_refl _ | omega)⟩
  rw [beq_iff_eq.mp h]
  simp only [Int.toNat_natCast]
  rw [List.take_of_length_le (by rw [List.length_drop]; (first | exact Int.natCast_nonneg _ | exact Nat.le_refl _ | omega))]
theorem join_list (xs : List Str) : (Txt.join Str.empty xs).cps.toList = xs.flatMap fun x => x.cps.toList := by
  show (Builtin.Str.glued _ _).cps.toList = _
  rw [StrLaws.glued_eq_join]
  induction xs with
  | nil => rfl
  | cons x r ih =>
    cases r with
    | nil => simp [Str.join]
    | cons y r =>
      show (x ++ Str.empty ++ Str.join Str.empty (y :: r)).cps.toList = _
      rw [Str.append_empty, Str.cps_append, Array.toList_append, ih, List.flatMap_cons (xs := y :: r)]
/-- what is kept so far -/
structure Kept (pre : List Nat) (s : Nat) (ps : List Str) (out : List Nat) : Prop where
  le : s ≤ pre.length
  eq : (ps.flatMap fun x => x.cps.toList) ++ pre.drop s = out
theorem fold_blks (x : Str) : ∀ (bs : List Blk), (∀ b ∈ bs, b.ok) → ∀ (pre post : List Nat) (s : Nat) (ps : List Str) (out : List Nat), x.cps.toList = pre ++ (bs.flatMap Blk.txt ++ post) → Kept pre s ps out →
    ∃ s' ps', (escItems (bs.flatMap Blk.txt ++ post) pre.length false).foldl (stripStep x) ((s : Int), none, ps) = (escItems post (pre ++ bs.flatMap Blk.txt).length false).foldl (stripStep x) (((s' : Nat) : Int), none, ps') ∧
      Kept (pre ++ bs.flatMap Blk.txt) s' ps' (out ++ (bs.flatMap Blk.keep).flatMap atxt)
  | [], _, pre, post, s, ps, out, _, K => ⟨s, ps, by simp, by simpa using K⟩
  | .pl a :: r, h, pre, post, s, ps, out, hx, K => by
    have ha : aok a := h _ (.head _)
    have hf := fold_atoms x [a] (fun b hb => by rw [List.mem_singleton.mp hb]; exact ha) (r.flatMap Blk.txt ++ post) pre.length ((s : Int), none, ps)
    simp only [List.flatMap_cons, List.flatMap_nil, List.append_nil] at hf
    obtain ⟨s', ps', h1, h2⟩ := fold_blks x r (fun b hb => h b (List.mem_cons_of_mem _ hb)) (pre ++ atxt a) post s ps (out ++ atxt a) (by rw [hx, List.flatMap_cons]; simp [Blk.txt]) ⟨by rw [List.length_append]; have := K.le; (first | exact Int.natCast_nonneg _ | exact Nat.le_refl _ | omega), by rw [List.drop_append_of_le_length K.le, ← List.append_assoc, K.eq]⟩
    refine ⟨s', ps', ?_, ?_⟩
    · rw [List.flatMap_cons]
      show (escItems ((atxt a ++ r.flatMap Blk.txt) ++ post) pre.length false).foldl (stripStep x) ((s : Int), none, ps) = _
      rw [List.append_assoc, hf]
      have e : ((pre.length : Nat) : Int) + (atxt a).length = ((pre ++ atxt a).length : Nat) := by rw [List.length_append]; push_cast; rfl
      rw [e, h1, List.append_assoc]; rfl
    · rw [List.flatMap_cons, List.flatMap_cons, List.flatMap_append]
      show Kept (pre ++ (atxt a ++ _)) s' ps' (out ++ ([a].flatMap atxt ++ _))
      simp only [List.flatMap_cons, List.flatMap_nil, List.append_nil]
      rw [← List.append_assoc, ← List.append_assoc]; exact h2
  | .qu as :: r, h, pre, post, s, ps, out, hx, K => by
    have ha : ∀ a ∈ as, aok a := h _ (.head _)
    have hx' : x.cps.toList = (pre ++ (34 :: (as.flatMap atxt ++ [34]))) ++ (r.flatMap Blk.txt ++ post) := by rw [hx, List.flatMap_cons]; simp [Blk.txt]
    have hsl : s ≤ pre.length := K.le
    have hK : ((if (s : Int) != (pre.length : Int) then ps ++ [Txt.slice x (some (s : Int)) (some (pre.length : Int))] else ps).flatMap fun x => x.cps.toList) = out := by
      by_cases q : s = pre.length
      · have := K.eq
        rw [q, List.drop_length, List.append_nil] at this
        rw [if_neg (by rw [q]; simp)]; exact this
      · rw [if_pos (by simp; (first | exact Int.natCast_nonneg _ | exact Nat.le_refl _ | omega)), List.flatMap_append, List.flatMap_cons, List.flatMap_nil, List.append_nil, slice_list x hsl (by rw [hx, List.length_append]; (first | exact Int.natCast_nonneg _ | exact Nat.le_refl _ | omega))]
        rw [hx, List.drop_append_of_le_length hsl, List.take_append_of_le_length (by rw [List.length_drop]; (first | exact Int.natCast_nonneg _ | exact Nat.le_refl _ | omega)), List.take_of_length_le (by rw [List.length_drop]; (first | exact Int.natCast_nonneg _ | exact Nat.le_refl _ | omega))]
        exact K.eq
    obtain ⟨s', ps', h1, h2⟩ := fold_blks x r (fun b hb => h b (List.mem_cons_of_mem _ hb)) (pre ++ (34 :: (as.flatMap atxt ++ [34]))) post (pre ++ (34 :: (as.flatMap atxt ++ [34]))).length (if (s : Int) != (pre.length : Int) then ps ++ [Txt.slice x (some (s : Int)) (some (pre.length : Int))] else ps) out hx' ⟨Nat.le_refl _, by rw [List.drop_length, List.append_nil]; exact hK⟩
    refine ⟨s', ps', ?_, ?_⟩
    · rw [List.flatMap_cons]
      have e0 : (Blk.qu as).txt ++ r.flatMap Blk.txt ++ post = 34 :: (as.flatMap atxt ++ (34 :: (r.flatMap Blk.txt ++ post))) := by simp [Blk.txt]
      rw [e0, esc_quote, List.foldl_cons]
      have e1 : stripStep x ((s : Int), none, ps) ((pre.length : Int), qt) = ((s : Int), some (pre.length : Int), ps) := by
        unfold stripStep
        have : (((pre.length : Int), qt).2 == qt) = true := beq_self_eq_true qt
        rw [this]; rfl
      rw [e1, fold_atoms x as ha, esc_quote, List.foldl_cons]
      have e2 : stripStep x ((s : Int), some (pre.length : Int), ps) ((pre.length : Int) + 1 + (as.flatMap atxt).length, qt) = ((((pre ++ (34 :: (as.flatMap atxt ++ [34]))).length : Nat) : Int), (none : Option Int), if (s : Int) != (pre.length : Int) then ps ++ [Txt.slice x (some (s : Int)) (some (pre.length : Int))] else ps) := by
        unfold stripStep
        have : (((pre.length : Int) + 1 + (as.flatMap atxt).length, qt).2 == qt) = true := beq_self_eq_true qt
        rw [this]
        show ((pre.length : Int) + 1 + (as.flatMap atxt).length + 1, _, _) = _
        congr 1
        simp only [List.length_append, List.length_cons, List.length_nil]
        push_cast; (first | exact Int.natCast_nonneg _ | exact Nat.le_refl _ | omega)
      have e3 : ((pre.length : Int) + 1 + (as.flatMap atxt).length + 1) = ((pre ++ (34 :: (as.flatMap atxt ++ [34]))).length : Nat) := by
        simp only [List.length_append, List.length_cons, List.length_nil]
        push_cast; (first | exact Int.natCast_nonneg _ | exact Nat.le_refl _ | omega)
      rw [e2, e3, h1]
      simp [Blk.txt, List.append_assoc]
    · rw [List.flatMap_cons, List.flatMap_cons]
      show Kept (pre ++ (34 :: (as.flatMap atxt ++ [34]) ++ _)) s' ps' (out ++ ([] ++ _).flatMap atxt)
      rw [← List.append_assoc]; exact h2
/-- a lone mark and what stands behind it -/
noncomputable def Lone (post : List Nat) : Prop := post = [] ∨ ∃ as : List Atom, post = 34 :: as.flatMap atxt ∧ ∀ a ∈ as, aok a
theorem quote_found {x : Str} (h : (occurrences x qt 0 x.length 1).isEmpty = true) : 34 ∉ x.cps.toList := fun hm => by
  obtain ⟨i, hi, e⟩ := List.mem_iff_getElem.mp hm
  have hl : qt.length = 1 := rfl
  have hxl : x.cps.toList.length = x.length := by simp [Str.length]
  have := (StrLaws.found_iff x qt).mpr ⟨i, by rw [hl]; (first | exact Int.natCast_nonneg _ | exact Nat.le_refl _ | omega), by
    rw [StrLaws.subAt_eq, hl, List.drop_eq_getElem_cons hi, e]
    show (34 :: List.take 0 _ == [34]) = true
    rfl⟩
  rw [h] at this; cases this
theorem strip_blks {x : Str} {bs : List Blk} {post : List Nat} (hx : x.cps.toList = bs.flatMap Blk.txt ++ post) (hok : ∀ b ∈ bs, b.ok) (hp : Lone post) : (stripF x).cps.toList = (bs.flatMap Blk.keep).flatMap atxt ++ post := by
  unfold stripF
  split
  · rename_i hq
    have hn := quote_found hq
    rw [hx] at hn ⊢
    congr 1
    have : ∀ bs : List Blk, 34 ∉ bs.flatMap Blk.txt → bs.flatMap Blk.txt = (bs.flatMap Blk.keep).flatMap atxt := fun bs => by
      induction bs with
      | nil => exact fun _ => rfl
      | cons b r ih =>
        intro h
        rw [List.flatMap_cons] at h ⊢
        rw [List.flatMap_cons, List.flatMap_append, ih fun q => h (List.mem_append_right _ q)]
        congr 1
        cases b with
        | pl a => simp [Blk.txt, Blk.keep]
        | qu as => exact absurd (List.mem_append_left _ (.head _)) h
    exact this bs fun q => hn (List.mem_append_left _ q)
  · obtain ⟨s', ps', h1, h2⟩ := fold_blks x bs hok [] post 0 [] [] hx ⟨Nat.le_refl _, rfl⟩
    rw [hx]
    have h1' : (escItems (bs.flatMap Blk.txt ++ post) 0 false).foldl (stripStep x) (0, none, []) = (escItems post ([] ++ bs.flatMap Blk.txt).length false).foldl (stripStep x) (((s' : Nat) : Int), none, ps') := h1
    rw [h1']
    obtain ⟨o, ho⟩ : ∃ o, (escItems post ([] ++ bs.flatMap Blk.txt).length false).foldl (stripStep x) (((s' : Nat) : Int), none, ps') = (((s' : Nat) : Int), o, ps') := by
      rcases hp with rfl | ⟨as, rfl, ha⟩
      · exact ⟨none, by rw [escItems_end]; rfl⟩
      · rw [esc_quote, List.foldl_cons]
        have e1 : stripStep x (((s' : Nat) : Int), none, ps') ((([] ++ bs.flatMap Blk.txt).length : Int), qt) = (((s' : Nat) : Int), some (([] ++ bs.flatMap Blk.txt).length : Int), ps') := by
          unfold stripStep
          have : (((([] ++ bs.flatMap Blk.txt).length : Int), qt).2 == qt) = true := beq_self_eq_true qt
          rw [this]; rfl
        have := fold_atoms x as ha [] ((([] ++ bs.flatMap Blk.txt).length : Int) + 1) (((s' : Nat) : Int), some (([] ++ bs.flatMap Blk.txt).length : Int), ps')
        rw [List.append_nil, escItems_end] at this
        rw [e1, this]
        exact ⟨_, rfl⟩
    rw [ho]
    have hle := h2.le
    rw [List.nil_append] at hle
    have hxl : x.cps.toList.length = x.length := by simp [Str.length]
    unfold stripEnd
    rw [join_list]
    have heq := h2.eq
    rw [List.nil_append, List.nil_append] at heq
    by_cases q : ((s' : Nat) : Int) < x.length
    · rw [if_pos q, List.flatMap_append, List.flatMap_cons, List.flatMap_nil, List.append_nil, slice_list_from x (by (first | exact Int.natCast_nonneg _ | exact Nat.le_refl _ | omega)), hx, List.drop_append_of_le_length hle, ← List.append_assoc, heq]
    · rw [if_neg q]
      have hl2 : x.cps.toList.length = (bs.flatMap Blk.txt).length + post.length := by rw [hx, List.length_append]
      have hp0 : post = [] := List.eq_nil_of_length_eq_zero (by (first | exact Int.natCast_nonneg _ | exact Nat.le_refl _ | omega))
      have hd : (bs.flatMap Blk.txt).drop s' = [] := List.drop_eq_nil_of_le (by (first | exact Int.natCast_nonneg _ | exact Nat.le_refl _ | omega))
      rw [hd, List.append_nil] at heq
      rw [hp0, List.append_nil]; exact heq
/-- a run of brackets: true opens, false closes -/
noncomputable def chk : List Bool → Nat → Bool
  | [], o => o == 0
  | true :: r, o => chk r (o + 1)
  | false :: _, 0 => false
  | false :: r, o + 1 => chk r o
noncomputable def stepOf (a : Atom) : List Bool := if a.1 then [] else if a.2 = 40 then [true] else if a.2 = 41 then [false] else []
noncomputable def stepsOf (as : List Atom) : List Bool := as.flatMap stepOf
theorem go_atoms : ∀ (as : List Atom), (∀ a ∈ as, plain92 a) → ∀ (i : Int) (o : Nat),
    (match checkGo (escItems (as.flatMap atxt) i false) (o : Int) with | none => false | some o => o == 0) = chk (stepsOf as) o
  | [], _, i, o => by
    show (match checkGo (escItems [] i false) (o : Int) with | none => false | some o => o == 0) = (o == 0)
    rw [escItems_end]
    show ((o : Int) == 0) = (o == 0)
    rw [Bool.eq_iff_iff, beq_iff_eq, beq_iff_eq]; (first | exact Int.natCast_nonneg _ | exact Nat.le_refl _ | omega)
  | a :: r, h, i, o => by
    have ih := go_atoms r fun b hb => h b (List.mem_cons_of_mem _ hb)
    rw [List.flatMap_cons, esc_atom (h a (.head _)), checkGo_step]
    have e1 : (aitem a == opn) = (!a.1 && a.2 == 40) := aitem_eq a 40
    have e2 : (aitem a == cls) = (!a.1 && a.2 == 41) := aitem_eq a 41
    dsimp only
    rw [e1, e2]
    show _ = chk (stepOf a ++ stepsOf r) o
    unfold stepOf
    cases ha : a.1 with
    | true => simpa using ih _ o
    | false =>
      by_cases h40 : a.2 = 40
      · have := ih (i + (atxt a).length) (o + 1)
        push_cast at this
        simpa [h40, chk] using this
      · by_cases h41 : a.2 = 41
        · cases o with
          | zero => simp [h41, chk]
          | succ o =>
            have := ih (i + (atxt a).length) o
            have e3 : (((o + 1 : Nat) : Int) - 1) = o := by push_cast; (first | exact Int.natCast_nonneg _ | exact Nat.le_refl _ | omega)
            have e4 : ¬ ((o : Int) < 0) := by (first | exact Int.natCast_nonneg _ | exact Nat.le_refl _ | omega)
            simp only [h41, e3, e4, chk, Bool.not_false, Bool.true_and, beq_self_eq_true, if_true, if_false, Bool.false_eq_true, show ((41 : Nat) == 40) = false from rfl, show ¬ ((41 : Nat) = 40) from by decide, List.cons_append, List.nil_append]
            exact this
        · simpa [h40, h41] using ih _ o
theorem check_blks {x : Str} {bs : List Blk} {as : List Atom} {l : Bool} (hx : x.cps.toList = bs.flatMap Blk.txt ++ (if l then 34 :: as.flatMap atxt else [])) (hok : ∀ b ∈ bs, b.ok) (ha : ∀ a ∈ as, aok a) :
    checkF x = chk (stepsOf (bs.flatMap Blk.keep) ++ if l then stepsOf as else []) 0 := by
  have hs := strip_blks hx hok (by cases l with
    | false => exact .inl rfl
    | true => exact .inr ⟨as, rfl, ha⟩)
  have hk : ∀ a ∈ bs.flatMap Blk.keep, plain92 a := fun a hm => by
    obtain ⟨b, hb, hm⟩ := List.mem_flatMap.mp hm
    cases b with
    | pl c => rw [List.mem_singleton.mp hm]; exact (hok _ hb).p
    | qu _ => exact nomatch hm
  have hs2 : (stripF x).cps.toList = (bs.flatMap Blk.keep ++ if l then (false, 34) :: as else []).flatMap atxt := by
    rw [hs, List.flatMap_append]
    congr 1
    cases l <;> rfl
  unfold checkF
  rw [hs2]
  have := go_atoms (bs.flatMap Blk.keep ++ if l then (false, 34) :: as else []) (fun a hm => by
    rcases List.mem_append.mp hm with hm | hm
    · exact hk a hm
    · cases l with
      | false => exact nomatch hm
      | true =>
        rcases List.mem_cons.mp hm with rfl | hm
        · exact .inr (by decide)
        · exact (ha a hm).p) 0 0
  refine this.trans ?_
  congr 1
  unfold stepsOf
  rw [List.flatMap_append]
  congr 1
  cases l <;> rfl
end Mine
end

section
open PySem PySem.W PyProof.Rows PySem.Calls
namespace Mine
noncomputable def dressB : Nat → List Blk
  | 1 => [.qu [(false, 41)]]
  | 2 => [.pl (true, 40)]
  | 3 => [.pl (true, 92)]
  | 4 => [.qu [(true, 34), (false, 41), (false, 40)]]
  | _ => []
theorem dress_txt : ∀ j, j < 5 → (dressOpts.getD j Str.empty).cps.toList = (dressB j).flatMap Blk.txt := by decide
theorem dress_steps : ∀ j, j < 5 → stepsOf ((dressB j).flatMap Blk.keep) = [] := by decide
theorem dress_ok (j : Nat) : ∀ b ∈ dressB j, b.ok := by
  unfold dressB
  split
  · intro b hb; rw [List.mem_singleton.mp hb]; intro a ha; rw [List.mem_singleton.mp ha]; exact .inr (by decide)
  · intro b hb; rw [List.mem_singleton.mp hb]; exact .inl rfl
  · intro b hb; rw [List.mem_singleton.mp hb]; exact .inl rfl
  · intro b hb; rw [List.mem_singleton.mp hb]; intro a ha
    simp only [List.mem_cons, List.not_mem_nil, or_false] at ha
    rcases ha with rfl | rfl | rfl
    · exact .inl rfl
    · exact .inr (by decide)
    · exact .inr (by decide)
  · intro b hb; exact nomatch hb
noncomputable def dIdx (ns : List Int) (k : Nat) : Nat := (ns.getD k 0 / 72 % 5).toNat
noncomputable def dB (ns : List Int) (x : Int) : List Blk := if x = 1 then dressB (dIdx ns 1) else if x = 3 then dressB (dIdx ns 3) else []
theorem dIdx_lt (ns : List Int) (k : Nat) : dIdx ns k < 5 := by unfold dIdx; (first | exact Nat.lt_of_lt_of_eq (by with_reducible assumption) (Eq.symm (by with_reducible assumption)) | omega)
theorem dB_txt (ns : List Int) {x : Int} (h0 : 0 ≤ x) (h1 : x < 5) : (signOf (dressesF ns) x).cps.toList = (dB ns x).flatMap Blk.txt := by
  have hx : x = 0 ∨ x = 1 ∨ x = 2 ∨ x = 3 ∨ x = 4 := five h0 h1
  rcases hx with rfl | rfl | rfl | rfl | rfl
  · rfl
  · exact dress_txt _ (dIdx_lt ns 1)
  · rfl
  · exact dress_txt _ (dIdx_lt ns 3)
  · rfl
theorem dB_steps (ns : List Int) (x : Int) : stepsOf ((dB ns x).flatMap Blk.keep) = [] := by
  unfold dB
  split
  · exact dress_steps _ (dIdx_lt ns 1)
  · split
    · exact dress_steps _ (dIdx_lt ns 3)
    · rfl
theorem dB_ok (ns : List Int) (x : Int) : ∀ b ∈ dB ns x, b.ok := by
  unfold dB
  split
  · exact dress_ok _
  · split
    · exact dress_ok _
    · intro b hb; exact nomatch hb
noncomputable abbrev clB : Blk := .pl (false, 41)
noncomputable abbrev opB : Blk := .pl (false, 40)
theorem rep_txt (n c : Nat) : (List.replicate n (Blk.pl (false, c))).flatMap Blk.txt = List.replicate n c := by
  induction n with
  | zero => rfl
  | succ n ih => rw [List.replicate_succ, List.flatMap_cons, ih]; rfl
theorem rep_steps (n c : Nat) : stepsOf ((List.replicate n (Blk.pl (false, c))).flatMap Blk.keep) = (List.replicate n (stepOf (false, c))).flatten := by
  induction n with
  | zero => rfl
  | succ n ih =>
    rw [List.replicate_succ, List.flatMap_cons, List.replicate_succ, List.flatten_cons, ← ih]
    rfl
theorem rep_ok (n : Nat) {c : Nat} (h : c ≠ 34 ∧ c ≠ 92) : ∀ b ∈ List.replicate n (Blk.pl (false, c)), b.ok := fun b hb => by
  rw [List.eq_of_mem_replicate hb]; exact .inr h
theorem steps_app (a b : List Atom) : stepsOf (a ++ b) = stepsOf a ++ stepsOf b := List.flatMap_append
theorem rep_flat (n : Nat) (b : Bool) : (List.replicate n [b]).flatten = List.replicate n b := by
  induction n with
  | zero => rfl
  | succ n ih => rw [List.replicate_succ, List.flatten_cons, ih]; rfl
noncomputable def pieceB (ns : List Int) (x : Int) (came rest : Nat) : List Blk := ((List.replicate came clB ++ [.pl (false, codeOf ns x)]) ++ dB ns x) ++ List.replicate rest opB
theorem pieceB_steps {ns : List Int} (hns : Nums ns) {x : Int} (h0 : 0 ≤ x) (h1 : x < 5) (came rest : Nat) : stepsOf ((pieceB ns x came rest).flatMap Blk.keep) = List.replicate came false ++ List.replicate rest true := by
  have hc := (code_bnd hns h0 h1).1
  unfold pieceB
  rw [List.flatMap_append, List.flatMap_append, List.flatMap_append, steps_app, steps_app, steps_app, dB_steps, rep_steps, rep_steps]
  have e1 : stepOf (false, 41) = [false] := rfl
  have e2 : stepOf (false, 40) = [true] := rfl
  have e3 : stepsOf ([Blk.pl (false, codeOf ns x)].flatMap Blk.keep) = [] := by
    show stepOf (false, codeOf ns x) ++ [] = []
    unfold stepOf
    rw [if_neg (fun h : false = true => nomatch h), if_neg (by show ¬ codeOf ns x = 40; (first | exact Nat.lt_of_lt_of_eq (by with_reducible assumption) (Eq.symm (by with_reducible assumption)) | omega)), if_neg (by show ¬ codeOf ns x = 41; (first | exact Nat.lt_of_lt_of_eq (by with_reducible assumption) (Eq.symm (by with_reducible assumption)) | omega))]; rfl
  rw [e1, e2, e3, rep_flat, rep_flat]; simp
theorem pieceB_ok {ns : List Int} (hns : Nums ns) {x : Int} (h0 : 0 ≤ x) (h1 : x < 5) (came rest : Nat) : ∀ b ∈ pieceB ns x came rest, b.ok := fun b hb => by
  have hc := (code_bnd hns h0 h1).1
  unfold pieceB at hb
  rcases List.mem_append.mp hb with hb | hb
  · rcases List.mem_append.mp hb with hb | hb
    · rcases List.mem_append.mp hb with hb | hb
      · exact rep_ok _ (by decide) b hb
      · rw [List.mem_singleton.mp hb]; exact .inr ⟨by show codeOf ns x ≠ 34; (first | exact Nat.lt_of_lt_of_eq (by with_reducible assumption) (Eq.symm (by with_reducible assumption)) | omega), by show codeOf ns x ≠ 92; (first | exact Nat.lt_of_lt_of_eq (by with_reducible assumption) (Eq.symm (by with_reducible assumption)) | omega)⟩
    · exact dB_ok ns x b hb
  · exact rep_ok _ (by decide) b hb
theorem pieceOf_txt {ns : List Int} {x : Int} (h0 : 0 ≤ x) (h1 : x < 5) (mates : List (List Int)) (came : Nat) :
    (pieceOf mates (signsF ns) (dressesF ns) x came).cps.toList = (pieceB ns x came ((rowOf mates x).length - came)).flatMap Blk.txt := by
  unfold pieceOf pieceB
  rw [Str.cps_append, Str.cps_append, Str.cps_append, Array.toList_append, Array.toList_append, Array.toList_append, dB_txt ns h0 h1, signOf_code ns h0 h1, List.flatMap_append, List.flatMap_append, List.flatMap_append, rep_txt, rep_txt]
  have e1 := mul_one_list 41 (came : Int)
  have e2 := mul_one_list 40 (((rowOf mates x).length : Int) - came)
  rw [show (Txt.mul cls (came : Int)) = Txt.mul ⟨#[41]⟩ (came : Int) from rfl, show Txt.mul opn (((rowOf mates x).length : Int) - came) = Txt.mul ⟨#[40]⟩ (((rowOf mates x).length : Int) - came) from rfl, e1, e2, Int.toNat_natCast, show (((rowOf mates x).length : Int) - came).toNat = (rowOf mates x).length - came from Int.toNat_sub _ _]
  rfl
noncomputable def cameAt (mates : List (List Int)) (ring : List Int) (p : Nat) : Nat := (nearIn mates (ring.getD p 0) (ring.take p)).length
noncomputable def pieceSt (mates : List (List Int)) (ring : List Int) (p : Nat) : List Bool := List.replicate (cameAt mates ring p) false ++ List.replicate ((rowOf mates (ring.getD p 0)).length - cameAt mates ring p) true
noncomputable def pieceBl (ns : List Int) (mates : List (List Int)) (ring : List Int) (p : Nat) : List Blk := pieceB ns (ring.getD p 0) (cameAt mates ring p) ((rowOf mates (ring.getD p 0)).length - cameAt mates ring p)
section
variable {ns ring : List Int} {mates : List (List Int)} (hns : Nums ns) (hl : ring.length = 5) (hin : ∀ x ∈ ring, 0 ≤ x ∧ x < 5)
include hl hin in
theorem at_in {p : Nat} (hp : p < 5) : 0 ≤ ring.getD p 0 ∧ ring.getD p 0 < 5 := hin _ (getD_mem (by (first | exact Nat.lt_of_lt_of_eq (by with_reducible assumption) (Eq.symm (by with_reducible assumption)) | omega)))
include hl hin in
theorem pieceF_txt {p : Nat} (hp : p < 5) : (pieceF ring mates (signsF ns) (dressesF ns) p).cps.toList = (pieceBl ns mates ring p).flatMap Blk.txt :=
  pieceOf_txt (at_in hl hin hp).1 (at_in hl hin hp).2 mates _
include hl hin in
theorem pieces_txt {ps : List Nat} (hp : ∀ p ∈ ps, p < 5) : (ps.map (pieceF ring mates (signsF ns) (dressesF ns))).flatMap (fun x => x.cps.toList) = (ps.flatMap (pieceBl ns mates ring)).flatMap Blk.txt := by
  induction ps with
  | nil => rfl
  | cons p r ih =>
    rw [List.map_cons, List.flatMap_cons, List.flatMap_cons, List.flatMap_append, ih fun q hq => hp q (List.mem_cons_of_mem _ hq), pieceF_txt hl hin (hp p (.head _))]
include hns hl hin in
theorem pieces_steps {ps : List Nat} (hp : ∀ p ∈ ps, p < 5) : stepsOf ((ps.flatMap (pieceBl ns mates ring)).flatMap Blk.keep) = ps.flatMap (pieceSt mates ring) := by
  induction ps with
  | nil => rfl
  | cons p r ih =>
    have h := at_in hl hin (hp p (.head _))
    rw [List.flatMap_cons, List.flatMap_cons, List.flatMap_append, steps_app, ih fun q hq => hp q (List.mem_cons_of_mem _ hq)]
    congr 1
    exact pieceB_steps hns h.1 h.2 _ _
include hns hl hin in
theorem pieces_ok {ps : List Nat} (hp : ∀ p ∈ ps, p < 5) : ∀ b ∈ ps.flatMap (pieceBl ns mates ring), b.ok := fun b hb => by
  obtain ⟨p, hpm, hb⟩ := List.mem_flatMap.mp hb
  have h := at_in hl hin (hp p hpm)
  exact pieceB_ok hns h.1 h.2 _ _ b hb
theorem between_map {α β : Type} (f : α → β) (l : List α) (i j : Nat) : between (l.map f) i j = (between l i j).map f := by
  unfold between; rw [List.map_take, List.map_drop]
theorem between_lt (i j : Nat) : ∀ p ∈ between (List.range 5) i j, p < 5 := fun p hp => List.mem_range.mp (List.mem_of_mem_drop (List.mem_of_mem_take hp))
noncomputable def withinSt (mates : List (List Int)) (ring : List Int) (i j : Nat) : List Bool :=
  (List.replicate (nearIn mates (ring.getD i 0) (between ring i j)).length true ++ (between (List.range 5) i j).flatMap (pieceSt mates ring)) ++ List.replicate (nearIn mates (ring.getD j 0) (between ring i j)).length false
noncomputable def closeC (mates : List (List Int)) (ring : List Int) (i j : Nat) : Bool := if (rowOf mates (ring.getD j 0)).any (· == ring.getD i 0) then chk (withinSt mates ring i j) 0 else true
noncomputable def closesC (mates : List (List Int)) (ring : List Int) : Bool := (List.range 4).all fun a => (List.range (a + 1)).all fun i => closeC mates ring i (a + 1)
include hns hl hin in
theorem within_eq (i j : Nat) : checkF (withinF ring mates (piecesF ring mates (signsF ns) (dressesF ns)) i j) = chk (withinSt mates ring i j) 0 := by
  have hx : (withinF ring mates (piecesF ring mates (signsF ns) (dressesF ns)) i j).cps.toList = ((List.replicate (nearIn mates (ring.getD i 0) (between ring i j)).length opB ++ (between (List.range 5) i j).flatMap (pieceBl ns mates ring)) ++ List.replicate (nearIn mates (ring.getD j 0) (between ring i j)).length clB).flatMap Blk.txt ++ (if false then 34 :: ([] : List Atom).flatMap atxt else []) := by
    unfold withinF piecesF
    rw [Str.cps_append, Str.cps_append, Array.toList_append, Array.toList_append, join_list, between_map, pieces_txt hl hin (between_lt i j), List.flatMap_append, List.flatMap_append, rep_txt, rep_txt]
    have e1 := mul_one_list 40 ((nearIn mates (ring.getD i 0) (between ring i j)).length : Int)
    have e2 := mul_one_list 41 ((nearIn mates (ring.getD j 0) (between ring i j)).length : Int)
    rw [Int.toNat_natCast] at e1 e2
    rw [← e1, ← e2]
    simp [opn, cls]
    rfl
  rw [check_blks hx (fun b hb => ?_) (fun a ha => nomatch ha)]
  · rw [List.flatMap_append, List.flatMap_append, steps_app, steps_app, rep_steps, rep_steps, pieces_steps hns hl hin (between_lt i j)]
    have e1 : stepOf (false, 41) = [false] := rfl
    have e2 : stepOf (false, 40) = [true] := rfl
    rw [e1, e2, rep_flat, rep_flat]
    simp [withinSt]
  · rcases List.mem_append.mp hb with hb | hb
    · rcases List.mem_append.mp hb with hb | hb
      · exact rep_ok _ (by decide) b hb
      · exact pieces_ok hns hl hin (between_lt i j) b hb
    · exact rep_ok _ (by decide) b hb
include hns hl hin in
theorem closes_eq : closesF ring mates (piecesF ring mates (signsF ns) (dressesF ns)) = closesC mates ring := by
  unfold closesF closesC closeAt closeC
  simp only [within_eq hns hl hin]
noncomputable def wholeSt (mates : List (List Int)) (ring : List Int) : List Bool := (List.range 5).flatMap (pieceSt mates ring)
theorem range_lt : ∀ p ∈ List.range 5, p < 5 := fun p hp => List.mem_range.mp hp
include hl hin in
theorem whole_txt : (wholeF ns ring).cps.toList = ((List.range 5).flatMap (pieceBl ns (matesAt ns 4) ring)).flatMap Blk.txt := by
  unfold wholeF piecesF
  rw [join_list, pieces_txt hl hin range_lt]
include hns hl hin in
theorem whole_facts (h : chk (wholeSt (matesAt ns 4) ring) 0 = true) (h' : chk (wholeSt (matesAt ns 4) ring ++ [true]) 0 = false) :
    checkF (wholeF ns ring) = true ∧ checkF ((Str.ofString "\"(\"" ++ wholeF ns ring) ++ Str.ofString "\"") = true ∧ checkF (wholeF ns ring ++ Str.ofString "\"(") = false ∧ checkF ((Str.ofString ")" ++ wholeF ns ring) ++ Str.ofString "(") = false := by
  have hw := whole_txt (ns := ns) hl hin
  have hs := pieces_steps (mates := matesAt ns 4) hns hl hin range_lt
  have ho := pieces_ok (mates := matesAt ns 4) hns hl hin range_lt
  generalize (List.range 5).flatMap (pieceBl ns (matesAt ns 4) ring) = B at hw hs ho
  unfold wholeSt at h h'
  refine ⟨?_, ?_, ?_, ?_⟩
  · rw [check_blks (bs := B) (as := []) (l := false) (by rw [hw]; simp) ho (fun a ha => nomatch ha), hs]
    simpa using h
  · rw [check_blks (bs := .qu [(false, 40)] :: B) (as := []) (l := true) ?_ (fun b hb => ?_) (fun a ha => nomatch ha)]
    · rw [List.flatMap_cons]
      show chk (stepsOf ([] ++ B.flatMap Blk.keep) ++ []) 0 = true
      rw [List.nil_append, List.append_nil, hs]; exact h
    · rw [Str.cps_append, Str.cps_append, Array.toList_append, Array.toList_append, hw, List.flatMap_cons]; rfl
    · rcases List.mem_cons.mp hb with rfl | hb
      · intro a ha; rw [List.mem_singleton.mp ha]; exact .inr (by decide)
      · exact ho b hb
  · rw [check_blks (bs := B) (as := [(false, 40)]) (l := true) (by rw [Str.cps_append, Array.toList_append, hw]; rfl) ho (fun a ha => by rw [List.mem_singleton.mp ha]; exact .inr (by decide)), hs]
    exact h'
  · rw [check_blks (bs := (clB :: B) ++ [opB]) (as := []) (l := false) ?_ (fun b hb => ?_) (fun a ha => nomatch ha)]
    · rw [List.cons_append, List.flatMap_cons]
      rfl
    · rw [Str.cps_append, Str.cps_append, Array.toList_append, Array.toList_append, hw, List.flatMap_append, List.flatMap_cons]; simp [Blk.txt, atxt]; rfl
    · rcases List.mem_append.mp hb with hb | hb
      · rcases List.mem_cons.mp hb with rfl | hb
        · exact .inr (by decide)
        · exact ho b hb
      · rw [List.mem_singleton.mp hb]; exact .inr (by decide)
end
end Mine
end

section
open PySem PySem.W PyProof.Rows PySem.Calls
namespace Mine
/-- the finite data: each thing's earlier end -/
noncomputable def matesP (pr : Nat → Int) : Nat → List (List Int)
  | 0 => List.replicate 5 []
  | i + 1 => addTo (addTo (matesP pr i) (i + 1) (pr (i + 1))) (pr (i + 1)).toNat ((i + 1 : Nat) : Int)
noncomputable def rowStepP (pr : Nat → Int) (xs : List Int) (k : Int) : List Int := (xs.set k.toNat (xs.getD (pr k.toNat).toNat 0)).set (pr k.toNat).toNat (xs.getD k.toNat 0)
noncomputable def rowP (pr : Nat → Int) (order : List Int) : Nat → List Int
  | 0 => [0, 1, 2, 3, 4]
  | i + 1 => rowStepP pr (rowP pr order i) (order.getD i 0)
noncomputable def madeP (pr : Nat → Int) (order : List Int) : List Int := 0 :: mdTl (rowP pr order 4) 4
noncomputable def laterC (order : List Int) (x y z : Int) : Bool := (y != z) && decide (idx order (max x z) < idx order (max x y))
noncomputable def condC (mates : List (List Int)) (order ring : List Int) : Bool :=
  [0, 1, 2, 3, 4].all fun x => (rowOf mates x).all fun y => (rowOf mates x).all fun z => !laterC order x y z || fitC (idx ring x) (idx ring y) (idx ring z)
noncomputable def prOf (a b c : Nat) (k : Nat) : Int := if k = 2 then a else if k = 3 then b else if k = 4 then c else 0
noncomputable def perms : List (List Int) := ([1, 2, 3, 4] : List Int).flatMap fun a => ([1, 2, 3, 4] : List Int).flatMap fun b => ([1, 2, 3, 4] : List Int).flatMap fun c => ([1, 2, 3, 4] : List Int).flatMap fun d =>
  if a != b && a != c && a != d && b != c && b != d && c != d then [[a, b, c, d]] else []
noncomputable def finD (pr : Nat → Int) (order : List Int) : Bool :=
  ((ringsAt 4).filter (fun r => condC (matesP pr 4) order r && closesC (matesP pr 4) r) == [madeP pr order]) && chk (wholeSt (matesP pr 4) (madeP pr order)) 0 && !chk (wholeSt (matesP pr 4) (madeP pr order) ++ [true]) 0
theorem fin000 : perms.all (finD (prOf 0 0 0)) = true := by decide +kernel
theorem fin001 : perms.all (finD (prOf 0 0 1)) = true := by decide +kernel
theorem fin002 : perms.all (finD (prOf 0 0 2)) = true := by decide +kernel
theorem fin003 : perms.all (finD (prOf 0 0 3)) = true := by decide +kernel
theorem fin010 : perms.all (finD (prOf 0 1 0)) = true := by decide +kernel
theorem fin011 : perms.all (finD (prOf 0 1 1)) = true := by decide +kernel
theorem fin012 : perms.all (finD (prOf 0 1 2)) = true := by decide +kernel
theorem fin013 : perms.all (finD (prOf 0 1 3)) = true := by decide +kernel
theorem fin020 : perms.all (finD (prOf 0 2 0)) = true := by decide +kernel
theorem fin021 : perms.all (finD (prOf 0 2 1)) = true := by decide +kernel
theorem fin022 : perms.all (finD (prOf 0 2 2)) = true := by decide +kernel
theorem fin023 : perms.all (finD (prOf 0 2 3)) = true := by decide +kernel
theorem fin100 : perms.all (finD (prOf 1 0 0)) = true := by decide +kernel
theorem fin101 : perms.all (finD (prOf 1 0 1)) = true := by decide +kernel
theorem fin102 : perms.all (finD (prOf 1 0 2)) = true := by decide +kernel
theorem fin103 : perms.all (finD (prOf 1 0 3)) = true := by decide +kernel
theorem fin110 : perms.all (finD (prOf 1 1 0)) = true := by decide +kernel
theorem fin111 : perms.all (finD (prOf 1 1 1)) = true := by decide +kernel
theorem fin112 : perms.all (finD (prOf 1 1 2)) = true := by decide +kernel
theorem fin113 : perms.all (finD (prOf 1 1 3)) = true := by decide +kernel
theorem fin120 : perms.all (finD (prOf 1 2 0)) = true := by decide +kernel
theorem fin121 : perms.all (finD (prOf 1 2 1)) = true := by decide +kernel
theorem fin122 : perms.all (finD (prOf 1 2 2)) = true := by decide +kernel
theorem fin123 : perms.all (finD (prOf 1 2 3)) = true := by decide +kernel
theorem fin_all (a b c : Nat) (ha : a < 2) (hb : b < 3) (hc : c < 4) : perms.all (finD (prOf a b c)) = true := by
  have h1 : a = 0 ∨ a = 1 := by omega
  have h2 : b = 0 ∨ b = 1 ∨ b = 2 := by omega
  have h3 : c = 0 ∨ c = 1 ∨ c = 2 ∨ c = 3 := by omega
  rcases h1 with rfl | rfl <;> rcases h2 with rfl | rfl | rfl <;> rcases h3 with rfl | rfl | rfl | rfl
  · exact fin000
  · exact fin001
  · exact fin002
  · exact fin003
  · exact fin010
  · exact fin011
  · exact fin012
  · exact fin013
  · exact fin020
  · exact fin021
  · exact fin022
  · exact fin023
  · exact fin100
  · exact fin101
  · exact fin102
  · exact fin103
  · exact fin110
  · exact fin111
  · exact fin112
  · exact fin113
  · exact fin120
  · exact fin121
  · exact fin122
  · exact fin123
theorem no_self : ∀ a, a < 2 → ∀ b, b < 3 → ∀ c, c < 4 → ∀ x ∈ ([0, 1, 2, 3, 4] : List Int), ∀ y ∈ rowOf (matesP (prOf a b c) 4) x, y ≠ x := by decide +kernel
theorem perm_in {order : List Int} (h : order.Perm [1, 2, 3, 4]) : order ∈ perms := by
  have hl := h.length_eq
  have hn : order.Nodup := h.nodup_iff.mpr (by decide)
  match order, hl with
  | [a, b, c, d], _ =>
    have m : ∀ x ∈ ([a, b, c, d] : List Int), x ∈ ([1, 2, 3, 4] : List Int) := fun x hx => h.mem_iff.mp hx
    unfold perms
    refine List.mem_flatMap.mpr ⟨a, m a (by simp), List.mem_flatMap.mpr ⟨b, m b (by simp), List.mem_flatMap.mpr ⟨c, m c (by simp), List.mem_flatMap.mpr ⟨d, m d (by simp), ?_⟩⟩⟩⟩
    simp only [List.nodup_cons, List.mem_cons, List.not_mem_nil, or_false, not_or, List.nodup_nil, and_true, not_false_eq_true] at hn
    obtain ⟨⟨h1, h2, h3⟩, ⟨h4, h5⟩, h6⟩ := hn
    rw [if_pos (by simp [h1, h2, h3, h4, h5, h6])]
    exact .head _
end Mine
end

section
open PySem PySem.W PyProof.Rows PySem.Calls
namespace Mine
theorem matesAt_eq {ns : List Int} {pr : Nat → Int} (h : ∀ k, 1 ≤ k → k ≤ 4 → par ns k = pr k) : ∀ i, i ≤ 4 → matesAt ns i = matesP pr i
  | 0, _ => rfl
  | i + 1, hi => by rw [matesAt, matesP, matesAt_eq h i (by (first | exact Nat.succ_pos _ | exact Nat.le_trans (by with_reducible assumption) (by decide) | omega)), h (i + 1) (by (first | exact Nat.succ_pos _ | exact Nat.le_trans (by with_reducible assumption) (by decide) | omega)) hi]
theorem rowAt_eq {ns order : List Int} {pr : Nat → Int} (h : ∀ k, 1 ≤ k → k ≤ 4 → par ns k = pr k) (ho : ∀ i, i < 4 → 1 ≤ order.getD i 0 ∧ order.getD i 0 < 5) : ∀ i, i ≤ 4 → rowAt ns order i = rowP pr order i
  | 0, _ => rfl
  | i + 1, hi => by
    obtain ⟨h0, h1⟩ := ho i (by (first | exact Nat.succ_pos _ | exact Nat.le_trans (by with_reducible assumption) (by decide) | omega))
    rw [rowAt, rowP, rowAt_eq h ho i (by (first | exact Nat.succ_pos _ | exact Nat.le_trans (by with_reducible assumption) (by decide) | omega))]
    unfold rowStep rowStepP
    rw [h (order.getD i 0).toNat (by (first | exact Nat.succ_pos _ | exact Nat.le_trans (by with_reducible assumption) (by decide) | omega)) (by (first | exact Nat.succ_pos _ | exact Nat.le_trans (by with_reducible assumption) (by decide) | omega))]
theorem foldl_filter {α β : Type} (q : β → α → Bool) : ∀ (zs : List β) (R : List α), zs.foldl (fun R z => R.filter (q z)) R = R.filter fun r => zs.all fun z => q z r
  | [], R => (List.filter_eq_self.mpr fun _ _ => rfl).symm
  | z :: zs, R => by
    rw [List.foldl_cons, foldl_filter q zs, List.filter_filter]
    refine List.filter_congr fun r _ => ?_
    rw [List.all_cons, Bool.and_comm]
theorem sieve1_filter (names signs : List Str) (x y z : Int) (R : List (List Int)) : sieve1 names signs x y R z = R.filter fun r => !later names x y z || fits signs x y z r := by
  unfold sieve1
  cases later names x y z with
  | true => simp
  | false => exact (List.filter_eq_self.mpr fun _ _ => rfl).symm
theorem sieveX_filter (names signs : List Str) (mates : List (List Int)) (xs : List Int) (R : List (List Int)) :
    sieveX names signs mates xs R = R.filter fun r => xs.all fun x => (rowOf mates x).all fun y => (rowOf mates x).all fun z => !later names x y z || fits signs x y z r := by
  have h1 : ∀ x y, (fun R => sieveZ names signs x y (rowOf mates x) R) = fun R : List (List Int) => R.filter fun r => (rowOf mates x).all fun z => !later names x y z || fits signs x y z r := fun x y => by
    funext R
    unfold sieveZ
    rw [← foldl_filter (fun z r => !later names x y z || fits signs x y z r)]
    congr 1
    funext R z
    exact sieve1_filter names signs x y z R
  have h2 : ∀ x, (fun R => sieveY names signs mates x (rowOf mates x) R) = fun R : List (List Int) => R.filter fun r => (rowOf mates x).all fun y => (rowOf mates x).all fun z => !later names x y z || fits signs x y z r := fun x => by
    funext R
    unfold sieveY
    rw [← foldl_filter (fun y r => (rowOf mates x).all fun z => !later names x y z || fits signs x y z r)]
    congr 1
    funext R y
    exact congrFun (h1 x y) R
  unfold sieveX
  rw [← foldl_filter (fun x r => (rowOf mates x).all fun y => (rowOf mates x).all fun z => !later names x y z || fits signs x y z r)]
  congr 1
  funext R x
  exact congrFun (h2 x) R
theorem max_bnd {x y : Int} (hx : 0 ≤ x ∧ x < 5) (hy : 0 ≤ y ∧ y < 5) (h : y ≠ x) : 1 ≤ max x y ∧ max x y < 5 := by (first | exact Nat.succ_pos _ | exact Nat.le_trans (by with_reducible assumption) (by decide) | omega)
theorem par_nat {ns : List Int} (hns : Nums ns) {k : Nat} (hk : 0 < k) : ∃ a : Nat, a < k ∧ par ns k = a := by
  obtain ⟨h0, h1⟩ := par_bnd hns hk
  exact ⟨(par ns k).toNat, (Int.toNat_lt h0).mpr h1, (Int.toNat_of_nonneg h0).symm⟩
theorem four1 {u : Int} (h0 : 1 ≤ u) (h1 : u < 5) : u = 1 ∨ u = 2 ∨ u = 3 ∨ u = 4 := by (first | exact Nat.succ_pos _ | exact Nat.le_trans (by with_reducible assumption) (by decide) | omega)
theorem later_eq {ns order : List Int} (hns : Nums ns) (O : Ordered ns order) {x y z : Int} (hx : 0 ≤ x ∧ x < 5) (hy : 0 ≤ y ∧ y < 5) (hz : 0 ≤ z ∧ z < 5) (hxy : y ≠ x) (hxz : z ≠ x) : later (namesAt ns 4) x y z = laterC order x y z := by
  unfold later laterC
  congr 1
  have hol : order.length = 4 := O.perm.length_eq
  have mem : ∀ u : Int, 1 ≤ u → u < 5 → u ∈ order := fun u h0 h1 => O.perm.mem_iff.mpr (by
    have : u = 1 ∨ u = 2 ∨ u = 3 ∨ u = 4 := four1 h0 h1
    rcases this with rfl | rfl | rfl | rfl <;> decide)
  have at' : ∀ u : Int, 1 ≤ u → u < 5 → order.getD (idx order u) 0 = u ∧ idx order u < 4 := fun u h0 h1 => by
    have h := idx_at (mem u h0 h1)
    refine ⟨by rw [List.getD_eq_getElem?_getD, h]; rfl, ?_⟩
    have := (List.getElem?_eq_some_iff.mp h).1
    rw [hol] at this; exact this
  obtain ⟨e1, l1⟩ := at' (max x y) (max_bnd hx hy hxy).1 (max_bnd hx hy hxy).2
  obtain ⟨e2, l2⟩ := at' (max x z) (max_bnd hx hz hxz).1 (max_bnd hx hz hxz).2
  have h := said_ok hns O l1 l2
  rw [e1, e2] at h
  have h' : strc (signOf (namesAt ns 4) (max x y)) (signOf (namesAt ns 4) (max x z)) = if ((idx order (max x y) : Nat) : Int) > (idx order (max x z) : Nat) then 1 else if ((idx order (max x y) : Nat) : Int) < (idx order (max x z) : Nat) then -1 else 0 := h
  rw [h']
  by_cases q : idx order (max x z) < idx order (max x y)
  · rw [if_pos (Int.ofNat_lt.mpr q), decide_eq_true q]; rfl
  · rw [if_neg (fun h => q (Int.ofNat_lt.mp h)), decide_eq_false q]
    split <;> rfl
theorem all_mem {α : Type} {p q : α → Bool} : ∀ {l : List α}, (∀ x ∈ l, p x = q x) → l.all p = l.all q
  | [], _ => rfl
  | x :: r, h => by rw [List.all_cons, List.all_cons, h x (.head _), all_mem fun y hy => h y (List.mem_cons_of_mem _ hy)]
theorem filter_last {α : Type} {l : List α} {p : α → Bool} {a : α} (h : l.filter p = [a]) : a ∈ l ∧ p a = true := by
  have : a ∈ l.filter p := by rw [h]; exact .head _
  exact List.mem_filter.mp this
theorem law_core {ns order : List Int} {pr : Nat → Int} (hns : Nums ns) (O : Ordered ns order) (hpr : ∀ k, 1 ≤ k → k ≤ 4 → par ns k = pr k) (hf : finD pr order = true)
    (hself : ∀ x ∈ ([0, 1, 2, 3, 4] : List Int), ∀ y ∈ rowOf (matesP pr 4) x, y ≠ x) : LawFacts ns (madeOf ns order) := by
  have hol : order.length = 4 := O.perm.length_eq
  have ho : ∀ i, i < 4 → 1 ≤ order.getD i 0 ∧ order.getD i 0 < 5 := fun i hi => by
    exact mem4 _ (O.perm.mem_iff.mp (getD_mem (d := 0) (hol ▸ hi : i < order.length)))
  have hm := matesAt_eq hpr 4 (Nat.le_refl _)
  have hmd : madeOf ns order = madeP pr order := by unfold madeOf madeP; rw [rowAt_eq hpr ho 4 (Nat.le_refl _)]
  unfold finD at hf
  rw [← hm, ← hmd] at hf
  rw [← hm] at hself
  simp only [Bool.and_eq_true, Bool.not_eq_true', beq_iff_eq] at hf
  obtain ⟨⟨f1, f2⟩, f3⟩ := hf
  have hmem : madeOf ns order ∈ ringsAt 4 := (filter_last f1).1
  obtain ⟨hl, hin⟩ := ringsAt_mem 4 _ hmem
  obtain ⟨c1, c2, c3, c4⟩ := whole_facts hns hl hin f2 f3
  obtain ⟨i1, i2, hfc⟩ := fin_facts hns hmem
  unfold finC at hfc
  simp only [Bool.and_eq_true, Bool.not_eq_true', List.all_eq_true] at hfc
  obtain ⟨⟨g1, g2⟩, g3⟩ := hfc
  refine ⟨?_, c1, c2, c3, c4, i1, i2, g1, g2, g3⟩
  rw [sieveX_filter, List.filter_filter, ← f1]
  refine List.filter_congr fun r hr => ?_
  obtain ⟨hrl, hrin⟩ := ringsAt_mem 4 r hr
  have h2 : closeOk ns r = closesC (matesAt ns 4) r := closes_eq hns hrl hrin
  rw [h2, Bool.and_comm]
  refine congrArg (fun b => b && closesC (matesAt ns 4) r) ?_
  · unfold condC
    refine all_mem fun x hx => ?_
    have hx5 : 0 ≤ x ∧ x < 5 := mem5 x hx
    refine all_mem fun y hy => ?_
    have hy5 := rowOf_in hns x y hy
    refine all_mem fun z hz => ?_
    have hz5 := rowOf_in hns x z hz
    rw [later_eq hns O hx5 hy5 hz5 (hself x hx y hy) (hself x hx z hz), fits_eq hns hr hx5 hy5 hz5]
theorem law_facts (ns order : List Int) (hns : Nums ns) (O : Ordered ns order) : LawFacts ns (madeOf ns order) := by
  obtain ⟨a, ha, ea⟩ := par_nat hns (k := 2) (by decide)
  obtain ⟨b, hb, eb⟩ := par_nat hns (k := 3) (by decide)
  obtain ⟨c, hc, ec⟩ := par_nat hns (k := 4) (by decide)
  obtain ⟨d, hd, ed⟩ := par_nat hns (k := 1) (by decide)
  have hd0 : d = 0 := Nat.lt_one_iff.mp hd
  refine law_core (pr := prOf a b c) hns O (fun k h1 h4 => ?_) (List.all_eq_true.mp (fin_all _ _ _ ha hb hc) order (perm_in O.perm)) (no_self _ ha _ hb _ hc)
  match k, h1, h4 with
  | 1, _, _ => rw [ed, hd0]; rfl
  | 2, _, _ => exact ea
  | 3, _, _ => exact eb
  | 4, _, _ => exact ec
end Mine
end

section
open PySem PySem.W PyProof.Rows
set_option maxHeartbeats 40000000
namespace Mine
theorem kn_postG {M : Model} {A : Around} {cd : Code} {s s₁ : Shared} {cw : ClaimW} {cl : Str → Option Addr} {mean : ExcName → Option Value} {args : List WData} {tabs : List (Addr × Addr)} (hT : TabsAt tabs s₁.heap) (hg : s₁.gens = #[])
    (hpost : cw.post args (WData.bool true) args = true) (hr : ∀ cls, cw.raises args cls = false)
    (h : codeAny M A cd (fun r s' => r = .ok (.ret (.bool true)) ∧ (∀ b o, b ∉ tabs.map (·.2) → s₁.heap.get? b = some o → s'.heap.get? b = some o) ∧ GrownAll tabs s'.heap ∧ s'.os = s₁.os ∧ AllBare s'.gens) s) : codeAny M A cd (GoodWG cw cl mean args s₁) s :=
  codeAny_mono h fun r s' zq0 => by
    obtain ⟨e, hk, hgr, hos, hgs⟩ := zq0
    have grown : ∀ b o, b ∈ tabs.map (·.2) → s₁.heap.get? b = some o → isCodeTable s₁.heap b ∧ o = tabObj #[] ∧ ∃ ps, s'.heap.get? b = some (tabObj ps) := fun b o hb e => by
      obtain ⟨q, hq, rfl⟩ := List.mem_map.mp hb
      have e2 := (hT q hq).2
      rw [e] at e2
      exact ⟨((hT q hq).1.tab (hT q hq).2).isCodeTable, Option.some.inj e2, hgr.get q hq⟩
    refine ⟨.inl ⟨.bool true, WData.bool true, [], e, hr, .bool true, hpost, fun _ => ⟨List.nodup_nil, fun a ha => nomatch ha⟩⟩, ⟨fun b o e => ?_, fun b o e => ?_⟩, hos, hgs⟩
    · by_cases hb : b ∈ tabs.map (·.2)
      · obtain ⟨ht, rfl, ps, hP⟩ := grown b o hb e
        exact .inr (.inl ⟨ht, rfl, #[], ps, rfl, by rw [Array.empty_append]; exact hP⟩)
      · exact .inl (hk b o hb e)
    · by_cases hb : b ∈ tabs.map (·.2)
      · obtain ⟨_, _, ps, hP⟩ := grown b o hb e
        exact ⟨_, hP⟩
      · exact ⟨o, hk b o hb e⟩
theorem wp_enterC {prog : Program} {w : World} {A : Around} {R : Result → Shared → Prop} {s : Shared} {a : Addr} {o : Obj} {fd : FuncData} {body : List Stmt} {vals : List Value} {binds : Mp}
    (hroom : A.depth < recursionLimit) (ho : s.heap.get? a = some o) (hdata : o.data = .func fd) (hlim : s.heap.NoLimit) (hcd : s.heap.CodeRec fd.code fd.qualname)
    (hbody : fd.body = .stmts body) (hbind : bindArgs fd ⟨vals, []⟩ = pure binds) (hclo : fd.closure = [])
    (hkind : (binds.all fun y => fd.scope.names.lookup y.1 == some .local || fd.scope.names.lookup y.1 == some .cell) = true)
    (hnd' : decide ((cellsFrom 0 fd.scope.names []).map (·.1)).Nodup = true) (hco : fd.scope.isCoroutine = false) (hgen : fd.scope.isGenerator = false) (hk : fd.scope.kind = .function)
    (h : ∀ s₁, Fm s (callEnvC fd s.heap.objs.size a) binds.reverse s₁ → s₁.gens = s.gens → (∀ b ∈ fAd (callEnvC fd s.heap.objs.size a), s.heap.objs.size ≤ b) →
      wpAny (model prog w) (A.deeper (callEnvC fd s.heap.objs.size a)) (execs body (callEnvC fd s.heap.objs.size a)) (fun f s' => R (.ok (.ret (retOf f))) s') (fun _ _ => False) s₁) :
    codeAny (model prog w) A (.call (.ref a) ⟨vals, []⟩) R s := by
  have hnd := of_decide_eq_true hnd'
  refine call_cells hroom ho hdata hlim hcd hbody hbind hclo (fun x hx => kindsX hkind _ x hx) (fun s₁ X htk => ?_) hco hgen hk
  obtain ⟨h₁, tk₁, rfl, hk₁⟩ := X.done
  refine wpAny_mono (h { s with heap := h₁, toks := tk₁ } ⟨Le.of_heap hk₁ htk, ⟨_, X.toInCall.ns, fun x v hx hl => ?_⟩, fun x c hc => ⟨_, X.cell x c hc, fun v hx hl => ?_⟩, hk, X.apart, fun x hx => ?_, new_none _ _ (Nat.le_refl _), fun x hx => new_none _ _ (Nat.le_of_lt (X.above x.1 x.2 hx)), fun b hb => ?_⟩ rfl (fun b hb => ?_)) (fun f s' hq => ?_) fun _ _ x => x.elim
  · have e := bindL_lookup (callEnvC fd s.heap.objs.size a).kindOf binds (fun _ => none) x hl
    rw [e, hx]; rfl
  · have e := bindC_lookup (callEnvC fd s.heap.objs.size a).kindOf binds (fun _ => none) x hl
    rw [e, hx]; rfl
  · exact Nat.ne_of_gt (X.above x.1 x.2 hx)
  · rcases List.mem_cons.mp hb with rfl | hb
    · obtain ⟨o, _, _, e, _⟩ := X.toInCall.ns; exact ⟨o, e⟩
    · obtain ⟨x, hx, rfl⟩ := List.mem_map.mp hb
      have hn : ((callEnvC fd s.heap.objs.size a).cells.map (·.1)).Nodup := by
        have := cellsFrom_names fd.scope.names 0 (s.heap.objs.size + 1) [] [] rfl
        show ((cellsFrom (s.heap.objs.size + 1) fd.scope.names []).map (·.1)).Nodup
        rw [← this]; exact hnd
      obtain ⟨o, ho, _⟩ := X.cell x.1 x.2 (lookup_nodup hn hx)
      exact ⟨o, ho⟩
  · rcases List.mem_cons.mp hb with rfl | hb
    · exact Nat.le_refl _
    · obtain ⟨x, hx, rfl⟩ := List.mem_map.mp hb
      exact Nat.le_of_lt (X.above x.1 x.2 hx)
  · cases f <;> exact hq
theorem wp_enterL {prog : Program} {w : World} {A : Around} {R : Result → Shared → Prop} {s : Shared} {a : Addr} {o : Obj} {name : Str} {params : Arguments} {body : List Stmt} {scope : Scope} {pm cd doc : Value} {vals : List Value} {binds : Mp}
    (hroom : A.depth < recursionLimit) (ho : s.heap.get? a = some o) (hdata : o.data = .func (Calls.docDef name params body scope pm cd doc)) (hlim : s.heap.NoLimit) (hcd : s.heap.CodeRec cd name)
    (hbind : bindArgs (Calls.docDef name params body scope pm cd doc) ⟨vals, []⟩ = pure binds)
    (hkind : (binds.all fun y => scope.names.lookup y.1 == some .local || scope.names.lookup y.1 == some .cell) = true)
    (hnd' : decide ((cellsFrom 0 scope.names []).map (·.1)).Nodup = true) (hco : scope.isCoroutine = false) (hgen : scope.isGenerator = false) (hk : scope.kind = .function)
    (h : ∀ L s₁, L = s.heap.objs.size → Fm s (envOfC name scope L a cd) binds.reverse s₁ → s₁.gens = s.gens → (∀ b ∈ fAd (envOfC name scope L a cd), s.heap.objs.size ≤ b) →
      wpAny (model prog w) (A.deeper (envOfC name scope L a cd)) (execs body (envOfC name scope L a cd)) (fun f s' => R (.ok (.ret (retOf f))) s') (fun _ _ => False) s₁) :
    codeAny (model prog w) A (.call (.ref a) ⟨vals, []⟩) R s :=
  wp_enterC hroom ho hdata hlim hcd rfl hbind rfl hkind hnd' hco hgen hk fun s₁ F hg hb => h s.heap.objs.size s₁ rfl F hg hb
noncomputable abbrev bindOf {h : Heap} {l : Addr} {vs : Array Value} (_ : h.IsList l vs) : Mp := [(Str.ofString "script", .ref l)]
theorem tp_top {p : Program} {loose : List Str} {mean : ExcName → Option Value} {mg mb : Str → Option Value} {w : World} {s : Shared} (K : (_root_.Mine.hd.heap_39 w.params).In s.heap) (T : Top p loose mean mg mb s.heap) : Tp w s :=
  ⟨K, ⟨mg, T.g⟩, ⟨mb, T.b, T.builtins⟩, T.nolimit⟩
theorem lam_top {p : Program} {loose : List Str} {mean : ExcName → Option Value} {mg mb : Str → Option Value} {w : World} {s : Shared} (K : (_root_.Mine.hd.heap_39 w.params).In s.heap) (T : Top p loose mean mg mb s.heap) (hT : TabsAt [(103, 101)] s.heap) : Lam w s := by
  have h9 := hT (103, 101) (.head _)
  have hm := h9.2
  obtain ⟨bm, ob, b1, b2, b3, b4, b5, b6⟩ := T.bmain
  have hbP : bm ≠ 101 := fun q => by
    rw [q, hm] at b3; cases b3; cases b4
  have hbG : bm ≠ mainGlobals := fun q => by
    obtain ⟨o, es, ep, e, hd, _⟩ := T.g
    rw [q, e] at b3; cases b3; rw [hd] at b6; cases b6
  exact ⟨tp_top K T, ⟨mg, T.g, bm, ob, b1, b2, hbG, hbP, b3, b4, b5, b6⟩, h9.1, hm⟩
theorem cx_law {env : Env} : Cx (callerA.deeper env) (0 + 5) :=
  ⟨rfl, by show callerA.depth + 1 + (0 + 5) < recursionLimit; decide, by show callerA.units + 3 + 20 * (0 + 5) + 20 < cLine; decide⟩
theorem law_all' {prog : Program} {w : World} {A : Around} {s₀ s : Shared} {Q : Flow → Shared → Prop} {E : Value → Shared → Prop} {L fa : Addr} {d : Nat} {env : Env} {body : List Stmt} {m : Mp} {l : Addr} {vs : List Value} {xs : List Int} (hb : body = lawFrom 0) (he : env = lawEnv L fa) (hm : m = [(Str.ofString "script", .ref l)]) (C : Cx A (d + 5)) (X : Lam w s₀) (h101 : 101 ∉ fAd env) (F : Fm s₀ env m s) (hl : s₀.heap.IsList l vs.toArray) (hx : Ints vs xs) (hz : vs.length ≤ 63)
    (facts : ∀ ns order, Nums ns → Ordered ns order → LawFacts ns (madeOf ns order))
    (k : ∀ s', (∀ b o, b ≠ 101 → s₀.heap.get? b = some o → s'.heap.get? b = some o) → (∃ ps, s'.heap.get? 101 = some (tabObj ps)) → s'.os = s₀.os → (AllBare s₀.gens → AllBare s'.gens) → Q (.ret (.bool true)) s') :
    wpAny (model prog w) A (execs body env) Q E s := by
  subst hb he hm
  exact law_all C X h101 F hl hx hz facts k
end Mine
namespace Mine
theorem foo : PySem.Challenge.rw_wr0023_01.Holds := _root_.Mine.hd (by
  k_fill
  intro w s₀ s₁ mg mb G Y fa o pm cd doc dV kV ho hd hcd hD hmg hg args vals as hpre hlay hrd hwl hlo
  have KX := km_in_of Y
  km_tabs Y
  have X := (Ground.X G).1
  have V := (Ground.X G).2
  refine Ground.open G ?_
  intro T B D TE TW
  try (refine guard_noD D (by decide +kernel) ?_; clear D)
  km_lay T hmg ho hd cd
  clear hmg
  wrow_args hpre hlay hrd hwl hlo
  refine enter_call ?_
  w_top on
  refine Mine.kn_postG hT9 hg ?_ (fun _ => rfl) ?_
  · first | (with_unfolding_all rfl) | kernel_rfl | (refine postW_of (by rfl) (by rfl) rfl)
  have Tt := Mine.tp_top KX T
  have hkeep8 := hT8 101 (by simp)
  clear V X B TE TW hT8
  rename Heap.IsList _ _ _ => hLs
  have he := Dflts.none hD rfl; subst he; have he := Dflts.noKw hD; subst he
  have hd := fd_plain hd
  dsimp only at hd hcd
  refine Mine.wp_enterL (binds := Mine.bindOf hLs) (by decide) ho hd T.nolimit hcd rfl rfl rfl rfl rfl rfl ?_
  intro L s2 hLe F hg2 hab
  clear ho hd hcd
  rename IntsAre _ _ => hIA
  rename ¬ (_ < _) => hc63
  have hII := Mine.ints_of hIA
  have hLam := Mine.lam_top KX T hT9
  refine Mine.law_all' (d := 0) (L := L) (fa := fa) (by unfold Mine.lawFrom; rfl) rfl rfl Mine.cx_law hLam (fun hm => ?_) F hLs hII ?_ Mine.law_facts fun s' hk hps hos hbare => ?_
  · have h1 := hab 101 hm
    have h2 := Heap.lt_size hkeep8
    exact absurd h2 (Nat.not_lt.mpr h1)
  · have := hII.len
    omega
  · obtain ⟨ps, hps⟩ := hps
    exact ⟨rfl, fun b o hb e => hk b o (fun q => hb (by rw [q]; exact .head _)) e, ⟨⟨ps, hps⟩, trivial⟩, hos, hbare (by rw [hg]; intro y hy; simp at hy)⟩)
end Mine
end

theorem PySem.Challenge.cw_wr0023_01_holds : PySem.Challenge.rw_wr0023_01.Holds :=
  Mine.foo
