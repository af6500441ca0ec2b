import PyProof.Rows.All
import Wide.All
import OpenK.AllK
import Wide.FinOn
import KE.KAnyBase
import PySem.Challenge.RW_pd0132_01
section
open PySem PySem.W PyProof.Rows PySem.Calls
set_option Elab.async false
set_option maxRecDepth 100000
namespace Mine

/-- a partial heap: what is known -/
abbrev PM := Addr → Option Obj
def PM.le (p q : PM) : Prop := ∀ a o, p a = some o → q a = some o
def PM.set (p : PM) (a : Addr) (o : Obj) : PM := fun b => if b = a then some o else p b
def PM.del (p : PM) (a : Addr) : PM := fun b => if b = a then none else p b
def PM.join (p q : PM) : PM := fun a => match p a with | some o => some o | none => q a
/-- what lies in h' behind all of h -/
def New (h h' : Heap) : PM := fun a => if a < h.objs.size then none else h'.get? a

theorem PM.le_refl (p : PM) : p.le p := fun _ _ h => h
theorem PM.le_trans {p q r : PM} (h : p.le q) (h' : q.le r) : p.le r := fun a o e => h' a o (h a o e)
theorem PM.set_self (p : PM) (a : Addr) (o : Obj) : p.set a o a = some o := if_pos rfl
theorem PM.set_ne {p : PM} {a b : Addr} {o : Obj} (h : b ≠ a) : p.set a o b = p b := if_neg h
theorem PM.le_set {p : PM} {a : Addr} {o : Obj} (h : p a = none) : p.le (p.set a o) := fun b x e => by
  unfold PM.set
  by_cases hb : b = a
  · rw [hb, h] at e; cases e
  · rw [if_neg hb]; exact e
theorem PM.del_le (p : PM) (a : Addr) : (p.del a).le p := fun b o e => by
  unfold PM.del at e
  by_cases hb : b = a
  · rw [if_pos hb] at e; cases e
  · rw [if_neg hb] at e; exact e
theorem PM.del_self (p : PM) (a : Addr) : p.del a a = none := if_pos rfl
theorem PM.del_ne {p : PM} {a b : Addr} (h : b ≠ a) : p.del a b = p b := if_neg h
theorem PM.del_le_set (p : PM) (a : Addr) (o : Obj) : (p.del a).le (p.set a o) := fun b x e => by
  unfold PM.del at e
  by_cases hb : b = a
  · rw [if_pos hb] at e; cases e
  · rw [if_neg hb] at e; rw [PM.set_ne hb]; exact e
theorem PM.le_join_left (p q : PM) : p.le (p.join q) := fun a o e => by unfold PM.join; rw [e]
theorem PM.le_join_right {p q : PM} (h : ∀ a o, q a = some o → p a = none) : q.le (p.join q) := fun a o e => by
  unfold PM.join; rw [h a o e]; exact e
theorem New.ge {h h' : Heap} {a : Addr} {o : Obj} (e : New h h' a = some o) : h.objs.size ≤ a ∧ h'.get? a = some o := by
  unfold New at e
  by_cases ha : a < h.objs.size
  · rw [if_pos ha] at e; cases e
  · rw [if_neg ha] at e; exact ⟨Nat.le_of_not_lt ha, e⟩

/-- a namespace's map -/
def put (m : Str → Option Value) (x : Str) (v : Value) : Str → Option Value := fun y => if y = x then some v else m y
def mt : Str → Option Value := fun _ => none

structure Ok (s₀ : Shared) (P : PM) (s : Shared) : Prop where
  same : ∃ h tk, s = { s₀ with heap := h, toks := tk }
  keep : P.le s.heap.get?
  base : PM.le s₀.heap.get? P
  tok : 0 < s.toks

/-- a frame: its namespace at L is m; P is known of the rest -/
structure Fn (s₀ : Shared) (L : Addr) (m : Str → Option Value) (P : PM) (s : Shared) : Prop extends Ok s₀ P s where
  ns : s.heap.Ns L m
  hL : P L = none

/-- s' is s with more objects -/
structure Grew (s s' : Shared) : Prop where
  same : ∃ h tk, s' = { s with heap := h, toks := tk }
  keep : PM.le s.heap.get? s'.heap.get?
  size : s.heap.objs.size ≤ s'.heap.objs.size
  tok : s.toks ≤ s'.toks

theorem Grew.refl (s : Shared) : Grew s s := ⟨⟨s.heap, s.toks, rfl⟩, PM.le_refl _, Nat.le_refl _, Nat.le_refl _⟩
theorem Grew.trans {s s' s'' : Shared} (a : Grew s s') (b : Grew s' s'') : Grew s s'' := by
  obtain ⟨⟨h, tk, rfl⟩, k, z, t⟩ := a
  obtain ⟨⟨h', tk', rfl⟩, k', z', t'⟩ := b
  exact ⟨⟨h', tk', rfl⟩, PM.le_trans k k', Nat.le_trans z z', Nat.le_trans t t'⟩
theorem Grew.toks (s : Shared) (t : Nat) (ht : s.toks ≤ t) : Grew s { s with toks := t } := ⟨⟨s.heap, t, rfl⟩, PM.le_refl _, Nat.le_refl _, ht⟩
theorem Grew.push (s : Shared) (o : Obj) (t : Nat) (ht : s.toks ≤ t := by first | exact Nat.le_refl _ | omega) : Grew s { s with heap := s.heap.push o, toks := t } :=
  ⟨⟨_, t, rfl⟩, fun _ _ e => Heap.get?_push_of_some _ e, by show _ ≤ (s.heap.push o).objs.size; rw [Heap.size_push]; exact Nat.le_succ _, ht⟩

section
variable {s₀ s s' : Shared} {P P' : PM} {L : Addr} {m : Str → Option Value}

theorem Ok.lt {a : Addr} {o : Obj} (K : Ok s₀ P s) (h : P a = some o) : a < s.heap.objs.size := Heap.lt_size (K.keep a o h)
theorem Ok.fresh (K : Ok s₀ P s) {a : Addr} (h : s.heap.objs.size ≤ a) : P a = none := by
  cases q : P a with
  | none => rfl
  | some o => exact absurd (K.lt q) (Nat.not_lt.mpr h)
theorem Ok.grew (K : Ok s₀ P s) (G : Grew s s') : Ok s₀ P s' := by
  obtain ⟨⟨h, tk, rfl⟩, k, z, t⟩ := G
  obtain ⟨h₁, tk₁, rfl⟩ := K.same
  exact ⟨⟨h, tk, rfl⟩, PM.le_trans K.keep k, K.base, Nat.lt_of_lt_of_le K.tok t⟩
theorem Ok.call (K : Ok s₀ P s) (G : Grew s s') : Ok s₀ (P.join (New s.heap s'.heap)) s' := by
  refine ⟨(K.grew G).same, fun a o e => ?_, PM.le_trans K.base (PM.le_join_left _ _), (K.grew G).tok⟩
  unfold PM.join at e
  cases q : P a with
  | some x => rw [q] at e; cases e; exact (K.grew G).keep a _ q
  | none => rw [q] at e; exact (New.ge e).2
theorem Ok.new_le (K : Ok s₀ P s) (s' : Shared) : (New s.heap s'.heap).le (P.join (New s.heap s'.heap)) :=
  PM.le_join_right fun _ _ e => K.fresh (New.ge e).1
theorem Fn.lt (F : Fn s₀ L m P s) : L < s.heap.objs.size := F.ns.lt
theorem Grew.ns (G : Grew s s') {a : Addr} {m : Str → Option Value} (h : s.heap.Ns a m) : s'.heap.Ns a m := h.keeps G.keep
theorem Fn.grew (F : Fn s₀ L m P s) (G : Grew s s') : Fn s₀ L m P s' := ⟨F.toOk.grew G, G.ns F.ns, F.hL⟩
theorem Fn.call (F : Fn s₀ L m P s) (G : Grew s s') : Fn s₀ L m (P.join (New s.heap s'.heap)) s' := by
  refine ⟨F.toOk.call G, G.ns F.ns, ?_⟩
  unfold PM.join New
  rw [F.hL]
  exact if_pos F.lt
theorem Ok.push (K : Ok s₀ P s) (o : Obj) (hf : o.isFreed = false := by rfl) {t : Nat} (ht : s.toks ≤ t := by first | exact Nat.le_refl _ | omega) : Ok s₀ (P.set s.heap.objs.size o) { s with heap := s.heap.push o, toks := t } := by
  refine ⟨(K.grew (Grew.push s o t ht)).same, fun a x e => ?_, PM.le_trans K.base (PM.le_set (K.fresh (Nat.le_refl _))), Nat.lt_of_lt_of_le K.tok ht⟩
  unfold PM.set at e
  by_cases ha : a = s.heap.objs.size
  · rw [if_pos ha] at e; cases e; rw [ha]; exact Heap.get?_push_size _ hf
  · rw [if_neg ha] at e; exact Heap.get?_push_of_some _ (K.keep a x e)
theorem Fn.push (F : Fn s₀ L m P s) (o : Obj) (hf : o.isFreed = false := by rfl) {t : Nat} (ht : s.toks ≤ t := by first | exact Nat.le_refl _ | omega) : Fn s₀ L m (P.set s.heap.objs.size o) { s with heap := s.heap.push o, toks := t } :=
  ⟨F.toOk.push o hf ht, F.ns.keeps fun _ _ e => Heap.get?_push_of_some _ e, by rw [PM.set_ne (Nat.ne_of_lt F.lt)]; exact F.hL⟩
theorem Ok.toks (K : Ok s₀ P s) (t : Nat) (ht : s.toks ≤ t := by first | exact Nat.le_refl _ | omega) : Ok s₀ P { s with toks := t } := K.grew (Grew.toks s t ht)
theorem Fn.toks (F : Fn s₀ L m P s) (t : Nat) (ht : s.toks ≤ t := by first | exact Nat.le_refl _ | omega) : Fn s₀ L m P { s with toks := t } := F.grew (Grew.toks s t ht)
theorem Ok.mono (K : Ok s₀ P s) (h : P'.le P) (hb : PM.le s₀.heap.get? P') : Ok s₀ P' s := ⟨K.same, PM.le_trans h K.keep, hb, K.tok⟩
/-- the frame's own namespace changed -/
theorem Fn.own {m' : Str → Option Value} {h' : Heap} {t : Nat} (F : Fn s₀ L m P s) (hn : h'.Ns L m') (hs : Heap.SameBut L s.heap h') (ht : s.toks ≤ t := by first | exact Nat.le_refl _ | omega) : Fn s₀ L m' P { s with heap := h', toks := t } := by
  obtain ⟨h₁, tk₁, rfl⟩ := F.same
  refine ⟨⟨⟨h', t, rfl⟩, fun a o e => ?_, F.base, Nat.lt_of_lt_of_le F.tok ht⟩, hn, F.hL⟩
  refine (hs.2 a fun q => ?_).trans (F.keep a o e)
  rw [q, F.hL] at e; cases e
/-- a known object changed -/
theorem Ok.setAt {D : Addr} {o o' : Obj} {h' : Heap} {t : Nat} (K : Ok s₀ P s) (_hD : P D = some o) (hb : s₀.heap.get? D = none) (ho : h'.get? D = some o') (hs : Heap.SameBut D s.heap h') (ht : s.toks ≤ t := by first | exact Nat.le_refl _ | omega) :
    Ok s₀ (P.set D o') { s with heap := h', toks := t } := by
  obtain ⟨h₁, tk₁, rfl⟩ := K.same
  refine ⟨⟨h', t, rfl⟩, fun a x e => ?_, fun a x e => ?_, Nat.lt_of_lt_of_le K.tok ht⟩
  · by_cases ha : a = D
    · rw [ha, PM.set_self] at e; cases e; rw [ha]; exact ho
    · rw [PM.set_ne ha] at e; exact (hs.2 a ha).trans (K.keep a x e)
  · have ha : a ≠ D := fun q => by rw [q, hb] at e; cases e
    rw [PM.set_ne ha]; exact K.base a x e
theorem Fn.setAt {D : Addr} {o o' : Obj} {h' : Heap} {t : Nat} (F : Fn s₀ L m P s) (hD : P D = some o) (hb : s₀.heap.get? D = none) (ho : h'.get? D = some o') (hs : Heap.SameBut D s.heap h') (ht : s.toks ≤ t := by first | exact Nat.le_refl _ | omega) :
    Fn s₀ L m (P.set D o') { s with heap := h', toks := t } := by
  have hne : L ≠ D := fun q => by have := F.hL; rw [q, hD] at this; cases this
  exact ⟨F.toOk.setAt hD hb ho hs ht, F.ns.sameBut hs hne, by rw [PM.set_ne hne]; exact F.hL⟩
end

section
variable {M : Model} {A : Around} {E : Value → Shared → Prop} {s₀ s : Shared} {P : PM} {m : Str → Option Value} {env : Env}
  {x : Str} {v : Value} {pos : Pos} {Q : Value → Shared → Prop}

theorem nmL (F : Fn s₀ env.locals m P s) (hv : m x = some v) (h : Q v s) (hk : env.scope.kind = .function := by rfl) (hl : env.kindOf x = some .local := by rfl)
    (hd : (x == ("__debug__" : Str)) = false := by decide) : wpAny M A (eval (.Name x pos) env) Q E s := wpAny_Name (wpAny_loadName_local hk hl F.ns hv h) hd
theorem ldL (F : Fn s₀ env.locals m P s) (hv : m x = some v) (h : Q v s) (hk : env.scope.kind = .function := by rfl) (hl : env.kindOf x = some .local := by rfl) :
    wpAny M A (loadName env x) Q E s := wpAny_loadName_local hk hl F.ns hv h
theorem nmC {c : Addr} {o : Obj} (K : Ok s₀ P s) (hc : P c = some o) (hcl : env.cells.lookup x = some c) (ho : o.data = .cell (some v)) (h : Q v s) (hk : env.scope.kind = .function := by rfl) (hl : env.kindOf x = some .cell := by rfl)
    (hd : (x == ("__debug__" : Str)) = false := by decide) : wpAny M A (eval (.Name x pos) env) Q E s := wpAny_Name (wpAny_loadName_cell hk hl hcl ⟨o, K.keep _ _ hc, ho⟩ h) hd
theorem nmF {c : Addr} {o : Obj} (K : Ok s₀ P s) (hc : P c = some o) (hcl : env.cells.lookup x = some c) (ho : o.data = .cell (some v)) (h : Q v s) (hk : env.scope.kind = .function := by rfl) (hl : env.kindOf x = some .free := by rfl)
    (hd : (x == ("__debug__" : Str)) = false := by decide) (hn : (x == ("__classdict__" : Str)) = false := by decide) : wpAny M A (eval (.Name x pos) env) Q E s := wpAny_Name (wpAny_loadName_free hk hl hcl ⟨o, K.keep _ _ hc, ho⟩ h hn) hd
theorem stL0 {Q : Unit → Shared → Prop} (F : Fn s₀ env.locals m P s) (h : ∀ s', Fn s₀ env.locals (fun y => if y = x then some v else m y) P s' → Q () s')
    (hk : env.scope.kind = .function := by rfl) (hl : env.kindOf x = some .local := by rfl) : wpAny M A (storeName env x v) Q E s :=
  wpAny_storeName_local hl F.ns (fun _ hn hs => h _ (F.own hn hs (Nat.le_succ _))) (by rw [hk]; rfl)
theorem stL {Q : Unit → Shared → Prop} (F : Fn s₀ env.locals m P s) (h : ∀ s', Fn s₀ env.locals (put m x v) P s' → Q () s')
    (hk : env.scope.kind = .function := by rfl) (hl : env.kindOf x = some .local := by rfl) : wpAny M A (storeName env x v) Q E s := stL0 F h hk hl
/-- a cell's store -/
theorem stC {c : Addr} {o : Obj} {v₀ : Option Value} {Q : Unit → Shared → Prop} {L : Addr} (F : Fn s₀ L m P s) (hc : P c = some o) (hcl : env.cells.lookup x = some c) (ho : o.data = .cell v₀) (hb : s₀.heap.get? c = none)
    (h : ∀ s' o', Fn s₀ L m (P.set c o') s' → o'.data = .cell (some v) → Q () s')
    (hk : env.scope.kind = .function := by rfl) (hl : env.kindOf x = some .cell := by rfl) : wpAny M A (storeName env x v) Q E s := by
  refine wpAny_storeName_cell hk hl hcl ⟨o, F.keep _ _ hc, ho⟩ fun h' hv hs => ?_
  obtain ⟨o', ho', hd'⟩ := hv
  exact h _ o' (F.setAt (t := s.toks) hc hb ho' hs) hd'
end

/-- the text's names: K is the written part of the heap ahead of the call -/
structure Text (K : Frag) (p : Program) (loose : List Str) (B : Heap) : Prop where
  X : K.In B
  T : ∃ mg mb, TopRead p loose mg mb B

section
variable {M : Model} {A : Around} {E : Value → Shared → Prop} {s₀ s : Shared} {P : PM} {m : Str → Option Value} {env : Env}
  {x : Str} {v : Value} {pos : Pos} {Q : Value → Shared → Prop} {K : Frag} {p : Program} {loose : List Str}

theorem Ok.text (O : Ok s₀ P s) (T : Text K p loose s₀.heap) : Text K p loose s.heap :=
  have k : PM.le s₀.heap.get? s.heap.get? := PM.le_trans O.base O.keep
  ⟨fun a o e => k a o (T.X a o e), let ⟨mg, mb, t⟩ := T.T; ⟨mg, mb, t.keeps k⟩⟩
theorem nmG (O : Ok s₀ P s) (T : Text K p loose s₀.heap) (e : nsIn K mainGlobals x = some (some v)) (h : Q v s) (hk : env.scope.kind = .function := by rfl) (hx : env.kindOf x = some .globalImplicit := by rfl)
    (hg : env.globals = mainGlobals := by rfl) (hd : (x == ("__debug__" : Str)) = false := by decide) : wpAny M A (eval (.Name x pos) env) Q E s := by
  obtain ⟨X, mg, mb, t⟩ := O.text T
  exact Name_function_global hk hx (loadGlobal_global (hg ▸ t.g) (mg_of X t.g e) h) hd
theorem nmB (O : Ok s₀ P s) (T : Text K p loose s₀.heap) (e : nsIn K mainGlobals x = some none) (hv : bootBuiltins x = some v) (h : Q v s) (hn : x ≠ "__name__" := by decide) (hk : env.scope.kind = .function := by rfl) (hx : env.kindOf x = some .globalImplicit := by rfl)
    (hg : env.globals = mainGlobals := by rfl) (hb : env.builtins = builtinsNs := by rfl) (hd : (x == ("__debug__" : Str)) = false := by decide) : wpAny M A (eval (.Name x pos) env) Q E s := by
  obtain ⟨X, mg, mb, t⟩ := O.text T
  exact Name_function_global hk hx (loadGlobal_builtin (hg ▸ t.g) (mg_none_of X t.g e) (hb ▸ t.b) ((t.builtins x hn).trans hv) h) hd
end
end Mine
end

section
open PySem PySem.W PyProof.Rows PySem.Calls
set_option Elab.async false
set_option maxRecDepth 100000
namespace Mine

section
variable {prog : Program} {w : World} {A : Around} {E : Value → Shared → Prop} {s₀ s : Shared} {P : PM} {K : Frag} {p : Program} {loose : List Str}

/-- the state at a body's start: all of the caller's heap is known, and the cells -/
structure Begun (s₀ s : Shared) (L : Addr) (env : Env) (m cm : Str → Option Value) (P : PM) (s₁ : Shared) : Prop extends Fn s₀ L m P s₁ where
  old : PM.le s.heap.get? P
  above : s.heap.objs.size = L
  toks : s.toks ≤ s₁.toks
  cell : ∀ n c, env.cells.lookup n = some c → s₀.heap.get? c = none ∧ L < c ∧ ∃ o, P c = some o ∧ o.data = .cell (cm n)

theorem Ok.none_of_ge (O : Ok s₀ P s) {c : Addr} (h : s.heap.objs.size ≤ c) : s₀.heap.get? c = none := by
  cases q : s₀.heap.get? c with
  | none => rfl
  | some o => exact absurd (O.lt (O.base _ _ q)) (Nat.not_lt.mpr h)

theorem enter {m cm : Str → Option Value} {f : Addr} {o : Obj} {fd : FuncData} {body : List Stmt} {vals : List Value} {binds : List (Str × Value)} {Q : Value → Shared → Prop}
    (O : Ok s₀ P s) (T : Text K p loose s₀.heap) (hroom : A.depth < recursionLimit)
    (ho : K.lookup f = some o) (hdata : o.data = .func fd) (hcd : codeIn K fd.code fd.qualname = true)
    (hbody : fd.body = .stmts body) (hbind : bindArgs fd ⟨vals, []⟩ = pure binds) (hclo : fd.closure = [])
    (hkind : (binds.all fun y => fd.scope.names.lookup y.1 == some .local || fd.scope.names.lookup y.1 == some .cell) = true)
    (hm : ∀ L, bindL (callEnvC fd L f).kindOf binds (fun _ => none) = m) (hcm : ∀ L, bindC (callEnvC fd L f).kindOf binds (fun _ => none) = cm)
    (h : ∀ L P₁ s₁, Begun s₀ s L (callEnvC fd L f) m cm P₁ s₁ →
      wpAny (model prog w) (A.deeper (callEnvC fd L f)) (execs body (callEnvC fd L f)) (fun fl s' => s.toks ≤ s'.toks → Q (match fl with | .ret v => v | _ => .none) s')
        (fun e s' => wpAny (model prog w) (A.deeper (callEnvC fd L f)) (leaving (callEnvC fd L f) e) (fun _ s'' => E e s'') (fun e' s'' => E e' s'') s') s₁)
    (hco : fd.scope.isCoroutine = false := by rfl) (hgen : fd.scope.isGenerator = false := by rfl) (hk : fd.scope.kind = .function := by rfl) :
    wpAny (model prog w) A (call (.ref f) vals) Q E s := by
  obtain ⟨X, mg, mb, t⟩ := O.text T
  refine wpAny_with_toks (Nat.le_refl s.toks) (wpAny_mono (Q := fun v s' => s.toks ≤ s'.toks → Q v s') (E' := fun e s' => s.toks ≤ s'.toks → E e s') (E := E) ?_ (fun _ _ x => x) (fun _ _ x _ => x))
  refine wpAny_call (codeAny_call_function hroom (X _ _ ho) hdata hco hgen hbody (codeRec_of X hcd) ?_)
  rw [hbind, hclo]
  refine wpAny_pure (wpAny_with_toks (Nat.le_refl _) (wpAny_newFunctionEnv_cells hk (kindsX hkind _) fun env he s₁ C htk => ?_))
  subst he
  have hI := C.toInCall
  refine ⟨t.nolimit.keeps hI.keep, codeAny_func ?_⟩
  refine h s.heap.objs.size (PM.del s₁.heap.get? s.heap.objs.size) s₁ ?_
  have ns' : ∀ a o, s.heap.get? a = some o → a ≠ s.heap.objs.size := fun a o e => Nat.ne_of_lt (Heap.lt_size e)
  have old : PM.le s.heap.get? (PM.del s₁.heap.get? s.heap.objs.size) := fun a o e => by
    rw [PM.del_ne (ns' a o e)]; exact hI.keep a o e
  refine { same := ?_, keep := PM.del_le _ _, base := ?_, tok := Nat.lt_of_lt_of_le O.tok htk, ns := hm s.heap.objs.size ▸ hI.ns, hL := PM.del_self _ _, old := old, above := rfl, toks := htk, cell := ?_ }
  · obtain ⟨h₁, tk₁, rfl⟩ := O.same
    obtain ⟨h₂, tk₂, e⟩ := hI.same
    exact ⟨h₂, tk₂, e⟩
  · exact PM.le_trans (PM.le_trans O.base O.keep) old
  · intro n c hc
    have hab := C.above n c (mem_of_lookup hc)
    have hab' : s.heap.objs.size < c := hab
    obtain ⟨oc, ho, hd⟩ := C.cell n c hc
    exact ⟨O.none_of_ge (Nat.le_of_lt hab'), hab', oc, by rw [PM.del_ne (Nat.ne_of_gt hab')]; exact ho, hcm s.heap.objs.size ▸ hd⟩

theorem Fn.leave {L : Addr} {m : Str → Option Value} {P P₂ : PM} {s' : Shared} (F : Fn s₀ L m P₂ s') (O : Ok s₀ P s) (old : PM.le s.heap.get? P₂) (above : s.heap.objs.size = L) (ht : s.toks ≤ s'.toks) : Grew s s' := by
  obtain ⟨h₁, tk₁, rfl⟩ := O.same
  obtain ⟨h₂, tk₂, rfl⟩ := F.same
  exact ⟨⟨h₂, tk₂, rfl⟩, PM.le_trans old F.keep, by rw [above]; exact Nat.le_of_lt F.lt, ht⟩
end

abbrev lobj (vs : List Value) (n : Nat := 0) : Obj := { cls := .type "list", dict := none, data := .seq vs.toArray n, slots := #[] }
/-- a list of values at a -/
def IsL (P : PM) (a : Addr) (vs : List Value) : Prop := ∃ n, P a = some (lobj vs n)
theorem IsL.mono {P P' : PM} {a : Addr} {vs : List Value} (h : IsL P a vs) (k : P.le P') : IsL P' a vs := let ⟨n, ho⟩ := h; ⟨n, k _ _ ho⟩
theorem IsL.isList {s₀ s : Shared} {P : PM} {a : Addr} {vs : List Value} (h : IsL P a vs) (O : Ok s₀ P s) : s.heap.IsList a vs.toArray := let ⟨n, ho⟩ := h; ⟨_, O.keep _ _ ho, rfl, n, rfl⟩
theorem IsL.ne {P : PM} {a b : Addr} {vs : List Value} (h : IsL P a vs) (hb : P b = none) : a ≠ b := fun q => by
  obtain ⟨n, ho⟩ := h; rw [q, hb] at ho; cases ho
theorem IsL.set {P : PM} {a D : Addr} {o : Obj} {vs : List Value} (h : IsL P a vs) (hn : a ≠ D) : IsL (P.set D o) a vs := let ⟨n, hx⟩ := h; ⟨n, by rw [PM.set_ne hn]; exact hx⟩
theorem IsL.del {P : PM} {a D : Addr} {vs : List Value} (h : IsL P a vs) (hn : a ≠ D) : IsL (P.del D) a vs := let ⟨n, hx⟩ := h; ⟨n, by rw [PM.del_ne hn]; exact hx⟩
theorem IsL.obj {P : PM} {a : Addr} {vs : List Value} {n : Nat} (h : P a = some (lobj vs n)) : IsL P a vs := ⟨n, h⟩
theorem IsL.new {h h' : Heap} {a : Addr} {vs : List Value} (x : IsL h'.get? a vs) (hn : h.objs.size ≤ a) : IsL (New h h') a vs :=
  let ⟨n, ho⟩ := x; ⟨n, by unfold New; rw [if_neg (Nat.not_lt.mpr hn)]; exact ho⟩
/-- a list of texts at a; each text's token is one that Python may see -/
def IsSL (P : PM) (a : Addr) (ss : List Str) : Prop := ∃ l : List (Str × Tok), IsL P a (strValues l) ∧ l.map (·.1) = ss ∧ ∀ q ∈ l, 0 < q.2
theorem IsSL.mono {P P' : PM} {a : Addr} {ss : List Str} (h : IsSL P a ss) (k : P.le P') : IsSL P' a ss := let ⟨l, x, r⟩ := h; ⟨l, x.mono k, r⟩
end Mine
end

section
open PySem PySem.W PyProof.Rows PySem.Calls
set_option Elab.async false
set_option maxRecDepth 100000
namespace Mine
theorem kind_hasattr : builtinKind "hasattr" = none := by decide +kernel
theorem plain_hasattr : plainId "hasattr" = true := by decide +kernel
theorem entry_hasattr : entryFor table "hasattr" = some Builtin.«hasattr» := entryFor_of_tree (by kernel_rfl)
theorem args_hasattr_2 (a b : Value) : argsOk "hasattr" ⟨[a, b], []⟩ := by unfold argsOk; kernel_rfl
theorem lk_list_gi : typeLookup (.type "list") (Str.ofString "__getitem__") = pure (some (.builtin "list.__getitem__")) := slot_list_getitem.lookup

theorem sub_list_module : isSubtype (.type "list") (.type "module") = pure false := by rw [isSubtype_type]; kernel_rfl
theorem ty_gi : typeOf (.builtin "list.__getitem__") = pure (.type "method_descriptor") := by kernel_rfl
theorem lk_md_get : typeLookup (.type "method_descriptor") (Str.ofString "__get__") = pure (some (.builtin "method_descriptor.__get__")) := by rw [typeLookup_type, builtinLookup_eq_fast]; kernel_rfl
theorem lk_md_set : typeLookup (.type "method_descriptor") (Str.ofString "__set__") = pure none := by rw [typeLookup_type, builtinLookup_eq_fast]; kernel_rfl
theorem lk_md_del : typeLookup (.type "method_descriptor") (Str.ofString "__delete__") = pure none := by rw [typeLookup_type, builtinLookup_eq_fast]; kernel_rfl
theorem slot_md_get : Slot "method_descriptor" "__get__" "method_descriptor.__get__" :=
  .of (owner := "method_descriptor") (n := "__get__") (by rw [typeLookup_type, builtinLookup_eq_fast]; kernel_rfl) (by decide +kernel) (by decide +kernel) (by decide +kernel)
    (by first | exact .inl (by decide +kernel) | exact .inr (by decide +kernel)) (by rw [isSubtype_type]; kernel_rfl)
theorem entry_md_get : entryFor table "method_descriptor.__get__" = some Builtin.«method_descriptor.__get__» := entryFor_of_tree (by kernel_rfl)
theorem args_md_get (a b c : Value) : argsOk "method_descriptor.__get__" ⟨[a, b, c], []⟩ := by unfold argsOk; kernel_rfl
theorem owner_gi : (".".intercalate ("list.__getitem__".cutAt '.').dropLast) = "list" := by
  have e0 : "list.__getitem__".cutAt '.' = ["list", "__getitem__"] := by first | rfl | decide +kernel
  rw [e0]; rfl
theorem sub_gi : isSubtype (.type "list") (.type (".".intercalate ("list.__getitem__".cutAt '.').dropLast)) = pure true := by
  rw [owner_gi, isSubtype_type]; kernel_rfl
theorem told_gi : Manifest.toldItsClass.contains "list.__getitem__" = false := by decide +kernel
section
variable {prog : Program} {w : World} {A : Around} {E : Value → Shared → Prop} {h : Heap} {g : Array GenState} {d : Drawn} {tk : Nat} {os : OsState}
set_option maxHeartbeats 400000 in
theorem md_get_body {l : Addr} {o : Obj} {Q : PySem.Fin → Shared → Prop} (hl : h.get? l = some o) (hc : o.cls = .type "list")
    (hQ : Q (.done (.ret (.ref h.objs.size))) ⟨h.push { cls := .type "builtin_function_or_method", data := .fields #[.builtin "list.__getitem__", .ref l] }, g, d, tk, os⟩) :
    wpAny (model prog w) A (Builtin.«method_descriptor.__get__» ⟨[.builtin "list.__getitem__", .ref l, .type "list"], []⟩) Q E ⟨h, g, d, tk, os⟩ := by
  have hT : (⟨h, g, d, tk, os⟩ : Shared).TypeIs (.ref l) "list" := ⟨_, hl, hc⟩
  have f9 := sub_gi
  unfold Builtin.«method_descriptor.__get__»
  iterate 6 (try wp_step)
  refine wpAny_pure ?_
  show wpAny _ _ (if Manifest.toldItsClass.contains "list.__getitem__" = true then _ else _) _ _ _
  rw [told_gi]
  refine wpAny_ite_false rfl ?_
  iterate 9 (try wp_step)
  exact wpAny_pure (wpAny_bind (wpAny_newObj_type (wpAny_pure hQ)))
end
section
variable {prog : Program} {w : World} {A : Around} {E : Value → Shared → Prop} {s : Shared}
set_option maxHeartbeats 1000000 in
theorem call_hasattr_list {l : Addr} {items : Array Value} {n : Nat} {sl : Array (Option Value)} {t : Tok} {Q : Value → Shared → Prop} (hl : s.heap.get? l = some { cls := .type "list", dict := none, data := .seq items n, slots := sl }) (hQ : ∀ s', Grew s s' → Q (.bool true) s') :
    wpAny (model prog w) A (call (.builtin "hasattr") [.ref l, .str (Str.ofString "__getitem__") t]) Q E s := by
  refine Calls.call_function_entry kind_hasattr plain_hasattr entry_hasattr (args_hasattr_2 _ _) ?_
  obtain ⟨h, g, d, tk, os⟩ := s
  have hT : (⟨h, g, d, tk, os⟩ : Shared).TypeIs (.ref l) "list" := ⟨_, hl, rfl⟩
  have f1 := lk_list_gi
  have f2 := F.slot_list_getattribute.lookup
  have f3 := F.slot_list_getattribute.bind (.ref l)
  have f4 := sub_list_module
  unfold Builtin.«hasattr»
  wp_walk
  refine codeAny_call_builtin F.slot_list_getattribute.plain F.entry_list_ga (F.slot_list_getattribute.check _ _ _ _ _ _ _ _ hT (F.args_list_getattribute_2 _ _) ?_)
  have f5 := ty_gi
  have f6 := lk_md_get
  have f7 := lk_md_set
  have f8 := lk_md_del
  unfold Builtin.«object.__getattribute__»
  wp_walk
  refine codeAny_call_builtin slot_md_get.plain entry_md_get (slot_md_get.check _ _ _ _ _ _ _ _ (show (⟨h, g, d, tk, os⟩ : Shared).TypeIs (.builtin "list.__getitem__") "method_descriptor" from ty_gi) (args_md_get _ _ _) ?_)
  refine md_get_body hl rfl ?_
  wp_walk
  exact ⟨_, rfl, hQ _ (Grew.push _ _ _)⟩
end
end Mine
end

section
open PySem PySem.W PyProof.Rows PySem.Calls PySem.SeqAt
set_option Elab.async false
set_option maxRecDepth 100000
namespace Mine
section
variable {prog : Program} {w : World} {A : Around} {E : Value → Shared → Prop} {s₀ s : Shared} {P : PM} {a b : Addr} {xs ys : List Value} {Q : Value → Shared → Prop}

theorem add_l (O : Ok s₀ P s) (ha : IsL P a xs) (hb : IsL P b ys) (hsz : xs.length + ys.length ≤ sizeLine)
    (h : Q (.ref s.heap.objs.size) { s with heap := s.heap.push (lobj (xs ++ ys)) }) : wpAny (model prog w) A (binaryOp .Add (.ref a) (.ref b)) Q E s := by
  obtain ⟨⟨cls, dd, data, sl⟩, ho, hc, n, hd⟩ := ha.isList O
  obtain ⟨⟨cls2, dd2, data2, sl2⟩, ho2, hc2, n2, hd2⟩ := hb.isList O
  simp only at hc hd hc2 hd2
  subst hc hd hc2 hd2
  have e : xs.toArray ++ ys.toArray = (xs ++ ys).toArray := by simp
  refine concat_meets ⟨_, ho, rfl⟩ ⟨_, ho2, rfl⟩ noFill_list_add seq_list_add PySem.F.slot_list_add PySem.F.entry_list_add (PySem.F.args_list_add_2 _ _) (list_addW a b xs.toArray ys.toArray n n2 dd dd2 sl sl2 (by simpa using hsz)) ⟨ho, ho2, ?_⟩
  rw [e]
  exact h
end
end Mine
end

section
open PySem PySem.W PyProof.Rows PySem.Calls PySem.SeqAt
set_option Elab.async false
set_option maxRecDepth 100000
namespace Mine
section
variable {prog : Program} {w : World} {A : Around} {E : Value → Shared → Prop} {s₀ s : Shared} {P : PM} {m : Str → Option Value} {env : Env}

theorem Fn.notBase {L : Addr} (F : Fn s₀ L m P s) {j : Addr} (h : s.heap.objs.size ≤ j) : s₀.heap.get? j = none := F.toOk.none_of_ge h

/-- a for over a list that stays: J is what holds of the frame between the turns -/
theorem loop_l {R : Result → Shared → Prop} {x : Str} {px : Pos} {body orelse : List Stmt} {l : Addr} {vs : List Value} (F : Fn s₀ env.locals m P s) (hh : A.handled = none) (hl : IsL P l vs)
    (J : Nat → (Str → Option Value) → Prop) (h0 : J 0 m)
    (turn : ∀ k v m' Q s', vs[k]? = some v → J k m' → P.le Q → Fn s₀ env.locals (put m' x v) Q s' →
      wpAny (model prog w) A (execs body env) (fun f s₃ => match f with
        | .next | .cont => ∃ m'' Q'', J (k + 1) m'' ∧ Q.le Q'' ∧ Fn s₀ env.locals m'' Q'' s₃
        | .brk => R (.ok .next) s₃
        | .ret v => R (.ok (.ret v)) s₃) (notedBy (model prog w) A env fun e s' => R (.error e) s') s')
    (done : ∀ m' Q s', J vs.length m' → P.le Q → Fn s₀ env.locals m' Q s' →
      wpAny (model prog w) A (execs orelse env) (fun f s₃ => R (.ok f) s₃) (notedBy (model prog w) A env fun e s' => R (.error e) s') s')
    (hk : env.scope.kind = .function := by rfl) (hx : env.kindOf x = some .local := by rfl) :
    wpAny (model prog w) A (pyIter (.ref l)) (fun it s₂ => codeAny (model prog w) A (.forLoop (.Name x px) it body orelse env) R s₂) E s := by
  refine wpAny_pyIter_list (hl.isList F.toOk) ?_
  have hP : P s.heap.objs.size = none := F.fresh (Nat.le_refl _)
  have hB : s₀.heap.get? s.heap.objs.size = none := F.notBase (Nat.le_refl _)
  have F₁ := F.push { cls := .type "list_iterator", data := .fields #[.ref l, .int 0 0] } (t := s.toks)
  generalize hj : s.heap.objs.size = j at hP hB F₁ ⊢
  refine codeAny_forLoop (fun n s' => ∃ k m' Q, n = vs.length + 1 - k ∧ k ≤ vs.length ∧ J k m' ∧ P.le Q ∧ Fn s₀ env.locals m' Q s' ∧ ∃ o, Q j = some o ∧ o.cls = .type "list_iterator" ∧ o.data = .fields #[.ref l, .int (k : Nat) 0]) ?_ (vs.length + 1)
    ⟨0, m, _, rfl, Nat.zero_le _, h0, PM.le_set hP, F₁, _, PM.set_self _ _ _, rfl, rfl⟩
  rintro n s' ⟨k, m', Q, rfl, hk', hJ, hPQ, F', o, ho, hc, hd⟩
  have hit : s'.heap.IsListIter j l k := ⟨o, F'.keep _ _ ho, hc, hd⟩
  have hlist := (hl.mono hPQ).isList F'.toOk
  cases hv : vs[k]? with
  | none =>
    have hkl : k = vs.length := by have := List.getElem?_eq_none_iff.mp hv; omega
    refine wpAny_pyNext_list_end hh hit hlist (by simpa using hv) fun h' he => ?_
    have F'' : Fn s₀ env.locals m' (Q.del j) { s' with heap := h' } := by
      obtain ⟨h₁, tk₁, rfl⟩ := F'.same
      have hne : env.locals ≠ j := fun q => by have := F'.hL; rw [q, ho] at this; cases this
      refine ⟨⟨⟨h', tk₁, rfl⟩, fun a x e => ?_, fun a x e => ?_, F'.tok⟩, F'.ns.extBut he hne, ?_⟩
      · by_cases ha : a = j
        · rw [ha, PM.del_self] at e; cases e
        · rw [PM.del_ne ha] at e; exact he a x ha (F'.keep a x e)
      · have ha : a ≠ j := fun q => by rw [q, hB] at e; cases e
        rw [PM.del_ne ha]; exact F'.base a x e
      · rw [PM.del_ne hne]; exact F'.hL
    refine done m' (Q.del j) _ (hkl ▸ hJ) (fun a x e => ?_) F''
    have ha : a ≠ j := fun q => by rw [q, hP] at e; cases e
    rw [PM.del_ne ha]; exact hPQ a x e
  | some v =>
    have hlt : k < vs.length := (List.getElem?_eq_some_iff.mp hv).1
    refine wpAny_pyNext_list_item hit hlist (by simpa using hv) fun h' hit' hs => ?_
    obtain ⟨o', ho', hc', hd'⟩ := hit'
    have F₂ := F'.setAt (t := s'.toks) ho hB ho' hs
    refine wpAny_assign_Name (stL F₂ (fun s₃ F₃ => ?_) hk hx)
    have hPQ' : P.le (Q.set j o') := fun a x e => by
      have ha : a ≠ j := fun q => by rw [q, hP] at e; cases e
      rw [PM.set_ne ha]; exact hPQ a x e
    refine wpAny_mono (turn k v m' _ s₃ hv hJ hPQ' F₃) (fun f s₄ hf => ?_) fun _ _ e => e
    have nx : (∃ m'' Q'', J (k + 1) m'' ∧ (Q.set j o').le Q'' ∧ Fn s₀ env.locals m'' Q'' s₄) → ∃ n', n' < vs.length + 1 - k ∧ ∃ k m' Q, n' = vs.length + 1 - k ∧ k ≤ vs.length ∧ J k m' ∧ P.le Q ∧ Fn s₀ env.locals m' Q s₄ ∧ ∃ o, Q j = some o ∧ o.cls = .type "list_iterator" ∧ o.data = .fields #[.ref l, .int (k : Nat) 0] := by
      rintro ⟨m'', Q'', hJ', hQ', F₄⟩
      exact ⟨vs.length + 1 - (k + 1), by omega, k + 1, m'', Q'', rfl, hlt, hJ', PM.le_trans hPQ' hQ', F₄, o', hQ' _ _ (PM.set_self _ _ _), hc', hd'⟩
    cases f with
    | next => exact nx hf
    | cont => exact nx hf
    | brk => exact hf
    | ret v => exact hf
end
end Mine
end

section
open PySem PySem.W PyProof.Rows PySem.Calls PySem.SeqAt
set_option Elab.async false
set_option maxRecDepth 100000
namespace Mine
section
variable {M : Model} {A : Around} {E : Value → Shared → Prop} {s : Shared}
theorem is_str {mc : Str → Option Value} {p q : Str} {t u : Tok} {Q : Value → Shared → Prop} (hc : s.heap.Ns cStatics mc) (hm : mc sharingNotToldKey = none) (ht : 0 < t) (hu : 0 < u) (htu : t = u → p = q)
    (h : ∀ b, (b = true → p = q) → Q (.bool b) s) : wpAny M A (compareOp .Is (.str p t) (.str q u)) Q E s := by
  show wpAny M A (do return .bool (← isSame (.str p t) (.str q u))) Q E s
  refine wpAny_bind ?_
  show wpAny M A (isSame.created (p == q) t u) _ E s
  unfold isSame.created
  have h0 : (t == 0 || u == 0) = false := by
    have h1 : (t == 0) = false := beq_eq_false_iff_ne.mpr (Nat.ne_of_gt ht)
    have h2 : (u == 0) = false := beq_eq_false_iff_ne.mpr (Nat.ne_of_gt hu)
    rw [h1, h2]; rfl
  rw [h0]
  simp only [Bool.false_eq_true, if_false]
  by_cases e : t = u
  · rw [if_pos (by simpa using e)]
    exact wpAny_pure (wpAny_pure (h true fun _ => htu e))
  · rw [if_neg (by simpa using e)]
    by_cases hpq : p = q
    · rw [if_neg (by simp [hpq])]
      have nt : ∀ (v : Tok) (Q' : Bool → Shared → Prop), Q' false s → wpAny M A (sharingNotTold v) Q' E s := fun v Q' hq => by
        unfold sharingNotTold
        refine wpAny_bind (wpAny_nsGet hc ?_)
        rw [hm]; exact wpAny_pure hq
      refine wpAny_bind (nt t _ ?_)
      refine wpAny_ite_false rfl ?_
      refine wpAny_bind (nt u _ ?_)
      refine wpAny_ite_false rfl ?_
      refine wpAny_bind (wpAny_rule (wpAny_bind (wpAny_askSetting (wpAny_pure (wpAny_pure (h _ fun _ => hpq))))))
    · rw [if_pos (by simp [hpq])]
      exact wpAny_pure (wpAny_pure (h false fun z => by cases z))
end
end Mine
end

section
open PySem PySem.W PyProof.Rows PySem.Calls PySem.SeqAt
set_option Elab.async false
set_option maxRecDepth 100000
namespace Mine
def PM.wo (p : PM) (W : List Addr) : PM := fun b => if b ∈ W then none else p b
theorem PM.wo_ne {p : PM} {W : List Addr} {a : Addr} (h : a ∉ W) : p.wo W a = p a := if_neg h
theorem PM.wo_mem {p : PM} {W : List Addr} {a : Addr} (h : a ∈ W) : p.wo W a = none := if_pos h
theorem PM.wo_le (p : PM) (W : List Addr) : (p.wo W).le p := fun a o e => by
  by_cases h : a ∈ W
  · rw [PM.wo_mem h] at e; cases e
  · rw [PM.wo_ne h] at e; exact e
theorem PM.le_wo {p q : PM} {W : List Addr} (h : p.le q) (hW : ∀ a ∈ W, p a = none) : p.le (q.wo W) := fun a o e => by
  have : a ∉ W := fun h => by rw [hW a h] at e; cases e
  rw [PM.wo_ne this]; exact h a o e
theorem PM.le_set_of {p q : PM} {a : Addr} {o : Obj} (h : p.le q) (ha : p a = none) : p.le (q.set a o) := fun b x e => by
  have : b ≠ a := fun q => by rw [q, ha] at e; cases e
  rw [PM.set_ne this]; exact h b x e
section
variable {s₀ s : Shared} {L : Addr} {m : Str → Option Value} {Q : PM}
/-- what changed lies in W -/
theorem Fn.change {W : List Addr} {h' : Heap} {t : Nat} (F : Fn s₀ L m Q s) (hL : L ∉ W) (hB : ∀ b ∈ W, s₀.heap.get? b = none) (hk : ∀ b o, b ∉ W → s.heap.get? b = some o → h'.get? b = some o) (ht : s.toks ≤ t := by first | exact Nat.le_refl _ | omega) :
    Fn s₀ L m (Q.wo W) { s with heap := h', toks := t } := by
  obtain ⟨h₁, tk₁, rfl⟩ := F.same
  refine ⟨⟨⟨h', t, rfl⟩, fun a o e => ?_, fun a o e => ?_, Nat.lt_of_lt_of_le F.tok ht⟩, ?_, ?_⟩
  · by_cases h : a ∈ W
    · rw [PM.wo_mem h] at e; cases e
    · rw [PM.wo_ne h] at e; exact hk a o h (F.keep a o e)
  · have : a ∉ W := fun h => by rw [hB a h] at e; cases e
    rw [PM.wo_ne this]; exact F.base a o e
  · obtain ⟨o, es, ep, ho, r⟩ := F.ns
    exact ⟨o, es, ep, hk _ _ hL ho, r⟩
  · rw [PM.wo_ne hL]; exact F.hL
theorem Fn.learn {a : Addr} {o : Obj} (F : Fn s₀ L m Q s) (h : s.heap.get? a = some o) (ha : a ≠ L) : Fn s₀ L m (Q.set a o) s := by
  refine ⟨⟨F.same, fun b x e => ?_, fun b x e => ?_, F.tok⟩, F.ns, ?_⟩
  · by_cases hb : b = a
    · rw [hb, PM.set_self] at e; cases e; rw [hb]; exact h
    · rw [PM.set_ne hb] at e; exact F.keep b x e
  · by_cases hb : b = a
    · rw [hb, PM.set_self]
      have := F.keep _ _ (F.base b x e)
      rw [hb, h] at this; exact this
    · rw [PM.set_ne hb]; exact F.base b x e
  · rw [PM.set_ne (Ne.symm ha)]; exact F.hL
end

section
variable {prog : Program} {w : World} {A : Around} {E : Value → Shared → Prop} {s₀ s : Shared} {P : PM} {m : Str → Option Value} {env : Env}

/-- a for over enumerate of a list that stays -/
theorem loop_e {R : Result → Shared → Prop} {xi xv : Str} {pi pv pt : Pos} {x1} {body orelse : List Stmt} {l : Addr} {vs : List Value} (F : Fn s₀ env.locals m P s) (hh : A.handled = none) (hl : IsL P l vs)
    (J : Nat → (Str → Option Value) → Prop) (h0 : J 0 m)
    (turn : ∀ k v t m' Q s', vs[k]? = some v → J k m' → P.le Q → 0 < t → Fn s₀ env.locals (put (put m' xi (.int (k : Nat) t)) xv v) Q s' →
      wpAny (model prog w) A (execs body env) (fun f s₃ => match f with
        | .next | .cont => ∃ m'' Q'', J (k + 1) m'' ∧ Q.le Q'' ∧ Fn s₀ env.locals m'' Q'' s₃
        | .brk => R (.ok .next) s₃
        | .ret v => R (.ok (.ret v)) s₃) (notedBy (model prog w) A env fun e s' => R (.error e) s') s')
    (done : ∀ m' Q s', J vs.length m' → P.le Q → Fn s₀ env.locals m' Q s' →
      wpAny (model prog w) A (execs orelse env) (fun f s₃ => R (.ok f) s₃) (notedBy (model prog w) A env fun e s' => R (.error e) s') s')
    (hk : env.scope.kind = .function := by rfl) (hxi : env.kindOf xi = some .local := by rfl) (hxv : env.kindOf xv = some .local := by rfl) :
    wpAny (model prog w) A (call (.type "enumerate") [.ref l]) (fun x s₁ => wpAny (model prog w) A (pyIter x) (fun it s₂ => codeAny (model prog w) A (.forLoop (.Tuple [.Name xi pi, .Name xv pv] x1 pt) it body orelse env) R s₂) E s₁) E s := by
  obtain ⟨n, hlo⟩ := id hl
  refine call_enumerate_1 (F.keep _ _ hlo) fun h' he hit hz hk' => ?_
  refine wpAny_pyIter_enum he ?_
  have z0 : s.heap.objs.size ≤ s.heap.objs.size := Nat.le_refl _
  have z1 : s.heap.objs.size ≤ s.heap.objs.size + 1 := Nat.le_succ _
  have pi0 : P s.heap.objs.size = none := F.fresh z0
  have pe0 : P (s.heap.objs.size + 1) = none := F.fresh z1
  have bi0 : s₀.heap.get? s.heap.objs.size = none := F.notBase z0
  have be0 : s₀.heap.get? (s.heap.objs.size + 1) = none := F.notBase z1
  have Li : env.locals ≠ s.heap.objs.size := Nat.ne_of_lt F.lt
  have Le : env.locals ≠ s.heap.objs.size + 1 := Nat.ne_of_lt (Nat.lt_succ_of_lt F.lt)
  have G : Grew s { s with heap := h' } := ⟨⟨h', s.toks, rfl⟩, hk', by show _ ≤ h'.objs.size; omega, Nat.le_refl _⟩
  have F₁ := F.grew G
  have hne : s.heap.objs.size + 1 ≠ s.heap.objs.size := Nat.succ_ne_self _
  generalize s.heap.objs.size + 1 = e at *
  generalize s.heap.objs.size = it at *
  refine codeAny_forLoop_any (fun n s' => ∃ k old m' Q, n = vs.length + 1 - k ∧ k ≤ vs.length ∧ J k m' ∧ P.le Q ∧ Fn s₀ env.locals m' Q s' ∧ IsEnum s'.heap e it ((k : Nat) : Int) old ∧ s'.heap.IsListIter it l k ∧ Q e = none ∧ Q it = none) ?_ (vs.length + 1)
    ⟨0, .none, m, P, rfl, Nat.zero_le _, h0, PM.le_refl _, F₁, he, hit, pe0, pi0⟩
  rintro n s' ⟨k, old, m', Q, rfl, hk', hJ, hPQ, F', he', hit', qe, qi⟩
  have hlist := (hl.mono hPQ).isList F'.toOk
  cases hv : vs[k]? with
  | none =>
    have hkl : k = vs.length := by have := List.getElem?_eq_none_iff.mp hv; omega
    refine wpAny_pyNext_enum_end hh he' hit' hlist (by simpa using hv) fun h' hx => ?_
    have F'' := F'.change (W := [it]) (h' := h') (t := s'.toks) (by simpa using Li) (by simpa using bi0) (fun b o hb e => hx b o (by simpa using hb) e)
    exact done m' _ _ (hkl ▸ hJ) (PM.le_wo hPQ (by simpa using pi0)) F''
  | some v =>
    have hlt : k < vs.length := (List.getElem?_eq_some_iff.mp hv).1
    refine wpAny_pyNext_enum_item he' hit' hlist (by simpa using hv) hne fun h₁ heo hit₁ ht₁ hz₁ hk₁ => ?_
    have hsa : e < s'.heap.objs.size := Heap.lt_size he'
    have hia : it < s'.heap.objs.size := let ⟨_, ho, _⟩ := hit'; Heap.lt_size ho
    have F₂ := F'.change (W := [e, it]) (h' := h₁) (t := s'.toks + 1) (by simp [Le, Li]) (by simp [be0, bi0]) (fun b o hb x => by simp at hb; exact hk₁ b o hb.1 hb.2 x) (Nat.le_succ _)
    refine wpAny_letOwnedTupleGo_enum heo fun h₂ he₂ hs₂ => ?_
    have F₃ := F₂.change (W := [e]) (h' := h₂) (t := s'.toks + 1) (by simp [Le]) (by simp [be0]) (fun b o hb x => by simp at hb; exact hs₂.extBut b o hb x) (Nat.le_refl _)
    replace hs₂ : Heap.SameBut e h₁ h₂ := hs₂
    have ht₂ : h₂.IsTuple s'.heap.objs.size #[.int (k : Nat) s'.toks, v] := ⟨_, (hs₂.2 _ (Nat.ne_of_gt hsa)).trans ht₁, rfl, _, rfl⟩
    have hz₂ : h₂.objs.size = s'.heap.objs.size + 1 := hs₂.1.trans hz₁
    have hit₂ : h₂.IsListIter it l (k + 1) := hit₁.extBut hs₂.extBut (Ne.symm hne)
    refine wpAny_assign_Tuple hh ht₂ rfl rfl fun h₃ hx₃ => ?_
    replace hx₃ : Heap.ExtBut h₂.objs.size h₂ h₃ := hx₃
    have F₄ := F₃.change (W := [h₂.objs.size]) (h' := h₃) (t := s'.toks + 1) (by simp; exact Nat.ne_of_lt F₃.lt) (by simp; exact F₃.notBase (Nat.le_refl _)) (fun b o hb x => by simp at hb; exact hx₃ b o hb x) (Nat.le_refl _)
    have he₃ : IsEnum h₃ e it ((k : Int) + 1) v := hx₃ _ _ (by rw [hz₂]; exact Nat.ne_of_lt (Nat.lt_succ_of_lt hsa)) he₂
    have hit₃ : h₃.IsListIter it l (k + 1) := hit₂.extBut hx₃ (by rw [hz₂]; exact Nat.ne_of_lt (Nat.lt_succ_of_lt hia))
    show wpAny _ A (do holding [v] (assign (.Name xi pi) env (.int (k : Nat) s'.toks)); do holding [] (assign (.Name xv pv) env v); pure ()) _ _ _
    refine wpAny_bind (wpAny_holding (wpAny_assign_Name (wpAny_storeName_local hxi F₄.ns (fun h₄ hn₄ hs₄ => ?_) (by rw [hk]; rfl))))
    have F₅ := F₄.own (t := s'.toks + 1 + 1) hn₄ hs₄ (Nat.le_succ _)
    refine wpAny_bind (wpAny_holding (wpAny_assign_Name (wpAny_storeName_local hxv F₅.ns (fun h₅ hn₅ hs₅ => wpAny_pure ?_) (by rw [hk]; rfl))))
    have F₆ := F₅.own (t := s'.toks + 1 + 1 + 1) hn₅ hs₅ (Nat.le_succ _)
    have up : ∀ b o, b ≠ env.locals → h₃.get? b = some o → h₅.get? b = some o := fun b o hb x => hs₅.extBut b o hb (hs₄.extBut b o hb x)
    have he₅ : IsEnum h₅ e it ((k : Int) + 1) v := up _ _ (Ne.symm Le) he₃
    obtain ⟨oi, hoi, hci, hdi⟩ := hit₃
    have hoi₅ := up _ _ (Ne.symm Li) hoi
    have F₇ := (F₆.learn (a := e) he₅ (Ne.symm Le)).learn (a := it) hoi₅ (Ne.symm Li)
    refine wpAny_mono (turn k v s'.toks m' _ _ hv hJ ?_ F'.tok F₇) (fun f s₄ hf => ?_) fun _ _ e => e
    · refine PM.le_set_of (PM.le_set_of (PM.le_wo (PM.le_wo (PM.le_wo hPQ ?_) ?_) ?_) pe0) pi0
      · simp [pe0, pi0]
      · simp [pe0]
      · intro a ha
        simp at ha
        subst ha
        cases q : P h₂.objs.size with
        | none => rfl
        | some o =>
          exact absurd (F'.toOk.lt (hPQ _ _ q)) (Nat.not_lt.mpr (by rw [hz₂]; exact Nat.le_succ _))
    have nx : (∃ m'' Q'', J (k + 1) m'' ∧ PM.le ((((((Q.wo [e, it]).wo [e]).wo [h₂.objs.size]).set e { cls := .type "enumerate", dict := none, data := .fields #[.none, .bool false, .ref it, rawInt ((k : Int) + 1), .none, v], slots := #[] }).set it oi)) Q'' ∧ Fn s₀ env.locals m'' Q'' s₄) → ∃ n', n' < vs.length + 1 - k ∧ ∃ k old m' Q, n' = vs.length + 1 - k ∧ k ≤ vs.length ∧ J k m' ∧ P.le Q ∧ Fn s₀ env.locals m' Q s₄ ∧ IsEnum s₄.heap e it ((k : Nat) : Int) old ∧ s₄.heap.IsListIter it l k ∧ Q e = none ∧ Q it = none := by
      rintro ⟨m'', Q'', hJ', hQ', F₈⟩
      have F₉ : Fn s₀ env.locals m'' (Q''.wo [e, it]) s₄ := F₈.change (W := [e, it]) (h' := s₄.heap) (t := s₄.toks) (by simp [Le, Li]) (by simp [be0, bi0]) (fun _ _ _ x => x) (Nat.le_refl _)
      have hPQ' : P.le (Q''.wo [e, it]) := by
        refine PM.le_wo (PM.le_trans ?_ hQ') (by simp [pe0, pi0])
        refine PM.le_set_of (PM.le_set_of (PM.le_wo (PM.le_wo (PM.le_wo hPQ ?_) ?_) ?_) pe0) pi0
        · simp [pe0, pi0]
        · simp [pe0]
        · intro a ha
          simp at ha
          subst ha
          cases q : P h₂.objs.size with
          | none => rfl
          | some o =>
            exact absurd (F'.toOk.lt (hPQ _ _ q)) (Nat.not_lt.mpr (by rw [hz₂]; exact Nat.le_succ _))
      have ge := F₈.keep e _ (hQ' e _ (by rw [PM.set_ne hne]; exact PM.set_self _ _ _))
      have gi := F₈.keep it _ (hQ' it _ (PM.set_self _ _ _))
      refine ⟨vs.length + 1 - (k + 1), by omega, k + 1, v, m'', Q''.wo [e, it], rfl, hlt, hJ', hPQ', F₉, ?_, ⟨oi, gi, hci, hdi⟩, PM.wo_mem (by simp), PM.wo_mem (by simp)⟩
      have e1 : ((k + 1 : Nat) : Int) = (k : Int) + 1 := by push_cast; rfl
      rw [e1]; exact ge
    cases f with
    | next => exact nx hf
    | cont => exact nx hf
    | brk => exact hf
    | ret v => exact hf
end
end Mine
end

section
open PySem PySem.W PyProof.Rows PySem.Calls PySem.SeqAt
set_option Elab.async false
set_option maxRecDepth 100000
namespace Mine
/-- s' is s with more objects; the frames fs may have other slots -/
structure GrewX (fs : List Addr) (s s' : Shared) : Prop where
  same : ∃ h tk, s' = { s with heap := h, toks := tk }
  keep : ∀ b o, b ∉ fs → s.heap.get? b = some o → s'.heap.get? b = some o
  slots : ∀ b o, b ∈ fs → s.heap.get? b = some o → ∃ sl, s'.heap.get? b = some { o with slots := sl }
  size : s.heap.objs.size ≤ s'.heap.objs.size
  tok : 0 < s'.toks

theorem Grew.x {s s' : Shared} (G : Grew s s') (h0 : 0 < s.toks) (fs : List Addr) : GrewX fs s s' := ⟨G.same, fun b o _ e => G.keep b o e, fun b o _ e => ⟨o.slots, G.keep b o e⟩, G.size, Nat.lt_of_lt_of_le h0 G.tok⟩
theorem GrewX.trans {fs : List Addr} {s s' s'' : Shared} (a : GrewX fs s s') (b : GrewX fs s' s'') : GrewX fs s s'' := by
  obtain ⟨⟨h, tk, rfl⟩, k, l, z, _⟩ := a
  obtain ⟨⟨h', tk', rfl⟩, k', l', z', t'⟩ := b
  refine ⟨⟨h', tk', rfl⟩, fun b o hb e => k' b o hb (k b o hb e), fun b o hb e => ?_, Nat.le_trans z z', t'⟩
  obtain ⟨sl, e1⟩ := l b o hb e
  obtain ⟨sl', e2⟩ := l' b _ hb e1
  exact ⟨sl', e2⟩
theorem GrewX.drop {fs : List Addr} {L : Addr} {s s' : Shared} (a : GrewX (L :: fs) s s') (hL : s.heap.get? L = none) : GrewX fs s s' :=
  ⟨a.same, fun b o hb e => a.keep b o (by
    intro h
    rcases List.mem_cons.mp h with q | q
    · rw [q, hL] at e; cases e
    · exact hb q) e, fun b o hb e => a.slots b o (List.mem_cons_of_mem _ hb) e, a.size, a.tok⟩
theorem GrewX.any {fs : List Addr} {s s' : Shared} (a : GrewX fs s s') {b : Addr} {o : Obj} (e : s.heap.get? b = some o) : ∃ sl, s'.heap.get? b = some { o with slots := sl } := by
  by_cases h : b ∈ fs
  · exact a.slots b o h e
  · exact ⟨o.slots, a.keep b o h e⟩
theorem GrewX.ns {fs : List Addr} {s s' : Shared} (a : GrewX fs s s') {b : Addr} {m : Str → Option Value} (h : s.heap.Ns b m) : s'.heap.Ns b m := by
  obtain ⟨o, es, ep, ho, hd, r⟩ := h
  obtain ⟨sl, e⟩ := a.any ho
  exact ⟨_, es, ep, e, hd, r⟩
theorem GrewX.fun {fs : List Addr} {s s' : Shared} (a : GrewX fs s s') {l : List Env} (h : s.heap.FunFrames {} l) : s'.heap.FunFrames {} l :=
  h.of_keeps fun b o e _ => let ⟨_, e'⟩ := a.any e; ⟨_, e', rfl⟩

abbrev framesOf (l : List Env) : List Addr := l.filterMap (·.frame)

/-- an exception of the class cls flies, made since s -/
structure Fly (s : Shared) (l : List Env) (cls : String) (tr : Bool) (v : Value) (s' : Shared) (ctx : Value := .none) : Prop where
  grew : GrewX (framesOf l) s s'
  ff : s'.heap.FunFrames {} l
  exc : ∃ e oe vs, v = .ref e ∧ s.heap.get? e = none ∧ s'.heap.get? e = some oe ∧ oe.cls = .type cls ∧ oe.data = .fields vs ∧ 1 < vs.size ∧ vs[2]? = some ctx ∧
    ((tr = false ∧ vs[1]? = some .none) ∨ ∃ T oT ts, vs[1]? = some (.ref T) ∧ s.heap.get? T = none ∧ T ≠ e ∧ s'.heap.get? T = some oT ∧ oT.data = .fields ts ∧ 3 < ts.size)

section
variable {M : Model} {A : Around} {E : Value → Shared → Prop} {s s₁ : Shared} {env : Env} {outer : List Env} {L : Addr} {cls : String} {tr : Bool} {v ctx : Value} {Q : Unit → Shared → Prop}

/-- not a frame: its data are fields -/
theorem notFrame {h : Heap} {l : List Env} (ff : h.FunFrames {} l) {e : Addr} {oe : Obj} {vs : Array Value} (he : h.get? e = some oe) (hd : oe.data = .fields vs) : e ∉ framesOf l := fun hm => by
  obtain ⟨_, o, ho, hnf⟩ := ff.mem hm
  rw [he] at ho; injection ho with ho; subst ho; exact hnf vs hd

theorem entry {e : Addr} {oe : Obj} {vs : Array Value} {head : Value} {hadNext : Bool} (hfr : A.frames = some (env :: outer)) (hf : env.frame = some L)
    (G : GrewX (framesOf (env :: outer)) s s₁) (ff : s₁.heap.FunFrames {} (env :: outer)) (hn : s.heap.get? e = none) (he : s₁.heap.get? e = some oe) (hc : oe.cls = .type cls) (hd : oe.data = .fields vs) (hsz : 1 < vs.size) (hcx : vs[2]? = some ctx)
    (hQ : ∀ s₂, Fly s (env :: outer) cls true (.ref e) s₂ ctx → Q () s₂) :
    wpAny M A (do let a ← frameOf env; let pl ← entryPlaceOf L hadNext; let b ← EntryCells.newEntry head a .none (rawInt L) .none pl; setField (.ref e) 1 b) Q E s₁ := by
  have hene := notFrame ff he hd
  refine wpAny_bind (wpAny_frameOf_fun hfr ff hf fun h₁ hs₁ => ?_)
  refine wpAny_bind (wpAny_entryPlaceOf fun pl hpl => ?_)
  unfold EntryCells.newEntry newFields
  refine wpAny_bind (wpAny_newObj_type ?_ (hpl.sizeOk5 _ _ _ _ _))
  have he₁ : h₁.get? e = some oe := (hs₁.2.1 e hene).trans he
  generalize hO : ({ cls := .type "traceback", dict := none, data := .fields ([head, .ref L, .none, rawInt L, .none] ++ (if pl.isEmpty then List.replicate 6 Value.none else pl)).toArray } : Obj) = O
  have he₂ := Heap.get?_push_of_some (h := h₁) O he₁
  refine wpAny_setField he₂ hd hsz (hQ _ ?_)
  have hTe : h₁.objs.size ≠ e := Nat.ne_of_gt (Heap.lt_size he₁)
  have hd₃ := Obj.data_mapFields hd (·.setIfInBounds 1 (Value.ref h₁.objs.size))
  have he₃ := Heap.get?_update_self (Obj.mapFields (·.setIfInBounds 1 (Value.ref h₁.objs.size))) he₂ (Obj.isFreed_of_fields hd₃)
  have hOf : O.isFreed = false := by subst hO; rfl
  have hT₃ := (Heap.get?_update_other (h₁.push O) (Obj.mapFields (·.setIfInBounds 1 (Value.ref h₁.objs.size))) (Ne.symm hTe)).trans (Heap.get?_push_size h₁ hOf)
  have keep : ∀ b o, b ≠ e → h₁.get? b = some o → ((h₁.push O).update e (Obj.mapFields (·.setIfInBounds 1 (Value.ref h₁.objs.size)))).get? b = some o := fun b o hbe hb => by
    rw [Heap.get?_update_other _ _ (Ne.symm hbe)]
    exact Heap.get?_push_of_some _ hb
  have hns : ∀ b o, s.heap.get? b = some o → b ≠ e := fun b o hb q => by rw [q, hn] at hb; cases hb
  have hsz1 : h₁.objs.size = s₁.heap.objs.size := hs₁.1
  refine ⟨⟨?_, fun b o hb hbo => ?_, fun b o hb hbo => ?_, ?_, G.tok⟩, ?_, ?_⟩
  · obtain ⟨h, tk, rfl⟩ := G.same
    exact ⟨_, tk, rfl⟩
  · exact keep b o (hns b o hbo) ((hs₁.2.1 b hb).trans (G.keep b o hb hbo))
  · obtain ⟨sl, h1⟩ := G.slots b o hb hbo
    obtain ⟨sl', h2⟩ := hs₁.2.2 b _ h1
    exact ⟨sl', keep b _ (hns b o hbo) h2⟩
  · show _ ≤ ((h₁.push O).update e _).objs.size
    rw [Heap.size_after_update, Heap.size_push, hsz1]
    exact Nat.le_succ_of_le G.size
  · refine ff.of_keeps fun b o hb hnf => ?_
    obtain ⟨sl, h2⟩ := hs₁.2.2 b o hb
    have hbe : b ≠ e := fun q => by rw [q, he] at hb; injection hb with hb; subst hb; exact hnf vs hd
    exact ⟨_, keep b _ hbe h2, rfl⟩
  · refine ⟨e, _, _, rfl, hn, he₃, (Obj.cls_mapFields _ _).trans hc, hd₃, by simpa using hsz, by simpa [Array.getElem?_setIfInBounds] using hcx, .inr ⟨h₁.objs.size, O, _, by simp [hsz], ?_, hTe, hT₃, by subst hO; rfl, by simp only [List.size_toArray, List.length_append, List.length_cons, List.length_nil]; omega⟩⟩
    cases q : s.heap.get? h₁.objs.size with
    | none => rfl
    | some o =>
      have := Heap.lt_size q
      have h3 := G.size
      exact absurd this (Nat.not_lt.mpr (by rw [hsz1]; exact h3))

theorem note (hfr : A.frames = some (env :: outer)) (hf : env.frame = some L) (X : Fly s (env :: outer) cls tr v s₁ ctx) (hQ : ∀ s₂, Fly s (env :: outer) cls true v s₂ ctx → Q () s₂) : wpAny M A (noteFrame v env) Q E s₁ := by
  obtain ⟨G, ff, e, oe, vs, rfl, hn, he, hc, hd, hsz, hcx, hx⟩ := X
  unfold noteFrame
  simp only [hf]
  rcases hx with ⟨_, h1⟩ | ⟨T, oT, ts, h1, hnT, hTe, hT, hdT, h3⟩
  · refine wpAny_bind (wpAny_field he hd h1 ?_)
    rw [if_neg (by decide)]
    exact entry hfr hf G ff hn he hc hd hsz hcx hQ
  · refine wpAny_bind (wpAny_field he hd h1 ?_)
    rw [if_pos (show (Value.ref T != Value.none) = true from by simp)]
    refine wpAny_bind (wpAny_field hT hdT (getElem?_pos ts 3 h3) ?_)
    by_cases q : (ts[3] == rawInt L) = true
    · rw [if_pos q]
      exact wpAny_pure (hQ _ ⟨G, ff, e, oe, vs, rfl, hn, he, hc, hd, hsz, hcx, .inr ⟨T, oT, ts, h1, hnT, hTe, hT, hdT, h3⟩⟩)
    · rw [if_neg q]
      refine wpAny_bind (wpAny_setField hT hdT h3 ?_)
      have other : ∀ b, b ≠ T → (s₁.heap.update T (Obj.mapFields (·.setIfInBounds 3 Value.none))).get? b = s₁.heap.get? b := fun b hb => Heap.get?_update_other _ _ (Ne.symm hb)
      have hTf := notFrame ff hT hdT
      refine entry (s := s) hfr hf ⟨?_, fun b o hb hbo => ?_, fun b o hb hbo => ?_, ?_, G.tok⟩ (ff.of_keeps fun b o hb hnf => ⟨o, (other b ?_).trans hb, rfl⟩) hn ((other e (Ne.symm hTe)).trans he) hc hd hsz hcx hQ
      · obtain ⟨h, tk, rfl⟩ := G.same
        exact ⟨_, tk, rfl⟩
      · exact (other b fun z => by rw [z, hnT] at hbo; cases hbo).trans (G.keep b o hb hbo)
      · obtain ⟨sl, h2⟩ := G.slots b o hb hbo
        exact ⟨sl, (other b fun z => hTf (z ▸ hb)).trans h2⟩
      · show _ ≤ (s₁.heap.update T _).objs.size
        rw [Heap.size_after_update]; exact G.size
      · intro z; rw [z, hT] at hb; injection hb with hb; subst hb; exact hnf ts hdT

theorem flight {l : List Env} {fl : Option Addr} (X : Fly s l cls true v s₁ ctx) (hQ : ∀ s₂, Fly s l cls true v s₂ ctx → Q () s₂) : wpAny M A (setFlight v fl) Q E s₁ := by
  obtain ⟨G, ff, e, oe, vs, rfl, hn, he, hc, hd, hsz, hcx, hx⟩ := X
  rcases hx with ⟨hf, _⟩ | ⟨T, oT, ts, h1, hnT, hTe, hT, hdT, h3⟩
  · cases hf
  have other : ∀ b, b ≠ T → (s₁.heap.update T (Obj.mapFields (·.setIfInBounds 3 (fl.elim Value.none fun f => rawInt f)))).get? b = s₁.heap.get? b :=
    fun b hb => Heap.get?_update_other _ _ (Ne.symm hb)
  have hTf := notFrame ff hT hdT
  unfold setFlight
  refine wpAny_bind (wpAny_field he hd h1 ?_)
  rw [if_pos (show (Value.ref T != Value.none) = true from by simp)]
  refine wpAny_setField hT hdT h3 (hQ _ ⟨⟨?_, fun b o hb hbo => ?_, fun b o hb hbo => ?_, ?_, G.tok⟩, ff.of_keeps fun b o hb hnf => ⟨o, (other b ?_).trans hb, rfl⟩, e, oe, vs, rfl, hn, (other e (Ne.symm hTe)).trans he, hc, hd, hsz, hcx, .inr ⟨T, _, _, h1, hnT, hTe, Heap.get?_update_self _ hT (Obj.isFreed_of_fields (Obj.data_mapFields hdT _)), Obj.data_mapFields hdT _, by simpa using h3⟩⟩)
  · obtain ⟨h, tk, rfl⟩ := G.same
    exact ⟨_, tk, rfl⟩
  · exact (other b fun z => by rw [z, hnT] at hbo; cases hbo).trans (G.keep b o hb hbo)
  · obtain ⟨sl, h2⟩ := G.slots b o hb hbo
    exact ⟨sl, (other b fun z => hTf (z ▸ hb)).trans h2⟩
  · show _ ≤ (s₁.heap.update T _).objs.size
    rw [Heap.size_after_update]; exact G.size
  · intro z; rw [z, hT] at hb; injection hb with hb; subst hb; exact hnf ts hdT

theorem came {l : List Env} {E' : Value → Shared → Prop} (X : Fly s l cls true v s₁ ctx) (hQ : ∀ s₂, Fly s l cls true v s₂ ctx → E' v s₂) : cameBackBy M A env E' v s₁ := by
  have X' := X
  obtain ⟨G, ff, e, oe, vs, rfl, hn, he, hc, hd, hsz, hcx, hx⟩ := X
  rcases hx with ⟨hf, _⟩ | ⟨T, oT, ts, h1, hnT, hTe, hT, hdT, h3⟩
  · cases hf
  unfold cameBackBy
  refine wpAny_bind (wpAny_field he hd h1 ?_)
  rw [if_neg (by simp)]
  exact flight X' hQ

theorem leave (hfr : A.frames = some (env :: outer)) (hf : env.frame = some L) (X : Fly s (env :: outer) cls tr v s₁ ctx) (hQ : ∀ s₂, Fly s (env :: outer) cls true v s₂ ctx → Q () s₂) : wpAny M A (leaving env v) Q E s₁ := by
  unfold leaving
  exact wpAny_bind (note hfr hf X fun s₂ X₂ => flight X₂ hQ)
theorem Fly.out {L : Addr} (hf : env.frame = some L) (hL : s.heap.get? L = none) (X : Fly s (env :: outer) cls tr v s₁ ctx) : Fly s outer cls tr v s₁ ctx := by
  have e : framesOf (env :: outer) = L :: framesOf outer := by simp [framesOf, hf]
  have G := X.grew
  rw [e] at G
  exact ⟨G.drop hL, X.ff.2.2, X.exc⟩
end
end Mine
end

section
open PySem PySem.W PyProof.Rows PySem.Calls PySem.SeqAt
set_option Elab.async false
set_option maxRecDepth 100000
namespace Mine
section
variable {s₀ s s₂ : Shared} {P Q : PM} {L : Addr} {m : Str → Option Value} {env : Env} {outer : List Env} {cls : String} {e : Addr} {h' : Heap}
theorem Fn.fly (F : Fn s₀ L m Q s₂) (O : Ok s₀ P s) (old : PM.le s.heap.get? Q) (above : s.heap.objs.size = L) (hff : s.heap.FunFrames {} outer) (hf : env.frame = some L) (hk : env.scope.kind ≠ .module)
    (hx : Heap.NewExc s₂.heap h' e cls) : Fly s (env :: outer) cls false (.ref e) { s₂ with heap := h' } := by
  obtain ⟨kx, nx, oe, a0, he, hc, hd⟩ := hx
  have all : ∀ b o, s.heap.get? b = some o → h'.get? b = some o := fun b o q => kx b o (F.keep b o (old b o q))
  obtain ⟨oL, es, ep, hoL, hdL, r⟩ := F.ns
  have hL' := kx _ _ hoL
  refine ⟨⟨?_, fun b o _ q => all b o q, fun b o _ q => ⟨o.slots, all b o q⟩, ?_, F.tok⟩, ⟨hk, ⟨L, oL, hf, rfl, hL', fun vs q => by rw [hdL] at q; cases q⟩, hff.of_keeps fun b o q _ => ⟨o, all b o q, rfl⟩⟩, e, oe, _, rfl, ?_, he, hc, hd, by simp, rfl, .inl ⟨rfl, rfl⟩⟩
  · obtain ⟨h₁, tk₁, rfl⟩ := O.same
    obtain ⟨h₂, tk₂, rfl⟩ := F.same
    exact ⟨h', tk₂, rfl⟩
  · rw [above]; exact Nat.le_of_lt (Heap.lt_size hL')
  · cases q : s.heap.get? e with
    | none => rfl
    | some o => have := F.keep e o (old e o q); rw [nx] at this; cases this
end
theorem findIdx_at {α : Type} {l : List α} {j : Nat} {q : α} {p : α → Bool} (hq : l[j]? = some q) (hno : (l.take j).findIdx? p = none) (hp : p q = true) : l.findIdx? p = some j := by
  have hj : j < l.length := (List.getElem?_eq_some_iff.mp hq).1
  have hd : l.drop j = q :: l.drop (j + 1) := by
    rw [List.drop_eq_getElem_cons hj]
    congr 1
    exact (List.getElem?_eq_some_iff.mp hq).2
  have e := List.take_append_drop j l
  rw [← e, List.findIdx?_append, hno, hd, List.findIdx?_cons, hp]
  simp
  omega
end Mine
end

section
open PySem PySem.W PyProof.Rows PySem.Calls PySem.SeqAt
set_option Elab.async false
set_option maxRecDepth 100000
namespace Mine
abbrev tobj (vs : List Value) (n : Nat := 0) : Obj := { cls := .type "tuple", dict := none, data := .seq vs.toArray n, slots := #[] }
section
variable {M : Model} {A : Around} {E : Value → Shared → Prop} {s : Shared}
theorem mkTup {vs : List Value} {Q : Value → Shared → Prop} (h : Q (.ref s.heap.objs.size) { s with heap := s.heap.push (tobj vs) }) (hsz : vs.length ≤ sizeLine) : wpAny M A (newTuple vs) Q E s :=
  wpAny_newObj_type h (by show vs.toArray.size ≤ sizeLine; rw [List.size_toArray]; exact hsz)
theorem mkList {vs : List Value} {Q : Value → Shared → Prop} (h : Q (.ref s.heap.objs.size) { s with heap := s.heap.push (lobj vs) }) (hsz : vs.length ≤ sizeLine) : wpAny M A (newList vs) Q E s :=
  wpAny_newObj_type h (by show vs.toArray.size ≤ sizeLine; rw [List.size_toArray]; exact hsz)
end
theorem sub_str_str : isSubtype (.type "str") (.type "str") = pure true := by rw [isSubtype_type]; kernel_rfl
theorem ty_type_str : typeOf (.type "str") = pure (.type "type") := by kernel_rfl
theorem sub_tuple_tuple : isSubtype (.type "tuple") (.type "tuple") = pure true := by rw [isSubtype_type]; kernel_rfl
theorem kind_nested : builtinKind "issubclass.nested" = none := by decide +kernel
theorem plain_nested : plainId "issubclass.nested" = true := by decide +kernel
section
variable {prog : Program} {w : World} {A : Around} {E : Value → Shared → Prop} {s : Shared}
theorem issub_str_nested {dep : Int} {tk : Tok} {Q : PySem.Fin → Shared → Prop} (hq : Q (.done (.ret (.bool true))) s) : wpAny (model prog w) A (Builtin.«issubclass.nested» ⟨[.type "str", .type "str", .int dep tk], []⟩) Q E s := by
  have h1 := sub_str_str
  have h2 := ty_type_str
  unfold Builtin.«issubclass.nested»
  wp_walk
  exact hq
theorem code_function {id : String} {b : Builtin} {args : List Value} {R : Result → Shared → Prop} (kind : builtinKind id = none) (plain : plainId id = true) (entry : entryFor table id = some b) (ok : argsOk id ⟨args, []⟩)
    (h : wpAny (model prog w) A.in1 (b ⟨args, []⟩) (fun fin s' => match fin with | .done f => R (.ok f) s' | .again c' => c'.quiet = true ∧ codeAny (model prog w) A c' R s') (fun e s' => R (.error e) s') s) :
    codeAny (model prog w) A (.call (.builtin id) ⟨args, []⟩) R s := by
  refine codeAny_call_builtin plain entry ?_
  simp only [checkBuiltinCall, kind]
  cases hsig : Manifest.signature? id with
  | none => exact wpAny_pure h
  | some sig =>
    simp only [argsOk, hsig] at ok
    have h2 : Bind.checkArgs id sig ⟨args, []⟩ = pure () := ok
    show wpAny _ _ (Bind.checkArgs id sig ⟨args, []⟩) _ _ s
    rw [h2]; exact wpAny_pure h
theorem args_nested (a b c : Value) : argsOk "issubclass.nested" ⟨[a, b, c], []⟩ := by unfold argsOk; kernel_rfl
theorem issub_str {t : Addr} {n : Nat} {Q : Value → Shared → Prop} (ht : s.heap.get? t = some (tobj [.type "str", .type "bytes"] n)) (hq : Q (.bool true) s) :
    wpAny (model prog w) A (call (.builtin "issubclass") [.type "str", .ref t]) Q E s := by
  refine call_issubclass (S := fun A R s => s.heap.get? t = some (tobj [.type "str", .type "bytes"] n) ∧ R (.ok (.ret (.bool true))) s) (fun prog w A R s ⟨ht, hR⟩ => issubclass_outer ?_) ⟨ht, hq⟩
  obtain ⟨h, g, d, tk, os⟩ := s
  have hT : (⟨h, g, d, tk, os⟩ : Shared).TypeIs (.ref t) "tuple" := ⟨_, ht, rfl⟩
  have h3 := sub_tuple_tuple
  unfold Builtin.«issubclass.nested»
  wp_walk
  refine code_function kind_nested plain_nested PySem.F.entry_issubclass_nested (args_nested _ _ _) ?_
  refine issub_str_nested (dep := 0 + 1) (tk := 0) ?_
  wp_walk
  exact hR
end
end Mine
end

section
open PySem PySem.W PyProof.Rows PySem.Calls PySem.SeqAt
open PySem.AutoSeq1 (wpAny_loadPart')
set_option Elab.async false
set_option maxRecDepth 100000
namespace Mine
theorem mro_map : mroOf (.type "map") = pure [.type "map", .type "object"] := by rw [mroOf_type]; kernel_rfl
theorem lookup_map_new : typeLookup (.type "map") "__new__" = pure (some (.builtin "map.__new__")) := by rw [typeLookup_type, builtinLookup_eq_fast]; kernel_rfl
theorem slot_map_init : Slot "map" "__init__" "object.__init__" :=
  .of (owner := "object") (n := "__init__") (by rw [typeLookup_type, builtinLookup_eq_fast]; kernel_rfl) (by decide +kernel) (by decide +kernel) (by decide +kernel)
    (by first | exact .inl (by decide +kernel) | exact .inr (by decide +kernel)) (by rw [isSubtype_type]; kernel_rfl)
theorem slot_map_next : Slot "map" "__next__" "map.__next__" :=
  .of (owner := "map") (n := "__next__") (by rw [typeLookup_type, builtinLookup_eq_fast]; kernel_rfl) (by decide +kernel) (by decide +kernel) (by decide +kernel)
    (by first | exact .inl (by decide +kernel) | exact .inr (by decide +kernel)) (by rw [isSubtype_type]; kernel_rfl)
theorem slot_map_iter : Slot "map" "__iter__" "map.__iter__" :=
  .of (owner := "map") (n := "__iter__") (by rw [typeLookup_type, builtinLookup_eq_fast]; kernel_rfl) (by decide +kernel) (by decide +kernel) (by decide +kernel)
    (by first | exact .inl (by decide +kernel) | exact .inr (by decide +kernel)) (by rw [isSubtype_type]; kernel_rfl)
theorem called_map : TypeCalled "map" "map.__new__" "object.__init__" :=
  ⟨by decide +kernel, by decide +kernel, ⟨_, _, mro_map⟩, madeBy_type mro_map lookup_map_new (by decide +kernel), by decide +kernel, by rw [isSubtype_type]; kernel_rfl, slot_map_init⟩
theorem typeCall_map_2 (a b : Value) : checkTypeCall "map" ⟨[a, b], []⟩ = pure () := by kernel_rfl
theorem newCall_map_2 (a b : Value) : checkBuiltinCall "map.__new__" ⟨[.type "map", a, b], []⟩ = pure () := by kernel_rfl
theorem args_object_init_3 (a b c : Value) : argsOk "object.__init__" ⟨[a, b, c], []⟩ := by unfold argsOk; kernel_rfl
theorem entry_map_new : entryFor table "map.__new__" = some Builtin.«map.__new__» := entryFor_of_tree (by kernel_rfl)
theorem entry_map_next : entryFor table "map.__next__" = some Builtin.«map.__next__» := entryFor_of_tree (by kernel_rfl)
theorem args_map_next (a : Value) : argsOk "map.__next__" ⟨[a], []⟩ := by unfold argsOk; kernel_rfl
theorem args_map_iter (a : Value) : argsOk "map.__iter__" ⟨[a], []⟩ := by unfold argsOk; kernel_rfl
theorem entry_map_iter : entryFor table "map.__iter__" = some Builtin.«dict_keyiterator.__iter__» :=
  entryFor_alias (id' := "dict_keyiterator.__iter__") (by kernel_rfl) (by first | rfl | decide +kernel) (by decide +kernel) (by kernel_rfl)
theorem sub_map : isSubtype (.type "map") (.type "map") = pure true := by rw [isSubtype_type]; kernel_rfl
abbrev iobj (l : Addr) (k : Nat) : Obj := { cls := .type "list_iterator", data := .fields #[.ref l, .int k 0] }
abbrev mobj (tu f : Addr) : Obj := { cls := .type "map", dict := none, data := .fields #[.ref tu, .ref f], slots := #[] }

theorem meets_map_new (f l : Addr) (items : Array Value) :
    Meets (Builtin.«map.__new__» ⟨[.type "map", .ref f, .ref l], []⟩) (fun _ R s => s.heap.IsList l items ∧
      R (.ok (.ret (.ref (s.heap.objs.size + 1 + 1)))) { s with heap := ((s.heap.push (iobj l 0)).push (tobj [.ref s.heap.objs.size])).push (mobj (s.heap.objs.size + 1) f) }) :=
  .of_wp fun prog w A R s h => by
    obtain ⟨hp, g, d, tk, os⟩ := s; obtain ⟨hl, h⟩ := h
    have hsub := sub_map
    wp_walk using wpAny_pyIter_list hl
    refine ⟨_, rfl, ?_⟩
    simp only [Heap.size_push]
    exact h
end Mine
end

section
open PySem PySem.W PyProof.Rows PySem.Calls PySem.SeqAt
open PySem.AutoSeq1 (wpAny_loadPart')
set_option Elab.async false
set_option maxRecDepth 100000
namespace Mine
section
variable {prog : Program} {w : World} {A : Around} {E : Value → Shared → Prop} {s : Shared}
theorem forIn_one {α β : Type} (a : α) (b : β) (f : α → β → Sem (ForInStep β)) : forIn #[a] b f = (f a b >>= fun r => match r with | .done b => pure b | .yield b => pure b) := by
  rw [← Array.forIn_toList]
  show forIn [a] b f = _
  rw [List.forIn_cons]
  rfl
theorem call_map {f l : Addr} {items : Array Value} {Q : Value → Shared → Prop} (hl : s.heap.IsList l items)
    (h : Q (.ref (s.heap.objs.size + 1 + 1)) { s with heap := ((s.heap.push (iobj l 0)).push (tobj [.ref s.heap.objs.size])).push (mobj (s.heap.objs.size + 1) f) }) :
    wpAny (model prog w) A (call (.type "map") [.ref f, .ref l]) Q E s := by
  refine callType_new called_map (by decide) (typeCall_map_2 _ _) (newCall_map_2 _ _) (fun obj => args_object_init_3 obj _ _) entry_map_new (meets_map_new f l items) ⟨hl, ?_⟩
  refine ⟨⟨mobj (s.heap.objs.size + 1) f, ?_, rfl⟩, h⟩
  have hz : ((s.heap.push (iobj l 0)).push (tobj [.ref s.heap.objs.size])).objs.size = s.heap.objs.size + 1 + 1 := by rw [Heap.size_push, Heap.size_push]
  show (((s.heap.push (iobj l 0)).push (tobj [.ref s.heap.objs.size])).push (mobj (s.heap.objs.size + 1) f)).get? (s.heap.objs.size + 1 + 1) = _
  rw [← hz]
  exact Heap.get?_push_size _ rfl

theorem iter_map {I tu f : Addr} {Q : Value → Shared → Prop} (hI : s.heap.get? I = some (mobj tu f)) (h : Q (.ref I) s) : wpAny (model prog w) A (pyIter (.ref I)) Q E s := by
  have hT : s.TypeIs (.ref I) "map" := ⟨_, hI, rfl⟩
  refine wpAny_pyIter_slot hT slot_map_iter (wpAny_call_entry slot_map_iter hT entry_map_iter ?_ (args_map_iter _))
  show wpAny _ _ (ret (.ref I)) _ _ s
  exact wpAny_pure ⟨_, rfl, "map", _, hT, slot_map_next.lookup, h⟩

theorem next_map {I tu it l f : Addr} {n k : Nat} {items : Array Value} {x : Value} {Q : Option Value → Shared → Prop} (hI : s.heap.get? I = some (mobj tu f)) (htu : s.heap.get? tu = some (tobj [.ref it] n)) (hit : s.heap.IsListIter it l k) (hl : s.heap.IsList l items) (hx : items[k]? = some x)
    (hIt : I ≠ it)
    (h : ∀ h', h'.IsListIter it l (k + 1) → Heap.SameBut it s.heap h' → wpAny (model prog w) A.in1 (call (.ref f) [x]) (fun v s' => Q (some v) s') (fun _ _ => False) { s with heap := h' }) :
    wpAny (model prog w) A (pyNext (.ref I)) Q E s := by
  have hT : s.TypeIs (.ref I) "map" := ⟨_, hI, rfl⟩
  unfold pyNext
  refine wpAny_bind (wpAny_attempt (wpAny_callSpecial?_slot (name := Str.ofString "__next__") hT slot_map_next (wpAny_call_entry slot_map_next hT entry_map_next ?_ (args_map_next _))))
  obtain ⟨hp, g, d, tk, os⟩ := s
  unfold Builtin.«map.__next__»
  iterate 14 wp_step
  refine wpAny_bind (wpAny_seqItems htu rfl ?_)
  refine wpAny_bind ?_
  show wpAny _ _ (forIn #[Value.ref it] (#[] : Array Value) _) _ _ _
  rw [forIn_one]
  refine wpAny_bind (wpAny_bind (wpAny_holding (wpAny_nextOf_list_item hit hl hx fun h' hit' hs => wpAny_pure (wpAny_pure ?_))))
  have hI' : h'.get? I = some (mobj tu f) := (hs.2 I hIt).trans hI
  refine wpAny_bind (wpAny_field hI' rfl (x := .ref f) rfl ?_)
  refine wpAny_bind (wpAny_holding (wpAny_mono (h h' hit' hs) (fun v s' hQ => ?_) fun _ _ x => x.elim))
  refine wpAny_bind (wpAny_letGo ?_)
  exact wpAny_pure ⟨v, rfl, wpAny_pure hQ⟩

theorem end_map {I tu it l f : Addr} {n k : Nat} {items : Array Value} {Q : Option Value → Shared → Prop} (hh : A.handled = none) (hI : s.heap.get? I = some (mobj tu f)) (htu : s.heap.get? tu = some (tobj [.ref it] n)) (hit : s.heap.IsListIter it l k) (hl : s.heap.IsList l items) (hx : items[k]? = none)
    (h : ∀ h', Heap.ExtBut it s.heap h' → Q none { s with heap := h' }) :
    wpAny (model prog w) A (pyNext (.ref I)) Q E s := by
  have hT : s.TypeIs (.ref I) "map" := ⟨_, hI, rfl⟩
  unfold pyNext
  refine wpAny_bind (wpAny_attempt (wpAny_callSpecial?_slot (name := Str.ofString "__next__") hT slot_map_next (wpAny_call_entry slot_map_next hT entry_map_next ?_ (args_map_next _))))
  obtain ⟨hp, g, d, tk, os⟩ := s
  unfold Builtin.«map.__next__»
  iterate 14 wp_step
  refine wpAny_bind (wpAny_seqItems htu rfl ?_)
  refine wpAny_bind ?_
  show wpAny _ _ (forIn #[Value.ref it] (#[] : Array Value) _) _ _ _
  rw [forIn_one]
  refine wpAny_bind (wpAny_bind (wpAny_holding (wpAny_nextOf_list_end hh hit hl hx fun h' e he hc => ?_)))
  obtain ⟨o, ho, hc⟩ := hc
  refine wpAny_bind (wpAny_isInstance (T := "StopIteration") (b := true) ⟨o, ho, hc⟩ isSubtype_stop ?_)
  exact wpAny_pure (h h' he)
end
end Mine
end

section
open PySem PySem.W PyProof.Rows PySem.Calls PySem.SeqAt
open PySem.AutoSeq1 (wpAny_loadPart')
set_option Elab.async false
set_option maxRecDepth 100000
namespace Mine
theorem map_no_len : typeLookup (.type "map") (Str.ofString "__len__") = pure none := by rw [typeLookup_type, builtinLookup_eq_fast]; kernel_rfl
theorem map_no_hint : typeLookup (.type "map") (Str.ofString "__length_hint__") = pure none := by rw [typeLookup_type, builtinLookup_eq_fast]; kernel_rfl
section
variable {prog : Program} {w : World} {A : Around} {E : Value → Shared → Prop} {s : Shared}
theorem ext_step {S I : Addr} {res : Value} {R : Result → Shared → Prop}
    (h : wpAny (model prog w) A.in1 (pyNext (.ref I)) (fun r s₁ => match r with
      | none => R (.ok (.ret res)) s₁
      | some v => ∃ acc c, s₁.heap.get? S = some (lobj acc c) ∧ acc.length < sizeLine ∧ ∀ h' c', h'.get? S = some (lobj (acc ++ [v]) c') → Heap.SameBut S s₁.heap h' →
          codeAny (model prog w) A (.builtin "list.extend.loop" ⟨[.ref S, .ref I, res], []⟩) R { s₁ with heap := h' }) (fun e s' => R (.error e) s') s) :
    codeAny (model prog w) A (.builtin "list.extend.loop" ⟨[.ref S, .ref I, res], []⟩) R s := by
  refine codeAny_builtin F.entry_extend_loop ?_
  rw [Around.under_plainId F.plain_extend_loop _]
  show wpAny _ A.in1 (pyNext (.ref I) >>= _) _ _ s
  refine wpAny_bind (wpAny_mono h (fun r s₁ h₁ => ?_) fun _ _ x => x)
  cases r with
  | none => exact wpAny_pure h₁
  | some v =>
    obtain ⟨acc, c, hS, hlen, hk⟩ := h₁
    show wpAny _ A.in1 (updateSeq S (·.push v) >>= _) _ _ _
    refine wpAny_bind ?_
    have hg := Heap.get?_update_self (Obj.mapSeq (·.push v)) hS rfl
    refine wpAny_updateSeq hS rfl (wpAny_pure ⟨plainId_quiet F.plain_extend_loop _, hk _ (if (acc.toArray.push v).size == acc.toArray.size then c else c + 1) ?_ (Heap.SameBut.update ..)⟩) (by simp; omega) (by simp; omega)
    rw [hg]
    simp [Obj.mapSeq]
end
end Mine
end

section
open PySem PySem.W PyProof.Rows PySem.Calls PySem.SeqAt
open PySem.AutoSeq1 (wpAny_loadPart')
set_option Elab.async false
set_option maxRecDepth 100000
namespace Mine
theorem neAdd (n k : Nat) : n + (k + 1) ≠ n := by omega
/-- amid the drawing of two items out of a map -/
structure MapSt (s : Shared) (n : Nat) (l f : Addr) (k : Nat) (acc : List Value) (s' : Shared) : Prop where
  grew : Grew s s'
  hI : s'.heap.get? (n + 2) = some (mobj (n + 1) f)
  htu : s'.heap.get? (n + 1) = some (tobj [.ref n])
  hit : s'.heap.IsListIter n l k
  hS : ∃ c, s'.heap.get? (n + 3) = some (lobj acc c)
section
variable {prog : Program} {w : World} {A : Around} {E : Value → Shared → Prop} {s : Shared}
theorem Grew.but {s s' : Shared} {h' : Heap} {a : Addr} (G : Grew s s') (hs : Heap.SameBut a s'.heap h') (ha : s.heap.objs.size ≤ a) : Grew s { s' with heap := h' } := by
  obtain ⟨⟨h, tk, rfl⟩, k, z, t⟩ := G
  exact ⟨⟨h', tk, rfl⟩, fun b o e => (hs.2 b (Nat.ne_of_lt (Nat.lt_of_lt_of_le (Heap.lt_size e) ha))).trans (k b o e), by show _ ≤ h'.objs.size; rw [hs.1]; exact z, t⟩
theorem map_turn {l f : Addr} {k : Nat} {acc vs : List Value} {v : Value} {s' : Shared} {Q : Option Value → Shared → Prop} (M : MapSt s s.heap.objs.size l f k acc s') (hl : IsL s.heap.get? l vs) (hv : vs[k]? = some v)
    (hf : ∀ (s' : Shared) (Q' : Value → Shared → Prop), Grew s s' → (∀ s'', Grew s' s'' → Q' v s'') → wpAny (model prog w) A.in1 (call (.ref f) [v]) Q' (fun _ _ => False) s')
    (h : ∀ s'', MapSt s s.heap.objs.size l f (k + 1) acc s'' → Q (some v) s'') : wpAny (model prog w) A (pyNext (.ref (s.heap.objs.size + 2))) Q E s' := by
  obtain ⟨G, hI, htu, hit, c, hS⟩ := M
  obtain ⟨c2, hlo⟩ := hl
  have hll : s'.heap.IsList l vs.toArray := ⟨_, G.keep _ _ hlo, rfl, c2, rfl⟩
  refine next_map hI htu hit hll (by simpa using hv) (neAdd _ 1) fun h' hit' hs => ?_
  refine hf _ _ (G.but hs (Nat.le_refl _)) fun s'' G' => h s'' ?_
  have up : ∀ b o, b ≠ s.heap.objs.size → s'.heap.get? b = some o → s''.heap.get? b = some o := fun b o hb e => G'.keep b o ((hs.2 b hb).trans e)
  exact ⟨(G.but hs (Nat.le_refl _)).trans G', up _ _ (neAdd _ 1) hI, up _ _ (neAdd _ 0) htu, hit'.at fun o e => G'.keep _ o e, c, up _ _ (neAdd _ 2) hS⟩
end
end Mine
end

section
open PySem PySem.W PyProof.Rows PySem.Calls PySem.SeqAt
open PySem.AutoSeq1 (wpAny_loadPart')
set_option Elab.async false
set_option maxRecDepth 100000
namespace Mine
section
variable {prog : Program} {w : World} {A : Around} {E : Value → Shared → Prop} {s : Shared}
theorem ltNe {a b : Nat} (h : a < b) : a ≠ b := Nat.ne_of_lt h
theorem MapSt.put {s : Shared} {l f : Addr} {k : Nat} {acc acc' : List Value} {s' : Shared} {h' : Heap} {c' : Nat} (M : MapSt s s.heap.objs.size l f k acc s') (hS : h'.get? (s.heap.objs.size + 3) = some (lobj acc' c')) (hs : Heap.SameBut (s.heap.objs.size + 3) s'.heap h') :
    MapSt s s.heap.objs.size l f k acc' { s' with heap := h' } :=
  ⟨M.grew.but hs (Nat.le_add_right _ _), (hs.2 _ (Nat.ne_of_lt (Nat.lt_succ_self _))).trans M.hI, (hs.2 _ (ltNe (Nat.add_lt_add_left (by decide) _))).trans M.htu, M.hit.at fun o e => (hs.2 _ (ltNe (Nat.lt_add_of_pos_right (by decide)))).trans e, c', hS⟩
theorem collect_map2 {l f : Addr} {v0 v1 : Value} {s₁ : Shared} {Q : List Value → Shared → Prop} (hh : A.handled = none) (hl : IsL s.heap.get? l [v0, v1])
    (G : Grew s s₁) (hz : s₁.heap.objs.size = s.heap.objs.size + 3) (hI : s₁.heap.get? (s.heap.objs.size + 2) = some (mobj (s.heap.objs.size + 1) f)) (htu : s₁.heap.get? (s.heap.objs.size + 1) = some (tobj [.ref s.heap.objs.size])) (hit : s₁.heap.IsListIter s.heap.objs.size l 0)
    (hf : ∀ (A' : Around) (v : Value) (s' : Shared) (Q' : Value → Shared → Prop), v = v0 ∨ v = v1 → A'.depth = A.depth → Grew s s' → (∀ s'', Grew s' s'' → Q' v s'') → wpAny (model prog w) A' (call (.ref f) [v]) Q' (fun _ _ => False) s')
    (h : ∀ s', Grew s s' → Q [v0, v1] s') : wpAny (model prog w) A (collect (.ref (s.heap.objs.size + 2))) Q E s₁ := by
  unfold collect
  refine wpAny_bind (wpAny_runValue (codeAny_builtin F.entry_proto_collect ?_))
  rw [Around.under_plainId F.plain_proto_collect _]
  show wpAny _ A.in1 (newList [] >>= fun l => again (.builtin "list.__iadd__" ⟨[l, .ref (s.heap.objs.size + 2)], []⟩)) _ _ _
  refine wpAny_bind (wpAny_newObj_type ?_)
  refine wpAny_pure ⟨plainId_quiet F.plain_list_iadd _, codeAny_builtin F.entry_list_iadd ?_⟩
  rw [Around.under_plainId F.plain_list_iadd _]
  rw [hz]
  have hT : (⟨s₁.heap.push { cls := .type "list", data := .seq ([] : List Value).toArray }, s₁.gens, s₁.drawn, s₁.toks, s₁.os⟩ : Shared).TypeIs (.ref (s.heap.objs.size + 2)) "map" := ⟨_, Heap.get?_push_of_some _ hI, rfl⟩
  show wpAny _ A.in1 (Builtin.List.listExtendWith (.ref (s.heap.objs.size + 3)) (.ref (s.heap.objs.size + 2)) (.ref (s.heap.objs.size + 3))) _ _ _
  unfold Builtin.List.listExtendWith
  refine wpAny_bind (wpAny_typeOf hT ?_)
  have h1 : Builtin.List.listSameRef (.ref (s.heap.objs.size + 3)) (.ref (s.heap.objs.size + 2)) = false := by simp [Builtin.List.listSameRef]
  have h2 : (Value.type "map" == Value.type "list") = false := by decide
  have h3 : (Value.type "map" == Value.type "tuple") = false := by decide
  simp only [h1, h2, h3, Bool.or_false, Bool.false_eq_true, if_false]
  refine wpAny_bind (iter_map (Heap.get?_push_of_some _ hI) ?_)
  refine wpAny_bind (wpAny_holding ?_)
  unfold Builtin.List.listLengthHint
  refine wpAny_bind (wpAny_specialOf hT map_no_len ?_)
  show wpAny _ A.in1 (specialOf (Value.ref (s.heap.objs.size + 2)) (Str.ofString "__length_hint__") >>= _) _ _ _
  refine wpAny_bind (wpAny_specialOf hT map_no_hint ?_)
  refine wpAny_pure ?_
  rw [if_pos (by rfl)]
  refine wpAny_bind (wpAny_rule ?_)
  have hS₁ : (s₁.heap.push { cls := .type "list", data := .seq ([] : List Value).toArray }).get? (s.heap.objs.size + 3) = some (lobj []) := by
    have := Heap.get?_push_size s₁.heap (o := { cls := .type "list", data := .seq ([] : List Value).toArray }) rfl
    rw [hz] at this; exact this
  refine wpAny_bind ?_
  show wpAny _ A.in1 (updateSeq (s.heap.objs.size + 3) (·.push .none) >>= fun _ => updateSeq (s.heap.objs.size + 3) (·.pop)) _ _ _
  refine wpAny_bind (wpAny_updateSeq hS₁ rfl ?_)
  have hS₂ := Heap.get?_update_self (Obj.mapSeq (·.push Value.none)) hS₁ rfl
  refine wpAny_updateSeq hS₂ rfl ?_
  have hS₃ := Heap.get?_update_self (Obj.mapSeq (·.pop)) hS₂ rfl
  have G₁ : Grew s { s₁ with heap := s₁.heap.push { cls := .type "list", data := .seq ([] : List Value).toArray } } := G.trans (Grew.push s₁ _ s₁.toks)
  have sz : s.heap.objs.size ≤ s.heap.objs.size + 3 := Nat.le_add_right _ _
  have G₃ := (G₁.but (Heap.SameBut.update _ (s.heap.objs.size + 3) (Obj.mapSeq (·.push Value.none))) sz).but (Heap.SameBut.update _ (s.heap.objs.size + 3) (Obj.mapSeq (·.pop))) sz
  have oth : ∀ b o, b ≠ s.heap.objs.size + 3 → s₁.heap.get? b = some o →
      (((s₁.heap.push { cls := .type "list", data := .seq ([] : List Value).toArray }).update (s.heap.objs.size + 3) (Obj.mapSeq (·.push Value.none))).update (s.heap.objs.size + 3) (Obj.mapSeq (·.pop))).get? b = some o :=
    fun b o hb e => (Heap.get?_update_other _ _ (Ne.symm hb)).trans ((Heap.get?_update_other _ _ (Ne.symm hb)).trans (Heap.get?_push_of_some _ e))
  have M₀ : MapSt s s.heap.objs.size l f 0 [] _ := ⟨G₃, oth _ _ (Nat.ne_of_lt (Nat.lt_succ_self _)) hI, oth _ _ (by omega) htu, hit.at fun o e => oth _ o (by omega) e, _, hS₃⟩
  refine wpAny_pure ⟨plainId_quiet F.plain_extend_loop _, ?_⟩
  refine ext_step (map_turn M₀ hl rfl (fun s' Q' g q => hf _ _ s' Q' (.inl rfl) rfl g q) fun s₂ M₂ => ?_)
  obtain ⟨c₂, hS₂'⟩ := M₂.hS
  refine ⟨_, _, hS₂', by show 0 < sizeLine; decide, fun h₃ c₃ hS₃' hs₃ => ?_⟩
  have M₃ := M₂.put hS₃' hs₃
  refine ext_step (map_turn M₃ hl rfl (fun s' Q' g q => hf _ _ s' Q' (.inr rfl) rfl g q) fun s₄ M₄ => ?_)
  obtain ⟨c₄, hS₄'⟩ := M₄.hS
  refine ⟨_, _, hS₄', by show 1 < sizeLine; decide, fun h₅ c₅ hS₅' hs₅ => ?_⟩
  have M₅ := M₄.put hS₅' hs₅
  obtain ⟨cl, hlo⟩ := hl
  refine ext_step (end_map hh M₅.hI M₅.htu M₅.hit ⟨_, M₅.grew.keep _ _ hlo, rfl, cl, rfl⟩ (by simp) fun h₆ he => ?_)
  have hS₆ := he _ _ (neAdd _ 2) hS₅'
  show wpAny _ A (load (s.heap.objs.size + 3) >>= _) _ _ _
  refine wpAny_bind (wpAny_load hS₆ (wpAny_pure (h _ ?_)))
  obtain ⟨⟨hh₅, tk₅, e₅⟩, k₅, z₅, t₅⟩ := M₅.grew
  refine ⟨⟨h₆, tk₅, ?_⟩, fun b o e => he b o (Nat.ne_of_lt (Heap.lt_size e)) (k₅ b o e), ?_, t₅⟩
  · rw [e₅]
  · exact Nat.le_of_lt (Nat.lt_of_le_of_lt sz (Heap.lt_size hS₆))
end
end Mine
end

section
open PySem PySem.W PyProof.Rows PySem.Calls PySem.SeqAt
open PySem.AutoSeq1 (wpAny_loadPart')
set_option Elab.async false
set_option maxRecDepth 100000
namespace Mine
section
variable {prog : Program} {w : World} {A : Around} {E : Value → Shared → Prop} {s : Shared}
theorem code_tuple_new_map {I : Addr} {acc : List Value} {Q₁ : Value → Shared → Prop} {tu f : Addr} (hI : s.heap.get? I = some (mobj tu f))
    (hc : wpAny (model prog w) A.in1 (collect (.ref I)) (fun r s' => r = acc ∧ Q₁ (.ref s'.heap.objs.size) { s' with heap := s'.heap.push (tobj acc) }) (fun _ _ => False) s) (hsz : acc.length ≤ sizeLine) :
    codeAny (model prog w) A (.call (.builtin "tuple.__new__") ⟨[.type "tuple", .ref I], []⟩) (wants Q₁ E) s := by
  refine codeAny_of_tree ?_
  show wpAny _ A.in1 (do checkBuiltinCall "tuple.__new__" ⟨[.type "tuple", .ref I], []⟩; again (.builtin "tuple.__new__" ⟨[.type "tuple", .ref I], []⟩)) _ _ s
  refine wpAny_bind (wpAny_of_eq (F.newCall_tuple_1 _) (wpAny_pure ⟨plainId_quiet F.plain_tuple_new _, codeAny_builtin F.entry_tuple_new ?_⟩))
  rw [Around.under_plainId F.plain_tuple_new _]
  have hsub := sub_tuple_self
  have hinit := init_tuple_lookup
  have hmh := PySem.madeHere_tuple
  have hTI : s.TypeIs (.ref I) "map" := ⟨_, hI, rfl⟩
  have hc' : ∀ (A' : Around) (Q : List Value → Shared → Prop) (E : Value → Shared → Prop), A' = A.in1 → (∀ s', Q₁ (.ref s'.heap.objs.size) { s' with heap := s'.heap.push (tobj acc) } → Q acc s') → wpAny (model prog w) A' (collect (.ref I)) Q E s := by
    rintro A' Q E rfl hq
    exact wpAny_mono hc (fun r s' ⟨h1, h2⟩ => by subst h1; exact hq _ h2) fun _ _ x => x.elim
  clear hc
  wp_walk using wpAny_typeOf hTI, hc' _ _ _ rfl
  intro s' hq
  show wpAny _ _ (Builtin.Tuple.tupleExact acc.toArray >>= fun v => ret v) _ _ _
  unfold Builtin.Tuple.tupleExact
  refine wpAny_bind (wpAny_newObj_type ?_ (by show acc.toArray.size ≤ sizeLine; rw [List.size_toArray]; exact hsz))
  exact wpAny_pure hq
theorem call_tuple_map {I : Addr} {acc : List Value} {Q : Value → Shared → Prop} {tu f : Addr} (hI : s.heap.get? I = some (mobj tu f))
    (hc : wpAny (model prog w) A.in1.in1 (collect (.ref I)) (fun r s' => r = acc ∧ Q (.ref s'.heap.objs.size) { s' with heap := s'.heap.push (tobj acc) }) (fun _ _ => False) s) (hsz : acc.length ≤ sizeLine) :
    wpAny (model prog w) A (call (.type "tuple") [.ref I]) Q E s := by
  refine callType_codes (Q₁ := fun obj s₁ => s₁.TypeIs obj "tuple" ∧ Q obj s₁) F.called_tuple (F.typeCall_tuple_1 _) F.entry_object_init
    (code_tuple_new_map hI (wpAny_mono hc (fun r s' h => ⟨h.1, ⟨_, Heap.get?_push_size _ rfl, rfl⟩, h.2⟩) fun _ _ x => x) hsz) fun obj s₁ h₁ => ?_
  exact ⟨h₁.1, F.args_object_init_2 obj _, object_init_meets F.called_tuple.init.lookup F.called_tuple.made (by decide) prog w A.in1 _ s₁ ⟨h₁.1, rfl, h₁.2⟩⟩

/-- tuple(map(f, l)) of a list of two, f gives back what it takes -/
theorem tuple_map2 {l f : Addr} {v0 v1 : Value} {Q : Value → Shared → Prop} (hh : A.handled = none) (hl : IsL s.heap.get? l [v0, v1])
    (hf : ∀ (A' : Around) (v : Value) (s' : Shared) (Q' : Value → Shared → Prop), v = v0 ∨ v = v1 → A'.depth = A.depth → Grew s s' → (∀ s'', Grew s' s'' → Q' v s'') → wpAny (model prog w) A' (call (.ref f) [v]) Q' (fun _ _ => False) s')
    (h : ∀ s' D, Grew s s' → s'.heap.get? D = some (tobj [v0, v1]) → s.heap.objs.size ≤ D → Q (.ref D) s') :
    wpAny (model prog w) A (call (.type "map") [.ref f, .ref l]) (fun x s₁ => wpAny (model prog w) A (call (.type "tuple") [x]) Q E s₁) E s := by
  obtain ⟨n, ho⟩ := id hl
  refine call_map (items := [v0, v1].toArray) ⟨_, ho, rfl, n, rfl⟩ ?_
  have hz : ((s.heap.push (iobj l 0)).push (tobj [.ref s.heap.objs.size])).objs.size = s.heap.objs.size + 1 + 1 := by rw [Heap.size_push, Heap.size_push]
  have e2 : (((s.heap.push (iobj l 0)).push (tobj [.ref s.heap.objs.size])).push (mobj (s.heap.objs.size + 1) f)).get? (s.heap.objs.size + 2) = some (mobj (s.heap.objs.size + 1) f) := by
    have := Heap.get?_push_size ((s.heap.push (iobj l 0)).push (tobj [.ref s.heap.objs.size])) (o := mobj (s.heap.objs.size + 1) f) rfl
    rwa [hz] at this
  have e1 : (((s.heap.push (iobj l 0)).push (tobj [.ref s.heap.objs.size])).push (mobj (s.heap.objs.size + 1) f)).get? (s.heap.objs.size + 1) = some (tobj [.ref s.heap.objs.size]) := by
    have := Heap.get?_push_size (s.heap.push (iobj l 0)) (o := tobj [.ref s.heap.objs.size]) rfl
    rw [Heap.size_push] at this
    exact Heap.get?_push_of_some _ this
  have e0 : (((s.heap.push (iobj l 0)).push (tobj [.ref s.heap.objs.size])).push (mobj (s.heap.objs.size + 1) f)).get? s.heap.objs.size = some (iobj l 0) :=
    Heap.get?_push_of_some _ (Heap.get?_push_of_some _ (Heap.get?_push_size _ rfl))
  have G : Grew s { s with heap := ((s.heap.push (iobj l 0)).push (tobj [.ref s.heap.objs.size])).push (mobj (s.heap.objs.size + 1) f) } :=
    ((Grew.push s (iobj l 0) s.toks).trans (Grew.push { s with heap := s.heap.push (iobj l 0) } (tobj [.ref s.heap.objs.size]) s.toks)).trans (Grew.push { s with heap := (s.heap.push (iobj l 0)).push (tobj [.ref s.heap.objs.size]) } (mobj (s.heap.objs.size + 1) f) s.toks)
  refine call_tuple_map (acc := [v0, v1]) e2 ?_ (by show 2 ≤ sizeLine; decide)
  refine collect_map2 (A := A.in1.in1) hh hl G (by simp only [Heap.size_push]) e2 e1 ⟨_, e0, rfl, rfl⟩ (fun A' v s' Q' hv hd g q => hf A' v s' Q' hv hd g q) fun s' G' => ⟨rfl, ?_⟩
  exact h _ _ (G'.trans (Grew.push s' (tobj [v0, v1]) s'.toks)) (Heap.get?_push_size _ rfl) G'.size
end
end Mine
end

section
open PySem PySem.W PyProof.Rows PySem.Calls PySem.SeqAt PySem.Builtin PySem.Builtin.Str
set_option Elab.async false
set_option maxRecDepth 100000
namespace Mine
theorem numbered_ge : ∀ (tk : Nat) (xs : List Str), ∀ q ∈ numbered tk xs, tk ≤ q.2
  | _, [], q, h => by cases h
  | tk, x :: r, q, h => by
    rcases List.mem_cons.mp h with rfl | h
    · exact Nat.le_refl _
    · exact Nat.le_trans (Nat.le_succ _) (numbered_ge (tk + 1) r q h)
section
variable {prog : Program} {w : World} {A : Around} {E : Value → Shared → Prop} {s : Shared}
theorem split_r {x y : Str} {t u : Tok} {Q : Value → Shared → Prop} (hy : (y.length == 0) = false) (hsz : x.length ≤ sizeLine) (hsz2 : (partsBetween x (occurrences x y 0 x.length (x.length + 1)) y.length).length ≤ sizeLine)
    (h : ∀ l k, l.map (·.1) = Txt.split x y → (∀ q ∈ l, q = (x, t) ∨ s.toks ≤ q.2) → s.toks ≤ k → Q (.ref s.heap.objs.size) { s with heap := s.heap.push (lobj (strValues l)), toks := k }) :
    wpAny (model prog w) A (call (.builtin "str.split") [.str x t, .str y u]) Q E s := by
  have one : ∀ q ∈ [(x, t)], q = (x, t) ∨ s.toks ≤ q.2 := fun q hq => .inl (List.mem_singleton.mp hq)
  cases h1 : (decide (x.length < y.length) || decide (strKind x < strKind y))
  · cases hf : (occurrences x y 0 x.length (x.length + 1)).isEmpty
    · refine call_meets F.slot_str_split (typeIs_str _ _ _) F.entry_str_split (F.args_str_split_2 _ _) (meets_str_split_sep x y t u h1 hy hf hsz hsz2) ?_
      show wants Q E _ { s with toks := _, heap := s.heap.push { cls := .type "list", data := .seq (strsFrom s.toks (partsBetween x (occurrences x y 0 x.length (x.length + 1)) y.length)).toArray } }
      rw [strsFrom_eq]
      exact h (numbered s.toks _) _ ((numbered_texts _ _).trans ((if_neg (ne_true_of_eq_false h1)).trans (if_neg (ne_true_of_eq_false hf))).symm) (fun q hq => .inr (numbered_ge _ _ q hq)) (Nat.le_add_right _ _)
    · exact call_meets F.slot_str_split (typeIs_str _ _ _) F.entry_str_split (F.args_str_split_2 _ _) (meets_str_split_not_found x y t u h1 hy hf)
        (h [(x, t)] _ ((if_neg (ne_true_of_eq_false h1)).trans (if_pos hf)).symm one (Nat.le_refl _))
  · exact call_meets F.slot_str_split (typeIs_str _ _ _) F.entry_str_split (F.args_str_split_2 _ _) (meets_str_split_cannot_occur x y t u h1)
      (h [(x, t)] _ (if_pos h1).symm one (Nat.le_refl _))

theorem join_r {x : Str} {t : Tok} {D : Addr} {l : List (Str × Tok)} {Q : Value → Shared → Prop} (hl : s.heap.IsList D (strValues l).toArray) (hok : JoinOk x (l.map (·.1)) = true)
    (h : ∀ t' k, (t' = s.toks ∨ ∃ q ∈ l, l.map (·.1) = [q.1] ∧ t' = q.2) → s.toks ≤ k → Q (.str (Txt.join x (l.map (·.1))) t') { s with toks := k }) :
    wpAny (model prog w) A (call (.builtin "str.join") [.str x t, .ref D]) Q E s := by
  have hlen := joinOk_length hok
  unfold JoinOk at hok
  rw [Bool.not_eq_true'] at hok
  refine call_meets F.slot_str_join (typeIs_str _ _ _) F.entry_str_join (F.args_str_join_2 _ _) (meets_str_join_list x t D l hok) ⟨hl, ?_⟩
  match l, hlen, h with
  | [], hlen, h => exact ⟨hlen, h _ _ (.inl rfl) (Nat.le_succ _)⟩
  | [p], hlen, h => exact h _ _ (.inr ⟨p, List.mem_singleton.mpr rfl, rfl, rfl⟩) (Nat.le_refl _)
  | _ :: _ :: _, hlen, h => exact ⟨hlen, h _ _ (.inl rfl) (Nat.le_succ _)⟩

theorem startswith_r {x y : Str} {t u : Tok} {Q : Value → Shared → Prop} (h : Q (.bool (Txt.startswith x y)) s) : wpAny (model prog w) A (call (.builtin "str.startswith") [.str x t, .str y u]) Q E s := SC.startswith h
theorem add_e {y : Str} {t u : Tok} {Q : Value → Shared → Prop} (h : Q (.str y u) s) : wpAny (model prog w) A (binaryOp .Add (.str (Str.ofString "") t) (.str y u)) Q E s := PySem.P.add_str (by rw [if_pos (by decide)]; exact h)
end
end Mine
end

section
open PySem PySem.W PyProof.Rows PySem.Calls PySem.SeqAt PySem.Builtin
open PySem.AutoSeq1 (wpAny_loadPart')
open MeetsSeq MeetsSeq2 MeetsSeq3 SeqRoads2
set_option Elab.async false
set_option maxRecDepth 100000
namespace Mine
/-- the order of two rows of texts, as Python reckons it -/
noncomputable def ltL : List Str → List Str → Bool
  | [], [] => false
  | [], _ :: _ => true
  | _ :: _, [] => false
  | x :: xs, y :: ys => if x == y then ltL xs ys else decide (x.cps.toList < y.cps.toList)
theorem ltL_end {xs ys : List Str} (h : xs = [] ∨ ys = []) : ltL xs ys = decide (xs.length < ys.length) := by
  match xs, ys, h with
  | [], [], _ => rfl
  | [], _ :: _, _ => simp [ltL]
  | _ :: _, [], _ => simp [ltL]
  | _ :: _, _ :: _, .inl h => cases h
  | _ :: _, _ :: _, .inr h => cases h
theorem rc_lt_str {M : Model} {A : Around} {E : Value → Shared → Prop} {s : Shared} {x y : Str} {t u : Tok} {Q : Value → Shared → Prop} (h : Q (.bool (decide (x.cps.toList < y.cps.toList))) s) (hM : ∃ prog w, M = model prog w) :
    wpAny M A (richCompare .Lt (.str x t) (.str y u)) Q E s := by
  obtain ⟨prog, w, rfl⟩ := hM
  exact PyProof.Rows.lt_str h
theorem sv_at {xs : List (Str × Tok)} {i : Nat} : (strValues xs).toArray[i]? = (xs[i]?).map fun q => .str q.1 q.2 := by
  simp [strValues]
theorem sv_size {xs : List (Str × Tok)} : (strValues xs).toArray.size = xs.length := by simp [strValues]

theorem rc_gt_str {M : Model} {A : Around} {E : Value → Shared → Prop} {s : Shared} {x y : Str} {t u : Tok} {Q : Value → Shared → Prop} (h : Q (.bool (decide (y.cps.toList < x.cps.toList))) s) (hM : ∃ prog w, M = model prog w) :
    wpAny M A (richCompare .Gt (.str x t) (.str y u)) Q E s := by
  obtain ⟨prog, w, rfl⟩ := hM
  exact PySem.P.gt_str h
theorem lt_loop (l b : Addr) (xs ys : List (Str × Tok)) (n n2 : Nat) (k : Nat) :
    ∀ i : Nat, xs.length - i = k → i ≤ xs.length → i ≤ ys.length → Meets (Builtin.«list.__eq__.loop» ⟨[.ref l, .ref b, rawInt i, rawInt 0], []⟩)
      (fun _ R s => s.heap.get? l = some (lobj (strValues xs) n) ∧ s.heap.get? b = some (lobj (strValues ys) n2) ∧
        R (.ok (.ret (.bool (ltL ((xs.drop i).map (·.1)) ((ys.drop i).map (·.1)))))) s) := by
  induction k with
  | zero =>
    intro i hk hi1 hi2 prog w A R s h
    obtain ⟨hp, g, d, tk, os⟩ := s; obtain ⟨hl, hb, h⟩ := h
    wp_walk using wpAny_loadPart' hl, wpAny_loadPart' hb
    have hi : xs[i]? = none := List.getElem?_eq_none_iff.mpr (by omega)
    have hd : xs.drop i = [] := by simp; omega
    have e1 : (strValues xs).toArray[((i : Nat) : Int).toNat]? = none := by rw [sv_at]; simp [hi]
    rw [e1]
    wp_walk using wpAny_loadPart' hl, wpAny_loadPart' hb
    rw [ltL_end (.inl (by rw [hd]; rfl))] at h
    show R (.ok (.ret (.bool (decide ((strValues xs).toArray.size < (strValues ys).toArray.size))))) _
    rw [sv_size, sv_size]
    simp only [List.length_map, List.length_drop] at h
    have e2 : decide (xs.length < ys.length) = decide (xs.length - i < ys.length - i) := by
      apply decide_eq_decide.mpr; omega
    rw [e2]; exact h
  | succ k ih =>
    intro i hk hi1 hi2 prog w A R s h
    obtain ⟨hp, g, d, tk, os⟩ := s; obtain ⟨hl, hb, h⟩ := h
    wp_walk using wpAny_loadPart' hl, wpAny_loadPart' hb
    have hlt : i < xs.length := by omega
    have e1 : (strValues xs).toArray[((i : Nat) : Int).toNat]? = some (.str xs[i].1 xs[i].2) := by rw [sv_at]; simp [hlt]
    rw [e1]
    by_cases hlt2 : i < ys.length
    · have e2 : (strValues ys).toArray[((i : Nat) : Int).toNat]? = some (.str ys[i].1 ys[i].2) := by rw [sv_at]; simp [hlt2]
      have hc : ((i : Int) + 1) = ((i + 1 : Nat) : Int) := by push_cast; rfl
      have hx : (xs.drop i).map (·.1) = xs[i].1 :: (xs.drop (i + 1)).map (·.1) := by rw [List.drop_eq_getElem_cons hlt]; rfl
      have hy : (ys.drop i).map (·.1) = ys[i].1 :: (ys.drop (i + 1)).map (·.1) := by rw [List.drop_eq_getElem_cons hlt2]; rfl
      rw [hx, hy] at h
      rw [e2]
      refine wpAny_bind (EqAt.str_str _ _ _ _ prog w _ _ ?_)
      cases hb' : xs[i].1 == ys[i].1 with
      | true =>
        have e3 : ltL (xs[i].1 :: (xs.drop (i + 1)).map (·.1)) (ys[i].1 :: (ys.drop (i + 1)).map (·.1)) = ltL ((xs.drop (i + 1)).map (·.1)) ((ys.drop (i + 1)).map (·.1)) := by
          show (if xs[i].1 == ys[i].1 then _ else _) = _
          rw [hb']; rfl
        rw [e3] at h
        wp_walk
        rw [hc]
        exact ⟨plainId_quiet plain_eq_loop _, codeAny_builtin entry_eq_loop (by
          rw [Around.under_plainId plain_eq_loop _]
          exact ih (i + 1) (by omega) hlt hlt2 prog w A R _ ⟨hl, hb, h⟩)⟩
      | false =>
        have e3 : ltL (xs[i].1 :: (xs.drop (i + 1)).map (·.1)) (ys[i].1 :: (ys.drop (i + 1)).map (·.1)) = decide (xs[i].1.cps.toList < ys[i].1.cps.toList) := by
          show (if xs[i].1 == ys[i].1 then _ else _) = _
          rw [hb']; rfl
        rw [e3] at h
        wp_walk using wpAny_loadPart' hl, wpAny_loadPart' hb
        rw [e1, e2]
        refine wpAny_bind (rc_lt_str ?_ ⟨_, _, rfl⟩)
        exact wpAny_pure h
    · have hi : ys[i]? = none := List.getElem?_eq_none_iff.mpr (by omega)
      have hd : ys.drop i = [] := by simp; omega
      have e2 : (strValues ys).toArray[((i : Nat) : Int).toNat]? = none := by rw [sv_at]; simp [hi]
      rw [e2]
      wp_walk using wpAny_loadPart' hl, wpAny_loadPart' hb
      rw [ltL_end (.inr (by rw [hd]; rfl))] at h
      show R (.ok (.ret (.bool (decide ((strValues xs).toArray.size < (strValues ys).toArray.size))))) _
      rw [sv_size, sv_size]
      simp only [List.length_map, List.length_drop] at h
      have e2 : decide (xs.length < ys.length) = decide (xs.length - i < ys.length - i) := by
        apply decide_eq_decide.mpr; omega
      rw [e2]; exact h
theorem gt_loop (l b : Addr) (xs ys : List (Str × Tok)) (n n2 : Nat) (k : Nat) :
    ∀ i : Nat, xs.length - i = k → i ≤ xs.length → i ≤ ys.length → Meets (Builtin.«list.__eq__.loop» ⟨[.ref l, .ref b, rawInt i, rawInt 4], []⟩)
      (fun _ R s => s.heap.get? l = some (lobj (strValues xs) n) ∧ s.heap.get? b = some (lobj (strValues ys) n2) ∧
        R (.ok (.ret (.bool (ltL ((ys.drop i).map (·.1)) ((xs.drop i).map (·.1)))))) s) := by
  induction k with
  | zero =>
    intro i hk hi1 hi2 prog w A R s h
    obtain ⟨hp, g, d, tk, os⟩ := s; obtain ⟨hl, hb, h⟩ := h
    wp_walk using wpAny_loadPart' hl, wpAny_loadPart' hb
    have hi : xs[i]? = none := List.getElem?_eq_none_iff.mpr (by omega)
    have hd : xs.drop i = [] := by simp; omega
    have e1 : (strValues xs).toArray[((i : Nat) : Int).toNat]? = none := by rw [sv_at]; simp [hi]
    rw [e1]
    wp_walk using wpAny_loadPart' hl, wpAny_loadPart' hb
    rw [ltL_end (.inr (by rw [hd]; rfl))] at h
    show R (.ok (.ret (.bool (decide ((strValues ys).toArray.size < (strValues xs).toArray.size))))) _
    rw [sv_size, sv_size]
    simp only [List.length_map, List.length_drop] at h
    have e2 : decide (ys.length < xs.length) = decide (ys.length - i < xs.length - i) := by
      apply decide_eq_decide.mpr; omega
    rw [e2]; exact h
  | succ k ih =>
    intro i hk hi1 hi2 prog w A R s h
    obtain ⟨hp, g, d, tk, os⟩ := s; obtain ⟨hl, hb, h⟩ := h
    wp_walk using wpAny_loadPart' hl, wpAny_loadPart' hb
    have hlt : i < xs.length := by omega
    have e1 : (strValues xs).toArray[((i : Nat) : Int).toNat]? = some (.str xs[i].1 xs[i].2) := by rw [sv_at]; simp [hlt]
    rw [e1]
    by_cases hlt2 : i < ys.length
    · have e2 : (strValues ys).toArray[((i : Nat) : Int).toNat]? = some (.str ys[i].1 ys[i].2) := by rw [sv_at]; simp [hlt2]
      have hc : ((i : Int) + 1) = ((i + 1 : Nat) : Int) := by push_cast; rfl
      have hx : (xs.drop i).map (·.1) = xs[i].1 :: (xs.drop (i + 1)).map (·.1) := by rw [List.drop_eq_getElem_cons hlt]; rfl
      have hy : (ys.drop i).map (·.1) = ys[i].1 :: (ys.drop (i + 1)).map (·.1) := by rw [List.drop_eq_getElem_cons hlt2]; rfl
      rw [hx, hy] at h
      rw [e2]
      refine wpAny_bind (EqAt.str_str _ _ _ _ prog w _ _ ?_)
      cases hb' : xs[i].1 == ys[i].1 with
      | true =>
        have e3 : ltL (ys[i].1 :: (ys.drop (i + 1)).map (·.1)) (xs[i].1 :: (xs.drop (i + 1)).map (·.1)) = ltL ((ys.drop (i + 1)).map (·.1)) ((xs.drop (i + 1)).map (·.1)) := by
          show (if ys[i].1 == xs[i].1 then _ else _) = _
          rw [BEq.comm, hb']; rfl
        rw [e3] at h
        wp_walk
        rw [hc]
        exact ⟨plainId_quiet plain_eq_loop _, codeAny_builtin entry_eq_loop (by
          rw [Around.under_plainId plain_eq_loop _]
          exact ih (i + 1) (by omega) hlt hlt2 prog w A R _ ⟨hl, hb, h⟩)⟩
      | false =>
        have e3 : ltL (ys[i].1 :: (ys.drop (i + 1)).map (·.1)) (xs[i].1 :: (xs.drop (i + 1)).map (·.1)) = decide (ys[i].1.cps.toList < xs[i].1.cps.toList) := by
          show (if ys[i].1 == xs[i].1 then _ else _) = _
          rw [BEq.comm, hb']; rfl
        rw [e3] at h
        wp_walk using wpAny_loadPart' hl, wpAny_loadPart' hb
        rw [e1, e2]
        refine wpAny_bind (rc_gt_str ?_ ⟨_, _, rfl⟩)
        exact wpAny_pure h
    · have hi : ys[i]? = none := List.getElem?_eq_none_iff.mpr (by omega)
      have hd : ys.drop i = [] := by simp; omega
      have e2 : (strValues ys).toArray[((i : Nat) : Int).toNat]? = none := by rw [sv_at]; simp [hi]
      rw [e2]
      wp_walk using wpAny_loadPart' hl, wpAny_loadPart' hb
      rw [ltL_end (.inl (by rw [hd]; rfl))] at h
      show R (.ok (.ret (.bool (decide ((strValues ys).toArray.size < (strValues xs).toArray.size))))) _
      rw [sv_size, sv_size]
      simp only [List.length_map, List.length_drop] at h
      have e2 : decide (ys.length < xs.length) = decide (ys.length - i < xs.length - i) := by
        apply decide_eq_decide.mpr; omega
      rw [e2]; exact h

theorem list_ltA (l b : Addr) (xs ys : List (Str × Tok)) (n n2 : Nat) : Meets (Builtin.«list.__lt__» ⟨[.ref l, .ref b], []⟩)
      (fun _ R s => s.heap.get? l = some (lobj (strValues xs) n) ∧ s.heap.get? b = some (lobj (strValues ys) n2) ∧
        R (.ok (.ret (.bool (ltL (xs.map (·.1)) (ys.map (·.1)))))) s) := by
  intro prog w A R s h
  obtain ⟨hp, g, d, tk, os⟩ := s; obtain ⟨hl, hb, h⟩ := h
  have f3 := AutoSeq1.sub_list_list
  wp_walk using wpAny_loadPart' hl, wpAny_loadPart' hb
  exact ⟨plainId_quiet plain_eq_loop _, codeAny_builtin entry_eq_loop (by
    rw [Around.under_plainId plain_eq_loop _]
    exact lt_loop l b xs ys n n2 _ 0 rfl (Nat.zero_le _) (Nat.zero_le _) prog w A R _ ⟨hl, hb, h⟩)⟩
theorem list_gtA (l b : Addr) (xs ys : List (Str × Tok)) (n n2 : Nat) : Meets (Builtin.«list.__gt__» ⟨[.ref l, .ref b], []⟩)
      (fun _ R s => s.heap.get? l = some (lobj (strValues xs) n) ∧ s.heap.get? b = some (lobj (strValues ys) n2) ∧
        R (.ok (.ret (.bool (ltL (ys.map (·.1)) (xs.map (·.1)))))) s) := by
  intro prog w A R s h
  obtain ⟨hp, g, d, tk, os⟩ := s; obtain ⟨hl, hb, h⟩ := h
  have f3 := AutoSeq1.sub_list_list
  wp_walk using wpAny_loadPart' hl, wpAny_loadPart' hb
  exact ⟨plainId_quiet plain_eq_loop _, codeAny_builtin entry_eq_loop (by
    rw [Around.under_plainId plain_eq_loop _]
    exact gt_loop l b xs ys n n2 _ 0 rfl (Nat.zero_le _) (Nat.zero_le _) prog w A R _ ⟨hl, hb, h⟩)⟩
section
variable {prog : Program} {w : World} {A : Around} {E : Value → Shared → Prop} {s : Shared} {l b : Addr} {xs ys : List (Str × Tok)}
theorem rc_lt_l {Q : Value → Shared → Prop} (hu : A.units < cLine) (hl : IsL s.heap.get? l (strValues xs)) (hb : IsL s.heap.get? b (strValues ys)) (h : Q (.bool (ltL (xs.map (·.1)) (ys.map (·.1)))) s) :
    wpAny (model prog w) A (richCompare .Lt (.ref l) (.ref b)) Q E s := by
  obtain ⟨n, hl⟩ := hl; obtain ⟨n2, hb⟩ := hb
  exact richCompare_meets_room (op := .Lt) ⟨_, hl, rfl⟩ ⟨_, hb, rfl⟩ PySem.F.slot_list_lt PySem.F.entry_list_lt (PySem.F.args_list_lt_2 _ _) (list_ltA l b xs ys n n2)
    ⟨hl, hb, show Value.bool _ ≠ Value.notImplemented ∧ Q (.bool _) s from ⟨(fun x => nomatch x), h⟩⟩ hu
theorem rc_gt_l {Q : Value → Shared → Prop} (hu : A.units < cLine) (hl : IsL s.heap.get? l (strValues xs)) (hb : IsL s.heap.get? b (strValues ys)) (h : Q (.bool (ltL (ys.map (·.1)) (xs.map (·.1)))) s) :
    wpAny (model prog w) A (richCompare .Gt (.ref l) (.ref b)) Q E s := by
  obtain ⟨n, hl⟩ := hl; obtain ⟨n2, hb⟩ := hb
  exact richCompare_meets_room (op := .Gt) ⟨_, hl, rfl⟩ ⟨_, hb, rfl⟩ PySem.F.slot_list_gt PySem.F.entry_list_gt (PySem.F.args_list_gt_2 _ _) (list_gtA l b xs ys n n2)
    ⟨hl, hb, show Value.bool _ ≠ Value.notImplemented ∧ Q (.bool _) s from ⟨(fun x => nomatch x), h⟩⟩ hu
/-- the sort's own question on two rows -/
theorem key_lt_l {Q : Bool → Shared → Prop} (hu : A.units < cLine) (hl : IsL s.heap.get? l (strValues xs)) (hb : IsL s.heap.get? b (strValues ys)) (h : Q (ltL (xs.map (·.1)) (ys.map (·.1))) s) :
    wpAny (model prog w) A (keyLt' oneType' (.ref l) (.ref b)) Q E s := by
  obtain ⟨n, hl⟩ := hl; obtain ⟨n2, hb⟩ := hb
  rw [keyLt'_oneType, oneLt'_eq]
  simp only [if_true]
  refine wpAny_bind (wpAny_cRoomFor hu ?_)
  refine wpAny_bind (wpAny_callSpecialIfBound?_slot ⟨_, hl, rfl⟩ PySem.F.slot_list_lt (call_meets PySem.F.slot_list_lt ⟨_, hl, rfl⟩ PySem.F.entry_list_lt (PySem.F.args_list_lt_2 _ _) (list_ltA l b xs ys n n2) ⟨hl, hb, ?_⟩))
  exact wpAny_truthy_bool h
end
end Mine
end

section
open PySem PySem.W PyProof.Rows PySem.Calls PySem.SeqAt
set_option Elab.async false
set_option maxRecDepth 100000
namespace Mine
section
variable {prog : Program} {w : World} {A : Around} {E : Value → Shared → Prop} {s : Shared}

theorem min_2 {l a b : Addr} {bt : Bool} {Q : Value → Shared → Prop} (hh : A.handled = none) (hl : IsL s.heap.get? l [.ref a, .ref b])
    (hc : ∀ (s' : Shared) (Q' : Value → Shared → Prop) (E' : Value → Shared → Prop), Grew s s' → Q' (.bool bt) s' → wpAny (model prog w) A.in1 (richCompare .Lt (.ref b) (.ref a)) Q' E' s')
    (h : ∀ s', Grew s s' → Q (.ref (if bt = true then b else a)) s') : wpAny (model prog w) A (call (.builtin "min") [.ref l]) Q E s := by
  have hname : (toString "min" ++ toString ".loop" : String) = "min.loop" := by decide
  obtain ⟨n, hlo⟩ := hl
  refine call_function_tree F.kind_min F.plain_min F.entry_min (F.args_min1 _) ?_
  show wpAny _ A.in1 (Builtin.Builtins.bindParams "min" ["key", "default"] 0 ⟨[], []⟩ >>= _) _ _ s
  refine wpAny_bind (wpAny_of_eq (show Builtin.Builtins.bindParams "min" ["key", "default"] 0 ⟨[], []⟩ = pure [none, none] from rfl) ?_)
  refine wpAny_bind (wpAny_pure ?_)
  refine wpAny_bind (wpAny_pyIter_list (items := [Value.ref a, Value.ref b].toArray) ⟨_, hlo, rfl, n, rfl⟩ ?_)
  refine wpAny_bind (wpAny_newObj_type ?_)
  rw [hname]
  have hlt : l < s.heap.objs.size := Heap.lt_size hlo
  have hz1 : (s.heap.push (iobj l 0)).objs.size = s.heap.objs.size + 1 := Heap.size_push _ _
  show wpAny _ A.in1 (again (.builtin "min.loop" ⟨[.ref s.heap.objs.size, .none, .ref (s.heap.push (iobj l 0)).objs.size], []⟩)) _ _ { s with heap := (s.heap.push (iobj l 0)).push (lobj []) }
  rw [hz1]
  have hI0 : ((s.heap.push (iobj l 0)).push (lobj [])).IsListIter s.heap.objs.size l 0 := ⟨_, Heap.get?_push_of_some _ (Heap.get?_push_size _ rfl), rfl, rfl⟩
  have hS0 : ((s.heap.push (iobj l 0)).push (lobj [])).get? (s.heap.objs.size + 1) = some (lobj []) := by
    have := Heap.get?_push_size (s.heap.push (iobj l 0)) (o := lobj []) rfl
    rwa [hz1] at this
  have G0 : Grew s { s with heap := (s.heap.push (iobj l 0)).push (lobj []) } :=
    (Grew.push s (iobj l 0) s.toks).trans (Grew.push { s with heap := s.heap.push (iobj l 0) } (lobj []) s.toks)
  have iS : s.heap.objs.size + 1 ≠ s.heap.objs.size := Nat.succ_ne_self _
  have gS : s.heap.objs.size ≤ s.heap.objs.size + 1 := Nat.le_succ _
  generalize (s.heap.push (iobj l 0)).push (lobj []) = h0 at hI0 hS0 G0 ⊢
  generalize hS : s.heap.objs.size + 1 = S at hS0 iS gS ⊢
  generalize hI : s.heap.objs.size = I at hI0 iS gS ⊢
  -- the first item
  refine wpAny_pure ⟨plainId_quiet F.plain_min_loop _, codeAny_builtin F.entry_min_loop ?_⟩
  rw [Around.under_plainId F.plain_min_loop _]
  show wpAny _ A.in1 (seqItems? (.ref S) >>= _) _ _ _
  refine wpAny_bind (wpAny_seqItems hS0 rfl ?_)
  show wpAny _ A.in1 (tryCatch (pyNext (.ref I)) _ >>= _) _ _ _
  refine wpAny_bind (wpAny_tryCatch (wpAny_pyNext_list_item hI0 ⟨_, G0.keep _ _ hlo, rfl, n, rfl⟩ (x := .ref a) rfl fun h1 hI1 hs1 => ?_))
  have hS1 := (hs1.2 _ iS).trans hS0
  have G1 := G0.but hs1 (by rw [hI]; exact Nat.le_refl _)
  show wpAny _ A.in1 (updateSeq S (fun _ => #[.ref a, .ref a]) >>= _) _ _ _
  refine wpAny_bind (wpAny_updateSeq hS1 rfl ?_)
  have hS2 := Heap.get?_update_self (Obj.mapSeq fun _ => #[Value.ref a, Value.ref a]) hS1 rfl
  have G2 := G1.but (Heap.SameBut.update h1 S (Obj.mapSeq fun _ => #[Value.ref a, Value.ref a])) (by rw [hI]; exact gS)
  have hI2 : (h1.update S (Obj.mapSeq fun _ => #[Value.ref a, Value.ref a])).IsListIter I l 1 := hI1.at fun o e => (Heap.get?_update_other _ _ iS).trans e
  rw [hname]
  generalize h1.update S (Obj.mapSeq fun _ => #[Value.ref a, Value.ref a]) = h2 at hS2 G2 hI2 ⊢
  -- the second
  refine wpAny_pure ⟨plainId_quiet F.plain_min_loop _, codeAny_builtin F.entry_min_loop ?_⟩
  rw [Around.under_plainId F.plain_min_loop _]
  show wpAny _ A.in1 (seqItems? (.ref S) >>= _) _ _ _
  refine wpAny_bind (wpAny_seqItems hS2 rfl ?_)
  show wpAny _ A.in1 (tryCatch (pyNext (.ref I)) _ >>= _) _ _ _
  refine wpAny_bind (wpAny_tryCatch (wpAny_pyNext_list_item hI2 ⟨_, G2.keep _ _ hlo, rfl, n, rfl⟩ (x := .ref b) rfl fun h3 hI3 hs3 => ?_))
  have hS3 := (hs3.2 _ iS).trans hS2
  have G3 := G2.but hs3 (by rw [hI]; exact Nat.le_refl _)
  show wpAny _ A.in1 (tryCatch (holding [.ref b, .ref b] (richCompare .Lt (.ref b) (.ref a) >>= _)) _ >>= _) _ _ _
  refine wpAny_bind (wpAny_tryCatch (wpAny_holding (wpAny_bind (hc _ _ _ G3 ?_))))
  refine wpAny_bind (wpAny_holding (wpAny_truthy_bool ?_))
  refine wpAny_bind (wpAny_letGo (wpAny_pure ?_))
  have last : ∀ (h' : Heap) (v : Addr), h'.IsListIter I l 2 → Grew s { s with heap := h' } → (∃ c, h'.get? S = some (lobj [.ref v, .ref v] c)) → (∀ s', Grew s s' → Q (.ref v) s') →
      codeAny (model prog w) A (.builtin "min.loop" ⟨[.ref I, .none, .ref S], []⟩) (wants Q E) { s with heap := h' } := by
    rintro h' v hI' G' ⟨c', hS'⟩ hq
    refine codeAny_builtin F.entry_min_loop ?_
    rw [Around.under_plainId F.plain_min_loop _]
    show wpAny _ A.in1 (seqItems? (.ref S) >>= _) _ _ _
    refine wpAny_bind (wpAny_seqItems hS' rfl ?_)
    show wpAny _ A.in1 (tryCatch (pyNext (.ref I)) _ >>= _) _ _ _
    refine wpAny_bind (wpAny_tryCatch (wpAny_pyNext_list_end hh hI' ⟨_, G'.keep _ _ hlo, rfl, n, rfl⟩ rfl fun h4 he => ?_))
    have hS4 := he _ _ iS hS'
    show wpAny _ A.in1 (updateSeq S (fun _ => #[]) >>= _) _ _ _
    refine wpAny_bind (wpAny_updateSeq hS4 rfl (wpAny_bind (wpAny_letGo (wpAny_pure ?_))))
    refine hq _ ⟨⟨_, _, rfl⟩, fun x o e => ?_, ?_, Nat.le_refl _⟩
    · have hx : x < I := hI ▸ Heap.lt_size e
      exact (Heap.get?_update_other _ _ (Nat.ne_of_gt (Nat.lt_of_lt_of_le hx gS))).trans (he _ _ (Nat.ne_of_lt hx) (G'.keep _ _ e))
    · show _ ≤ (h4.update S _).objs.size
      rw [Heap.size_after_update]
      rw [hI]
      exact Nat.le_of_lt (Nat.lt_of_le_of_lt gS (Heap.lt_size hS4))
  cases bt with
  | true =>
    simp only [if_true] at h ⊢
    refine wpAny_bind ?_
    refine wpAny_updateSeq hS3 rfl (wpAny_bind (wpAny_letGo ?_))
    rw [hname]
    refine wpAny_pure ⟨plainId_quiet F.plain_min_loop _, last _ b (hI3.at fun o e => (Heap.get?_update_other _ _ iS).trans e) (G3.but (Heap.SameBut.update h3 S (Obj.mapSeq fun _ => #[Value.ref b, Value.ref b])) (by rw [hI]; exact gS)) ⟨_, Heap.get?_update_self _ hS3 rfl⟩ h⟩
  | false =>
    simp only [Bool.false_eq_true, if_false] at h ⊢
    refine wpAny_bind (wpAny_letGo ?_)
    rw [hname]
    exact wpAny_pure ⟨plainId_quiet F.plain_min_loop _, last h3 a hI3 G3 ⟨_, hS3⟩ h⟩

theorem max_2 {l a b : Addr} {bt : Bool} {Q : Value → Shared → Prop} (hh : A.handled = none) (hl : IsL s.heap.get? l [.ref a, .ref b])
    (hc : ∀ (s' : Shared) (Q' : Value → Shared → Prop) (E' : Value → Shared → Prop), Grew s s' → Q' (.bool bt) s' → wpAny (model prog w) A.in1 (richCompare .Gt (.ref b) (.ref a)) Q' E' s')
    (h : ∀ s', Grew s s' → Q (.ref (if bt = true then b else a)) s') : wpAny (model prog w) A (call (.builtin "max") [.ref l]) Q E s := by
  have hname : (toString "max" ++ toString ".loop" : String) = "max.loop" := by decide
  obtain ⟨n, hlo⟩ := hl
  refine call_function_tree F.kind_max F.plain_max F.entry_max (F.args_max1 _) ?_
  show wpAny _ A.in1 (Builtin.Builtins.bindParams "max" ["key", "default"] 0 ⟨[], []⟩ >>= _) _ _ s
  refine wpAny_bind (wpAny_of_eq (show Builtin.Builtins.bindParams "max" ["key", "default"] 0 ⟨[], []⟩ = pure [none, none] from rfl) ?_)
  refine wpAny_bind (wpAny_pure ?_)
  refine wpAny_bind (wpAny_pyIter_list (items := [Value.ref a, Value.ref b].toArray) ⟨_, hlo, rfl, n, rfl⟩ ?_)
  refine wpAny_bind (wpAny_newObj_type ?_)
  rw [hname]
  have hlt : l < s.heap.objs.size := Heap.lt_size hlo
  have hz1 : (s.heap.push (iobj l 0)).objs.size = s.heap.objs.size + 1 := Heap.size_push _ _
  show wpAny _ A.in1 (again (.builtin "max.loop" ⟨[.ref s.heap.objs.size, .none, .ref (s.heap.push (iobj l 0)).objs.size], []⟩)) _ _ { s with heap := (s.heap.push (iobj l 0)).push (lobj []) }
  rw [hz1]
  have hI0 : ((s.heap.push (iobj l 0)).push (lobj [])).IsListIter s.heap.objs.size l 0 := ⟨_, Heap.get?_push_of_some _ (Heap.get?_push_size _ rfl), rfl, rfl⟩
  have hS0 : ((s.heap.push (iobj l 0)).push (lobj [])).get? (s.heap.objs.size + 1) = some (lobj []) := by
    have := Heap.get?_push_size (s.heap.push (iobj l 0)) (o := lobj []) rfl
    rwa [hz1] at this
  have G0 : Grew s { s with heap := (s.heap.push (iobj l 0)).push (lobj []) } :=
    (Grew.push s (iobj l 0) s.toks).trans (Grew.push { s with heap := s.heap.push (iobj l 0) } (lobj []) s.toks)
  have iS : s.heap.objs.size + 1 ≠ s.heap.objs.size := Nat.succ_ne_self _
  have gS : s.heap.objs.size ≤ s.heap.objs.size + 1 := Nat.le_succ _
  generalize (s.heap.push (iobj l 0)).push (lobj []) = h0 at hI0 hS0 G0 ⊢
  generalize hS : s.heap.objs.size + 1 = S at hS0 iS gS ⊢
  generalize hI : s.heap.objs.size = I at hI0 iS gS ⊢
  -- the first item
  refine wpAny_pure ⟨plainId_quiet F.plain_max_loop _, codeAny_builtin F.entry_max_loop ?_⟩
  rw [Around.under_plainId F.plain_max_loop _]
  show wpAny _ A.in1 (seqItems? (.ref S) >>= _) _ _ _
  refine wpAny_bind (wpAny_seqItems hS0 rfl ?_)
  show wpAny _ A.in1 (tryCatch (pyNext (.ref I)) _ >>= _) _ _ _
  refine wpAny_bind (wpAny_tryCatch (wpAny_pyNext_list_item hI0 ⟨_, G0.keep _ _ hlo, rfl, n, rfl⟩ (x := .ref a) rfl fun h1 hI1 hs1 => ?_))
  have hS1 := (hs1.2 _ iS).trans hS0
  have G1 := G0.but hs1 (by rw [hI]; exact Nat.le_refl _)
  show wpAny _ A.in1 (updateSeq S (fun _ => #[.ref a, .ref a]) >>= _) _ _ _
  refine wpAny_bind (wpAny_updateSeq hS1 rfl ?_)
  have hS2 := Heap.get?_update_self (Obj.mapSeq fun _ => #[Value.ref a, Value.ref a]) hS1 rfl
  have G2 := G1.but (Heap.SameBut.update h1 S (Obj.mapSeq fun _ => #[Value.ref a, Value.ref a])) (by rw [hI]; exact gS)
  have hI2 : (h1.update S (Obj.mapSeq fun _ => #[Value.ref a, Value.ref a])).IsListIter I l 1 := hI1.at fun o e => (Heap.get?_update_other _ _ iS).trans e
  rw [hname]
  generalize h1.update S (Obj.mapSeq fun _ => #[Value.ref a, Value.ref a]) = h2 at hS2 G2 hI2 ⊢
  -- the second
  refine wpAny_pure ⟨plainId_quiet F.plain_max_loop _, codeAny_builtin F.entry_max_loop ?_⟩
  rw [Around.under_plainId F.plain_max_loop _]
  show wpAny _ A.in1 (seqItems? (.ref S) >>= _) _ _ _
  refine wpAny_bind (wpAny_seqItems hS2 rfl ?_)
  show wpAny _ A.in1 (tryCatch (pyNext (.ref I)) _ >>= _) _ _ _
  refine wpAny_bind (wpAny_tryCatch (wpAny_pyNext_list_item hI2 ⟨_, G2.keep _ _ hlo, rfl, n, rfl⟩ (x := .ref b) rfl fun h3 hI3 hs3 => ?_))
  have hS3 := (hs3.2 _ iS).trans hS2
  have G3 := G2.but hs3 (by rw [hI]; exact Nat.le_refl _)
  show wpAny _ A.in1 (tryCatch (holding [.ref b, .ref b] (richCompare .Gt (.ref b) (.ref a) >>= _)) _ >>= _) _ _ _
  refine wpAny_bind (wpAny_tryCatch (wpAny_holding (wpAny_bind (hc _ _ _ G3 ?_))))
  refine wpAny_bind (wpAny_holding (wpAny_truthy_bool ?_))
  refine wpAny_bind (wpAny_letGo (wpAny_pure ?_))
  have last : ∀ (h' : Heap) (v : Addr), h'.IsListIter I l 2 → Grew s { s with heap := h' } → (∃ c, h'.get? S = some (lobj [.ref v, .ref v] c)) → (∀ s', Grew s s' → Q (.ref v) s') →
      codeAny (model prog w) A (.builtin "max.loop" ⟨[.ref I, .none, .ref S], []⟩) (wants Q E) { s with heap := h' } := by
    rintro h' v hI' G' ⟨c', hS'⟩ hq
    refine codeAny_builtin F.entry_max_loop ?_
    rw [Around.under_plainId F.plain_max_loop _]
    show wpAny _ A.in1 (seqItems? (.ref S) >>= _) _ _ _
    refine wpAny_bind (wpAny_seqItems hS' rfl ?_)
    show wpAny _ A.in1 (tryCatch (pyNext (.ref I)) _ >>= _) _ _ _
    refine wpAny_bind (wpAny_tryCatch (wpAny_pyNext_list_end hh hI' ⟨_, G'.keep _ _ hlo, rfl, n, rfl⟩ rfl fun h4 he => ?_))
    have hS4 := he _ _ iS hS'
    show wpAny _ A.in1 (updateSeq S (fun _ => #[]) >>= _) _ _ _
    refine wpAny_bind (wpAny_updateSeq hS4 rfl (wpAny_bind (wpAny_letGo (wpAny_pure ?_))))
    refine hq _ ⟨⟨_, _, rfl⟩, fun x o e => ?_, ?_, Nat.le_refl _⟩
    · have hx : x < I := hI ▸ Heap.lt_size e
      exact (Heap.get?_update_other _ _ (Nat.ne_of_gt (Nat.lt_of_lt_of_le hx gS))).trans (he _ _ (Nat.ne_of_lt hx) (G'.keep _ _ e))
    · show _ ≤ (h4.update S _).objs.size
      rw [Heap.size_after_update]
      rw [hI]
      exact Nat.le_of_lt (Nat.lt_of_le_of_lt gS (Heap.lt_size hS4))
  cases bt with
  | true =>
    simp only [if_true] at h ⊢
    refine wpAny_bind ?_
    refine wpAny_updateSeq hS3 rfl (wpAny_bind (wpAny_letGo ?_))
    rw [hname]
    refine wpAny_pure ⟨plainId_quiet F.plain_max_loop _, last _ b (hI3.at fun o e => (Heap.get?_update_other _ _ iS).trans e) (G3.but (Heap.SameBut.update h3 S (Obj.mapSeq fun _ => #[Value.ref b, Value.ref b])) (by rw [hI]; exact gS)) ⟨_, Heap.get?_update_self _ hS3 rfl⟩ h⟩
  | false =>
    simp only [Bool.false_eq_true, if_false] at h ⊢
    refine wpAny_bind (wpAny_letGo ?_)
    rw [hname]
    exact wpAny_pure ⟨plainId_quiet F.plain_max_loop _, last h3 a hI3 G3 ⟨_, hS3⟩ h⟩
end
end Mine
end

section
open PySem PySem.W PyProof.Rows PySem.Calls PySem.SeqAt
set_option Elab.async false
set_option maxRecDepth 100000
namespace Mine
/-- what lies at n or behind it -/
def Since (n : Nat) (h : Heap) : PM := fun a => if a < n then none else h.get? a
theorem Since.of {n : Nat} {h : Heap} {a : Addr} {o : Obj} (hn : n ≤ a) (e : h.get? a = some o) : Since n h a = some o := by unfold Since; rw [if_neg (Nat.not_lt.mpr hn)]; exact e
theorem Since.ge {n : Nat} {h : Heap} {a : Addr} {o : Obj} (e : Since n h a = some o) : n ≤ a ∧ h.get? a = some o := by
  unfold Since at e
  by_cases ha : a < n
  · rw [if_pos ha] at e; cases e
  · rw [if_neg ha] at e; exact ⟨Nat.le_of_not_lt ha, e⟩
theorem Since.new_le {n : Nat} {h h' : Heap} (hn : n ≤ h.objs.size) : (New h h').le (Since n h') := fun _ _ e => Since.of (Nat.le_trans hn (New.ge e).1) (New.ge e).2
theorem Since.le_new {n : Nat} {h h' : Heap} (hn : h.objs.size ≤ n) : (Since n h').le (New h h') := fun a o e => by
  obtain ⟨h1, h2⟩ := Since.ge e
  unfold New; rw [if_neg (Nat.not_lt.mpr (Nat.le_trans hn h1))]; exact h2
structure Later (n : Nat) (s s' : Shared) : Prop where
  le : (Since n s.heap).le (Since n s'.heap)
  tok : s.toks ≤ s'.toks
theorem Later.of {n : Nat} {s s' : Shared} (h : ∀ a o, n ≤ a → s.heap.get? a = some o → s'.heap.get? a = some o) (t : s.toks ≤ s'.toks) : Later n s s' :=
  ⟨fun a o e => Since.of (Since.ge e).1 (h a o (Since.ge e).1 (Since.ge e).2), t⟩
theorem Grew.later {s s' : Shared} (G : Grew s s') (n : Nat) : Later n s s' := .of (fun a o _ e => G.keep a o e) G.tok
theorem Later.trans {n : Nat} {s s' s'' : Shared} (a : Later n s s') (b : Later n s' s'') : Later n s s'' := ⟨PM.le_trans a.le b.le, Nat.le_trans a.tok b.tok⟩
theorem Later.new {n : Nat} {s₀ s s' : Shared} (a : Later n s s') (hn : n ≤ s₀.heap.objs.size) : (New s₀.heap s.heap).le (Since n s'.heap) := PM.le_trans (Since.new_le hn) a.le

section
variable {prog : Program} {w : World} {A : Around} {E : Value → Shared → Prop} {env : Env}

abbrev tests (ifs : List Expr) (env : Env) : Sem Bool := forIn ifs true fun c r => if r = true then do let ok ← isTrue c env (eval c env); pure (ForInStep.yield ok) else pure (ForInStep.yield r)
end
end Mine
end

section
open PySem PySem.W PyProof.Rows PySem.Calls PySem.SeqAt
set_option Elab.async false
set_option maxRecDepth 100000
set_option linter.unusedVariables false
namespace Mine
/-- s' is s with more objects; the frames fs may have other slots -/
structure GrewF (fs : List Addr) (s s' : Shared) : Prop where
  same : ∃ h tk, s' = { s with heap := h, toks := tk }
  keep : ∀ b o, b ∉ fs → s.heap.get? b = some o → s'.heap.get? b = some o
  slots : ∀ b o, b ∈ fs → s.heap.get? b = some o → ∃ sl, s'.heap.get? b = some { o with slots := sl }
  size : s.heap.objs.size ≤ s'.heap.objs.size
  tok : s.toks ≤ s'.toks
/-- what a comprehension keeps while the frames fs may get other slots -/
def KeepF (fs : List Addr) (C D : Addr) (wr : List Addr) (h h' : Heap) : Prop :=
  (∀ b o, b ≠ C → b ∉ wr → b ≠ D → b ∉ fs → h.get? b = some o → h'.get? b = some o) ∧ ∀ b o, b ∈ fs → h.get? b = some o → ∃ sl, h'.get? b = some { o with slots := sl }
theorem KeepF.refl (fs : List Addr) (C D : Addr) (wr : List Addr) (h : Heap) : KeepF fs C D wr h h := ⟨fun _ _ _ _ _ _ e => e, fun _ o _ e => ⟨o.slots, e⟩⟩
theorem KeepF.transF {fs : List Addr} {C D : Addr} {wr : List Addr} {h h' h'' : Heap} (a : KeepF fs C D wr h h') (k : ∀ b o, b ∉ fs → h'.get? b = some o → h''.get? b = some o) (l : ∀ b o, b ∈ fs → h'.get? b = some o → ∃ sl, h''.get? b = some { o with slots := sl }) : KeepF fs C D wr h h'' :=
  ⟨fun b o h1 h2 h3 h4 e => k b o h4 (a.1 b o h1 h2 h3 h4 e), fun b o hb e => let ⟨_, x⟩ := a.2 b o hb e; let ⟨sl, y⟩ := l b _ hb x; ⟨sl, y⟩⟩
theorem KeepF.trans {fs : List Addr} {C D : Addr} {wr : List Addr} {h h' h'' : Heap} (a : KeepF fs C D wr h h') (hC : C ∉ fs) (hD : D ∉ fs) (hw : ∀ b ∈ wr, b ∉ fs) (k : ∀ b o, b ≠ C → b ∉ wr → b ≠ D → h'.get? b = some o → h''.get? b = some o) : KeepF fs C D wr h h'' :=
  ⟨fun b o h1 h2 h3 h4 e => k b o h1 h2 h3 (a.1 b o h1 h2 h3 h4 e), fun b o hb e => let ⟨sl, x⟩ := a.2 b o hb e; ⟨sl, k b _ (fun q => hC (q ▸ hb)) (fun q => hw b q hb) (fun q => hD (q ▸ hb)) x⟩⟩
theorem GrewF.later {fs : List Addr} {s s' : Shared} (G : GrewF fs s s') {n : Nat} (hn : ∀ f ∈ fs, f < n) : Later n s s' := .of (fun a o ha e => G.keep a o (fun q => absurd (hn a q) (Nat.not_lt.mpr ha)) e) G.tok
theorem Grew.f {s s' : Shared} (G : Grew s s') (fs : List Addr) : GrewF fs s s' := ⟨G.same, fun b o _ e => G.keep b o e, fun b o _ e => ⟨o.slots, G.keep b o e⟩, G.size, G.tok⟩
theorem GrewF.trans {fs : List Addr} {s s' s'' : Shared} (a : GrewF fs s s') (b : GrewF fs s' s'') : GrewF fs s s'' := by
  obtain ⟨⟨h, tk, rfl⟩, k, l, z, t⟩ := a
  obtain ⟨⟨h', tk', rfl⟩, k', l', z', t'⟩ := b
  refine ⟨⟨h', tk', rfl⟩, fun b o hb e => k' b o hb (k b o hb e), fun b o hb e => ?_, Nat.le_trans z z', Nat.le_trans t t'⟩
  obtain ⟨sl, e1⟩ := l b o hb e
  obtain ⟨sl', e2⟩ := l' b _ hb e1
  exact ⟨sl', e2⟩
/-- a list or a tuple at a -/
def IsLT (P : PM) (a : Addr) (vs : List Value) : Prop := ∃ n, P a = some (lobj vs n) ∨ P a = some (tobj vs n)
theorem IsL.lt {P : PM} {a : Addr} {vs : List Value} (h : IsL P a vs) : IsLT P a vs := let ⟨n, e⟩ := h; ⟨n, .inl e⟩
theorem IsLT.some {P : PM} {a : Addr} {vs : List Value} (h : IsLT P a vs) : ∃ o, P a = some o := let ⟨_, e⟩ := h; e.elim (fun e => ⟨_, e⟩) fun e => ⟨_, e⟩
section
variable {prog : Program} {w : World} {A : Around} {E : Value → Shared → Prop} {env : Env}

/-- an iterator over what lies at l -/
theorem iter_lt {s₀ s : Shared} {P : PM} {l : Addr} {vs : List Value} {Q : Value → Shared → Prop} (hh : A.handled = none) (O : Ok s₀ P s) (hl : IsLT P l vs)
    (h : ∀ s₂ o St, s₂ = { s with heap := s.heap.push o } → o.isFreed = false → Walks prog w A s.heap.objs.size [s.heap.objs.size, l] [s.heap.objs.size] vs.length (fun i v => vs[i]? = some v) St → St 0 s₂.heap → Q (.ref s.heap.objs.size) s₂) :
    wpAny (model prog w) A (pyIter (.ref l)) Q E s := by
  obtain ⟨o, ho⟩ := hl.some
  have hne : l ≠ s.heap.objs.size := Nat.ne_of_lt (O.lt ho)
  obtain ⟨n, e | e⟩ := hl
  · have hL : s.heap.IsList l vs.toArray := ⟨_, O.keep _ _ e, rfl, n, rfl⟩
    refine wpAny_pyIter_list hL ?_
    have W := Walks.list (prog := prog) (w := w) hh s.heap.objs.size l hne vs.toArray
    simp only [List.size_toArray, List.getElem?_toArray] at W
    exact h _ _ _ rfl rfl W ⟨⟨_, Heap.get?_push_size _ rfl, rfl, rfl⟩, ⟨_, Heap.get?_push_of_some _ (O.keep _ _ e), rfl, n, rfl⟩⟩
  · have hL : s.heap.IsTuple l vs.toArray := ⟨_, O.keep _ _ e, rfl, n, rfl⟩
    refine wpAny_pyIter_tuple hL ?_
    have W := Walks.tuple (prog := prog) (w := w) hh s.heap.objs.size l hne vs.toArray
    simp only [List.size_toArray, List.getElem?_toArray] at W
    exact h _ _ _ rfl rfl W ⟨⟨_, Heap.get?_push_size _ rfl, rfl, rfl⟩, ⟨_, Heap.get?_push_of_some _ (O.keep _ _ e), rfl, n, rfl⟩⟩

theorem comp_loopF {fs : List Addr} {R : Result → Shared → Prop} {s₀ s : Shared} {elt iter : Expr} {x : Str} {px : Pos} {ifs : List Expr} {scope : Scope} {pos : Pos} {I D : Addr} {fp wr : List Addr} {n N : Nat} {P : Nat → Value → Prop} {St : Nat → Heap → Prop}
    {cenv : Env} {K : PM} {J : Nat → List Value → Shared → Prop} (W : Walks prog w A I fp wr n P St) (hsz : n ≤ sizeLine)
    (hx : cenv.kindOf x = some .local) (hkind : cenv.scope.kind = .function)
    (F : Fn s₀ cenv.locals mt K s) (hDC : D ≠ cenv.locals) (hDf : D ∉ fp) (hCf : cenv.locals ∉ fp) (hKw : ∀ b ∈ wr, K b = none) (hKD : K D = none)
    (hC : N = cenv.locals + 1) (hD : D < N) (hw : ∀ b ∈ wr, b < N)
    (hKf : ∀ f ∈ fs, K f = none) (hDfs : D ∉ fs) (hCfs : cenv.locals ∉ fs) (hfpfs : ∀ b ∈ fp, b ∉ fs)
    (hst : St 0 s.heap) (hacc : s.heap.PlainList D #[]) (h0 : J 0 [] s) (mono : ∀ k ys s s', J k ys s → Later N s s' → J k ys s')
    (turn : ∀ k v m' ys s₃ (E' : Value → Shared → Prop), P k v → J k ys s₃ → Fn s₀ cenv.locals m' K s₃ → m' x = some v → N ≤ s₃.heap.objs.size → s.toks ≤ s₃.toks → KeepF fs cenv.locals D wr s.heap s₃.heap → (∃ h tk, s₃ = { s with heap := h, toks := tk }) →
      wpAny (model prog w) A (tests ifs cenv) (fun ok s₄ => GrewF fs s₃ s₄ ∧ if ok = true then wpAny (model prog w) A (eval elt cenv) (fun y s₅ => GrewF fs s₄ s₅ ∧ J (k + 1) (ys ++ [y]) s₅) E' s₄ else J (k + 1) ys s₄) E' s₃)
    (done : ∀ h' tk ys, (∃ m', h'.Ns cenv.locals m') → h'.PlainList D ys → J n ys.toList { s with heap := h', toks := tk } → KeepF fs cenv.locals D wr s.heap h' →
      s.toks ≤ tk → R (.ok .next) { s with heap := h', toks := tk }) :
    codeAny (model prog w) A (.compLoop (.ListComp elt [⟨.Name x px, iter, ifs, 0⟩] scope pos) 0 (.ref I) (.ref D) cenv) R s := by
  have hp : (cenv.scope.kind == .class || (cenv.scope.kind == .module && cenv.locals != cenv.globals)) = false := by rw [hkind]; rfl
  have hCw : cenv.locals ∉ wr := fun h => hCf (W.sub _ h)
  have hDw : D ∉ wr := fun h => hDf (W.sub _ h)
  have hwfs : ∀ b ∈ wr, b ∉ fs := fun b hb => hfpfs b (W.sub _ hb)
  have Kok : ∀ (h' : Heap) tk, KeepF fs cenv.locals D wr s.heap h' → s.toks ≤ tk → ∀ m', h'.Ns cenv.locals m' → Fn s₀ cenv.locals m' K { s with heap := h', toks := tk } := by
    intro h' tk hk ht m' hn
    obtain ⟨h₁, tk₁, e⟩ := F.same
    refine ⟨⟨⟨h', tk, by rw [e]⟩, fun a o q => hk.1 a o ?_ ?_ ?_ ?_ (F.keep a o q), F.base, Nat.lt_of_lt_of_le F.tok ht⟩, hn, F.hL⟩
    · intro z; rw [z, F.hL] at q; cases q
    · intro z; rw [hKw a z] at q; cases q
    · intro z; rw [z, hKD] at q; cases q
    · intro z; rw [hKf a z] at q; cases q
  refine codeAny_compLoop_tests
    (fun k s' => ∃ h' tk m' ys i, s' = { s with heap := h', toks := tk } ∧ St i h' ∧ h'.PlainList D ys ∧ h'.Ns cenv.locals m' ∧ J i ys.toList s' ∧ ys.size ≤ i ∧ i ≤ n ∧ k = n + 1 - i ∧
      KeepF fs cenv.locals D wr s.heap h' ∧ s.toks ≤ tk) ?_ (n + 1)
    ⟨s.heap, s.toks, mt, #[], 0, rfl, hst, hacc, F.ns, h0, Nat.zero_le _, Nat.zero_le _, rfl, KeepF.refl _ _ _ _ _, Nat.le_refl _⟩
  rintro k s' ⟨H, tk, m', ys, i, rfl, hst', hacc', hn', hJ, hys, hi, rfl, hk, htk⟩
  by_cases hlt : i < n
  · refine wpAny_with_toks (n := tk) (Nat.le_refl _) (W.item i _ _ _ hlt hst' fun v h₁ tk₁ hPv hst₁ hk₁ htk₁ => ?_)
    replace htk₁ : tk ≤ tk₁ := htk₁
    refine wpAny_assign_Name (wpAny_storeName_local hx (hn'.at' fun o e => hk₁ _ o hCw e) (fun h₂ hn₂ hs₂ => ?_) hp)
    have up₂ : ∀ b o, b ≠ cenv.locals → b ∉ wr → H.get? b = some o → h₂.get? b = some o := fun b o hbC hbf e => hs₂.extBut b o hbC (hk₁ b o hbf e)
    have hst₂ : St (i + 1) h₂ := W.frame _ _ _ hst₁ fun b hb o e => hs₂.extBut b o (fun h => hCf (h ▸ hb)) e
    have htk₂ : s.toks ≤ tk₁ + 1 := Nat.le_succ_of_le (Nat.le_trans htk htk₁)
    have hk₂ : KeepF fs cenv.locals D wr s.heap h₂ := hk.trans hCfs hDfs hwfs fun b o h1 h2 _ e => up₂ b o h1 h2 e
    have F₂ := Kok h₂ (tk₁ + 1) hk₂ htk₂ _ hn₂
    have acc₂ : h₂.PlainList D ys := hacc'.at fun o e => up₂ D o hDC hDw e
    have sz₂ : N ≤ h₂.objs.size := by rw [hC]; exact hn₂.lt
    have L₂ : Later N { s with heap := H, toks := tk } { s with heap := h₂, toks := tk₁ + 1 } := .of (fun a o ha e => up₂ a o (Nat.ne_of_gt (Nat.lt_of_lt_of_le (hC ▸ Nat.lt_succ_self _) ha)) (fun hm => absurd (hw a hm) (Nat.not_lt.mpr ha)) e) (Nat.le_succ_of_le htk₁)
    refine wpAny_mono (turn i v _ ys.toList _ _ hPv (mono _ _ _ _ hJ L₂) F₂ (by simp) sz₂ htk₂ hk₂ ⟨_, _, rfl⟩) (fun ok s₃ h₃ => ?_) fun _ _ e => e
    obtain ⟨G₃, h₃⟩ := h₃
    obtain ⟨⟨h₃', tk₃, rfl⟩, gk₃, gl₃, gz₃, gt₃⟩ := G₃
    cases ok with
    | false =>
      simp only [Bool.false_eq_true, if_false] at h₃ ⊢
      refine ⟨n + 1 - (i + 1), by omega, h₃', tk₃, _, ys, i + 1, rfl, W.frame _ _ _ hst₂ fun b hb o e => gk₃ b o (hfpfs b hb) e, acc₂.at fun o e => gk₃ _ o hDfs e, hn₂.at' fun o e => gk₃ _ o hCfs e, h₃, by omega, hlt, rfl, hk₂.transF gk₃ gl₃, Nat.le_trans htk₂ gt₃⟩
    | true =>
      simp only [if_true] at h₃ ⊢
      refine wpAny_mono h₃ (fun y s₄ h₄ => ?_) fun _ _ e => e
      obtain ⟨G₄, hJ₄⟩ := h₄
      obtain ⟨⟨h₄', tk₄, rfl⟩, gk₄, gl₄, gz₄, gt₄⟩ := G₄
      refine wpAny_list_append_plain (hsz := by omega) ((acc₂.at fun o e => gk₃ _ o hDfs e).at fun o e => gk₄ _ o hDfs e) fun h₅ hl₅ hs₅ => ?_
      refine ⟨n + 1 - (i + 1), by omega, h₅, tk₄, _, ys.push y, i + 1, rfl, ?_, hl₅, ((hn₂.at' fun o e => gk₃ _ o hCfs e).at' fun o e => gk₄ _ o hCfs e).sameBut hs₅ (Ne.symm hDC), ?_, by rw [Array.size_push]; omega, hlt, rfl,
        ((hk₂.transF gk₃ gl₃).transF gk₄ gl₄).trans hCfs hDfs hwfs fun b o _ _ h3 e => hs₅.extBut b o h3 e, Nat.le_trans htk₂ (Nat.le_trans gt₃ gt₄)⟩
      · exact W.frame _ _ h₅ hst₂ fun b hb o e => hs₅.extBut b o (fun h => hDf (h ▸ hb)) (gk₄ b o (hfpfs b hb) (gk₃ b o (hfpfs b hb) e))
      · rw [Array.toList_push]
        exact mono _ _ _ _ hJ₄ (.of (fun a o ha e => hs₅.extBut a o (Nat.ne_of_gt (Nat.lt_of_lt_of_le hD ha)) e) (Nat.le_refl _))
  · have hin : i = n := by omega
    refine wpAny_with_toks (n := tk) (Nat.le_refl _) (W.done _ _ _ (hin ▸ hst') fun h₁ tk₁ hk₁ htk₁ => ?_)
    replace htk₁ : tk ≤ tk₁ := htk₁
    refine done h₁ tk₁ ys ⟨m', hn'.at' fun o e => hk₁ _ o hCw e⟩ (hacc'.at fun o e => hk₁ _ o hDw e) (mono _ _ _ _ (hin ▸ hJ) (.of (fun a o ha e => hk₁ a o (fun hm => absurd (hw a hm) (Nat.not_lt.mpr ha)) e) htk₁)) (hk.trans hCfs hDfs hwfs fun b o _ h2 _ e => hk₁ b o h2 e) (Nat.le_trans htk htk₁)

/-- what a comprehension's turn does -/
def TurnF (fs : List Addr) (prog : Program) (w : World) (A : Around) (s₀ s₁ : Shared) (cenv : Addr → Env) (x : Str) (ifs : List Expr) (elt : Expr) (vs : List Value) (P : PM) (J : Nat → List Value → Shared → Prop) : Prop :=
  ∀ k v C m' ys s₃ (E' : Value → Shared → Prop), vs[k]? = some v → J k ys s₃ → Fn s₀ C m' P s₃ → m' x = some v → s₁.heap.objs.size + 3 ≤ s₃.heap.objs.size → s₁.toks ≤ s₃.toks → GrewF fs s₁ s₃ →
      wpAny (model prog w) A (tests ifs (cenv C)) (fun ok s₄ => GrewF fs s₃ s₄ ∧ if ok = true then wpAny (model prog w) A (eval elt (cenv C)) (fun y s₅ => GrewF fs s₄ s₅ ∧ J (k + 1) (ys ++ [y]) s₅) E' s₄ else J (k + 1) ys s₄) E' s₃

theorem comp_blockF {fs : List Addr} {RR : Value → Addr → Result → Shared → Prop} {s₀ s₁ : Shared} {elt iter : Expr} {x : Str} {px : Pos} {ifs : List Expr} {scope : Scope} {cl : List (Str × Addr)} {pos : Pos} {l : Addr} {vs : List Value}
    {P : PM} {m : Str → Option Value} {L : Addr} {J : Nat → List Value → Shared → Prop} (hh : A.handled = none) (F : Fn s₀ L m P s₁) (hl : IsLT P l vs) (hsz : vs.length ≤ sizeLine)
    (hcell : ∀ y ∈ scope.names, y.2 ≠ .cell) (hkind : scope.kind = .function) (hx : scope.names.lookup x = some .local)
    (h0 : ∀ s, J 0 [] s) (mono : ∀ k ys s s', J k ys s → Later (s₁.heap.objs.size + 3) s s' → J k ys s') (hfs : ∀ f ∈ fs, P f = none ∧ f < s₁.heap.objs.size) (turn : TurnF fs prog w A s₀ s₁ (fun C => compEnvC scope cl C env) x ifs elt vs P J)
    (done : ∀ D C ys s', s₁.heap.objs.size ≤ D → D < C → C < s₁.heap.objs.size + 3 → (∃ h' tk, s' = { s₁ with heap := h', toks := tk }) → (∃ m', s'.heap.Ns C m') → s'.heap.PlainList D ys → J vs.length ys.toList s' → (∀ b o, b ∉ fs → s₁.heap.get? b = some o → s'.heap.get? b = some o) → (∀ b o, b ∈ fs → s₁.heap.get? b = some o → ∃ sl, s'.heap.get? b = some { o with slots := sl }) → s₁.toks ≤ s'.toks → RR (.ref D) C (.ok .next) s') :
    wpAny (model prog w) A (pyIter (.ref l)) (fun it s₂ => wpAny (model prog w) A (newList []) (fun acc s₃ => wpAny (model prog w) A (newFunctionEnv scope env.globals cl [] env.qual none .none (some env)) (fun cenv s₄ =>
      codeAny (model prog w) A (.compStart (.ListComp elt [⟨.Name x px, iter, ifs, 0⟩] scope pos) 0 it acc { cenv with scope := relabel scope env }) (RR acc cenv.locals) s₄) E s₃) E s₂) E s₁ := by
  refine iter_lt hh F.toOk hl fun s₂ oI St hs₂ hfr W hst => ?_
  have sz₂ : s₂.heap.objs.size = s₁.heap.objs.size + 1 := by rw [hs₂]; exact Heap.size_push _ _
  have k₂ : PM.le s₁.heap.get? s₂.heap.get? := fun a o e => by rw [hs₂]; exact Heap.get?_push_of_some _ e
  have t₂ : s₂.toks = s₁.toks := by rw [hs₂]
  refine wpAny_newObj_type (wpAny_newFunctionEnv hcell (by intro y hy; simp at hy) (fun h₁ hns₁ hsb₁ => ?_) hkind)
  dsimp only at hns₁ hsb₁ ⊢
  generalize hH2 : s₂.heap.push { cls := .type "list", dict := none, data := .seq ([] : List Value).toArray } = H2 at hns₁ hsb₁ ⊢
  have hC : H2.objs.size = s₂.heap.objs.size + 1 := by rw [← hH2, Heap.size_push]
  have below : ∀ b, b < s₂.heap.objs.size → b ≠ H2.objs.size ∧ b ≠ s₂.heap.objs.size := fun b hb => ⟨by omega, by omega⟩
  have hDC : s₂.heap.objs.size ≠ H2.objs.size := by omega
  have old : ∀ b o, s₂.heap.get? b = some o → h₁.get? b = some o := fun b o e => hsb₁.extBut b o (below b (Heap.lt_size e)).1 (Heap.get?_push_of_some _ (hH2 ▸ Heap.get?_push_of_some _ e))
  have hacc : h₁.PlainList s₂.heap.objs.size #[] := ⟨_, hsb₁.extBut _ _ hDC (Heap.get?_push_of_some _ (hH2 ▸ Heap.get?_push_size _ rfl))⟩
  obtain ⟨ol, hol⟩ := hl.some
  have hlz : l < s₁.heap.objs.size := F.toOk.lt hol
  have d1 : (s₂.heap.objs.size : Nat) ≠ s₁.heap.objs.size := by omega
  have d0 : s₁.heap.objs.size ≤ s₂.heap.objs.size := by omega
  have d2 : s₂.heap.objs.size ≠ l := Nat.ne_of_gt (Nat.lt_of_lt_of_le hlz d0)
  have d0' : s₁.heap.objs.size ≤ H2.objs.size := by omega
  have d3 : (H2.objs.size : Nat) ≠ s₁.heap.objs.size := by omega
  have d4 : H2.objs.size ≠ l := Nat.ne_of_gt (Nat.lt_of_lt_of_le hlz d0')
  have d5 : s₁.heap.objs.size + 3 = H2.objs.size + 1 := by omega
  have d6 : s₂.heap.objs.size < s₁.heap.objs.size + 3 := by omega
  have d7 : s₁.heap.objs.size ≤ s₂.heap.objs.size := by omega
  have d8 : s₂.heap.objs.size < H2.objs.size := by omega
  have d9 : H2.objs.size < s₁.heap.objs.size + 3 := by omega
  have hst₁ : St 0 h₁ := W.frame _ _ _ hst fun b _ o e => old b o e
  have F₁ : Fn s₀ H2.objs.size mt P { s₂ with heap := h₁, toks := s₂.toks + ([] : List (Str × Value)).length } := by
    obtain ⟨hq, tq, e⟩ := F.same
    refine ⟨⟨⟨h₁, s₂.toks, ?_⟩, fun a o q => old a o (k₂ a o (F.keep a o q)), F.base, by show 0 < s₂.toks; rw [t₂]; exact F.tok⟩, hns₁, F.fresh (by omega)⟩
    rw [hs₂, e]; rfl
  have loop : ∀ s₃ : Shared, s₃ = { s₂ with heap := h₁, toks := s₂.toks + ([] : List (Str × Value)).length } →
      codeAny (model prog w) A (.compLoop (.ListComp elt [⟨.Name x px, iter, ifs, 0⟩] scope pos) 0 (.ref s₁.heap.objs.size) (.ref s₂.heap.objs.size) (compEnvC scope cl H2.objs.size env))
        (RR (.ref s₂.heap.objs.size) H2.objs.size) s₃ := by
    rintro s₃ rfl
    refine comp_loopF (fs := fs) (N := s₁.heap.objs.size + 3) (cenv := compEnvC scope cl H2.objs.size env) (J := J) W hsz (lookup_relabel_local hx) hkind F₁ hDC (by simp [d1, d2]) (by show H2.objs.size ∉ _; simp [d3, d4])
      (fun b hb => by simp at hb; rw [hb]; exact F.fresh (Nat.le_refl _)) (F.fresh d7) d5 d6 (fun b hb => by simp at hb; rw [hb]; exact Nat.lt_add_of_pos_right (by decide)) (fun f hf => (hfs f hf).1) (fun q => absurd (hfs _ q).2 (Nat.not_lt.mpr d0)) (fun q => absurd (hfs _ q).2 (Nat.not_lt.mpr d0')) ?_ hst₁ hacc (h0 _) mono ?_ ?_
    · intro b hb q
      simp only [List.mem_cons, List.not_mem_nil, or_false] at hb
      rcases hb with rfl | rfl
      · exact absurd (hfs _ q).2 (Nat.lt_irrefl _)
      · rw [(hfs _ q).1] at hol; cases hol
    · intro k v m' ys s₃ E' hv hJ F₃ hm hz ht hkf hsame
      obtain ⟨h₃, tk₃, rfl⟩ := hsame
      refine turn k v _ m' ys _ E' hv hJ F₃ hm hz (by rw [← t₂]; exact ht) ⟨⟨h₃, tk₃, by rw [hs₂]⟩, fun a o hb e => ?_, fun a o hb e => hkf.2 a o hb (old a o (k₂ a o e)), Nat.le_trans (Nat.le_add_right _ 3) hz, by rw [← t₂]; exact ht⟩
      have ha := Heap.lt_size e
      exact hkf.1 a o (Nat.ne_of_lt (Nat.lt_of_lt_of_le ha d0')) (by simp; exact Nat.ne_of_lt ha) (Nat.ne_of_lt (Nat.lt_of_lt_of_le ha d0)) hb (old a o (k₂ a o e))
    · intro h' tk ys hn hpl hJ hk ht
      have ht' : s₁.toks ≤ tk := by rw [← t₂]; exact ht
      refine done _ _ ys _ d7 d8 d9 ⟨h', tk, by rw [hs₂]⟩ hn hpl hJ (fun a o hb e => ?_) (fun a o hb e => hk.2 a o hb (old a o (k₂ a o e))) ht'
      have ha := Heap.lt_size e
      exact hk.1 a o (Nat.ne_of_lt (Nat.lt_of_lt_of_le ha d0')) (by simp; exact Nat.ne_of_lt ha) (Nat.ne_of_lt (Nat.lt_of_lt_of_le ha d0)) hb (old a o (k₂ a o e))
  exact codeAny_compStart_list (loop _ rfl) (W.self 0 _ _ _ hst₁ (loop _ rfl))
/-- what a comprehension's turn does -/
def Turn (prog : Program) (w : World) (A : Around) (s₀ s₁ : Shared) (cenv : Addr → Env) (x : Str) (ifs : List Expr) (elt : Expr) (vs : List Value) (P : PM) (J : Nat → List Value → Shared → Prop) : Prop :=
  ∀ k v C m' ys s₃ (E' : Value → Shared → Prop), vs[k]? = some v → J k ys s₃ → Fn s₀ C m' P s₃ → m' x = some v → s₁.heap.objs.size + 3 ≤ s₃.heap.objs.size → s₁.toks ≤ s₃.toks →
      wpAny (model prog w) A (tests ifs (cenv C)) (fun ok s₄ => Grew s₃ s₄ ∧ if ok = true then wpAny (model prog w) A (eval elt (cenv C)) (fun y s₅ => Grew s₄ s₅ ∧ J (k + 1) (ys ++ [y]) s₅) E' s₄ else J (k + 1) ys s₄) E' s₃


theorem Turn.f {s₀ s₁ : Shared} {cenv : Addr → Env} {x : Str} {ifs : List Expr} {elt : Expr} {vs : List Value} {P : PM} {J : Nat → List Value → Shared → Prop} (turn : Turn prog w A s₀ s₁ cenv x ifs elt vs P J) : TurnF [] prog w A s₀ s₁ cenv x ifs elt vs P J := by
  intro k v C m' ys s₃ E' hv hJ F hm hz ht _
  refine wpAny_mono (turn k v C m' ys s₃ E' hv hJ F hm hz ht) (fun ok s₄ h => ⟨h.1.f [], ?_⟩) fun _ _ e => e
  cases ok with
  | false => exact h.2
  | true => exact wpAny_mono h.2 (fun y s₅ h => ⟨h.1.f [], h.2⟩) fun _ _ e => e
theorem comp_block {RR : Value → Addr → Result → Shared → Prop} {s₀ s₁ : Shared} {elt iter : Expr} {x : Str} {px : Pos} {ifs : List Expr} {scope : Scope} {cl : List (Str × Addr)} {pos : Pos} {l : Addr} {vs : List Value}
    {P : PM} {m : Str → Option Value} {L : Addr} {J : Nat → List Value → Shared → Prop} (hh : A.handled = none) (F : Fn s₀ L m P s₁) (hl : IsLT P l vs) (hsz : vs.length ≤ sizeLine)
    (hcell : ∀ y ∈ scope.names, y.2 ≠ .cell) (hkind : scope.kind = .function) (hx : scope.names.lookup x = some .local)
    (h0 : ∀ s, J 0 [] s) (mono : ∀ k ys s s', J k ys s → Later (s₁.heap.objs.size + 3) s s' → J k ys s') (turn : Turn prog w A s₀ s₁ (fun C => compEnvC scope cl C env) x ifs elt vs P J)
    (done : ∀ D C ys s', s₁.heap.objs.size ≤ D → D < C → C < s₁.heap.objs.size + 3 → (∃ h' tk, s' = { s₁ with heap := h', toks := tk }) → (∃ m', s'.heap.Ns C m') → s'.heap.PlainList D ys → J vs.length ys.toList s' → PM.le s₁.heap.get? s'.heap.get? → s₁.toks ≤ s'.toks → RR (.ref D) C (.ok .next) s') :
    wpAny (model prog w) A (pyIter (.ref l)) (fun it s₂ => wpAny (model prog w) A (newList []) (fun acc s₃ => wpAny (model prog w) A (newFunctionEnv scope env.globals cl [] env.qual none .none (some env)) (fun cenv s₄ =>
      codeAny (model prog w) A (.compStart (.ListComp elt [⟨.Name x px, iter, ifs, 0⟩] scope pos) 0 it acc { cenv with scope := relabel scope env }) (RR acc cenv.locals) s₄) E s₃) E s₂) E s₁ := by
  refine comp_blockF (fs := []) hh F hl hsz hcell hkind hx h0 mono nofun turn.f fun D C ys s' h1 h2 h3 h4 h5 h6 hJ hk _ ht => ?_
  exact done D C ys s' h1 h2 h3 h4 h5 h6 hJ (fun a o e => hk a o List.not_mem_nil e) ht
end
end Mine
end

section
open PySem PySem.W PyProof.Rows PySem.Calls PySem.SeqAt
set_option Elab.async false
set_option maxRecDepth 100000
namespace Mine
section
variable {prog : Program} {w : World} {A : Around} {E : Value → Shared → Prop} {env : Env}
theorem comp_e {s₀ s : Shared} {elt iter : Expr} {x : Str} {px : Pos} {ifs : List Expr} {scope : Scope} {cl : List (Str × Addr)} {pos : Pos} {Q : Value → Shared → Prop}
    (hh : A.handled = none) (hclos : closureFor scope env = pure cl) (hcell : ∀ y ∈ scope.names, y.2 ≠ .cell) (hkind : scope.kind = .function)
    (hnames : ∀ y ∈ scope.names, y.2 = .local → scope.names.lookup y.1 = some .local) (hx : scope.names.lookup x = some .local)
    (h : wpAny (model prog w) A (eval iter env) (fun xv s₁ => ∃ l vs m P, ∃ J : Nat → List Value → Shared → Prop, xv = .ref l ∧ Fn s₀ env.locals m P s₁ ∧ IsLT P l vs ∧ vs.length ≤ sizeLine ∧ (∀ s, J 0 [] s) ∧
      (∀ k ys s s', J k ys s → Later (s₁.heap.objs.size + 3) s s' → J k ys s') ∧ Turn prog w A s₀ s₁ (fun C => compEnvC scope cl C env) x ifs elt vs P J ∧
      (∀ D ys s', Grew s₁ s' → IsL (New s₁.heap s'.heap) D ys → J vs.length ys s' → Q (.ref D) s')) E s)
    (hs : ∀ x, foldedSetIterable iter env x = pure x := by intro _; rfl) :
    wpAny (model prog w) A (eval (.ListComp elt [⟨.Name x px, iter, ifs, 0⟩] scope pos) env) Q E s := by
  rw [eval_ListComp]
  refine wpAny_comprehension_free (use := none) rfl hs hclos hkind hnames (wpAny_mono h (fun xv s₁ h₁ => ?_) fun _ _ e => e)
  obtain ⟨l, vs, m, P, J, rfl, F, hl, hsz, h0, mono, turn, done⟩ := h₁
  refine comp_block (RR := fun acc C => compPost (model prog w) A E none Q acc C) hh F hl hsz hcell hkind hx h0 mono turn ?_
  intro D C ys s' hD hDC hC hsame hns hpl hJ hk ht
  obtain ⟨m', hn⟩ := hns
  refine ⟨m', hn, fun h'' hs'' => ?_⟩
  obtain ⟨hq, tq, rfl⟩ := hsame
  have hCz : C < h''.objs.size := by rw [hs''.1]; exact hn.lt
  have hkC : ∀ b o, s₁.heap.get? b = some o → b ≠ C := fun b o e => Nat.ne_of_lt (Nat.lt_of_lt_of_le (Heap.lt_size e) (Nat.le_of_lt (Nat.lt_of_le_of_lt hD hDC)))
  have G : Grew s₁ { s₁ with heap := h'', toks := tq } := ⟨⟨h'', tq, rfl⟩, fun b o e => hs''.extBut b o (hkC b o e) (hk b o e), Nat.le_of_lt (Nat.lt_of_le_of_lt hD (Nat.lt_trans hDC hCz)), ht⟩
  obtain ⟨n, hpl⟩ := hpl
  refine done D ys.toList _ G (IsL.new ⟨n, ?_⟩ hD) (mono _ _ _ _ hJ (.of (fun a o ha e => hs''.extBut a o (Nat.ne_of_gt (Nat.lt_of_lt_of_le hC ha)) e) (Nat.le_refl _)))
  have := hs''.extBut D _ (Nat.ne_of_lt hDC) hpl
  simpa using this

/-- y = [elt for x in iter if ..] in a frame -/
theorem comp_a {s₀ s : Shared} {elt iter : Expr} {x y : Str} {px py : Pos} {ifs : List Expr} {scope : Scope} {cl : List (Str × Addr)} {pos spos : Pos} {Q : Flow → Shared → Prop}
    (hh : A.handled = none) (hsw : swapsWith (.ListComp elt [⟨.Name x px, iter, ifs, 0⟩] scope pos) (some (.Name y py)) spos.line env = pure true)
    (hclos : closureFor scope env = pure cl) (hcell : ∀ y ∈ scope.names, y.2 ≠ .cell) (hkind : scope.kind = .function)
    (hnames : ∀ y ∈ scope.names, y.2 = .local → scope.names.lookup y.1 = some .local) (hx : scope.names.lookup x = some .local)
    (hy : env.kindOf y = some .local) (hk : env.scope.kind = .function)
    (h : wpAny (model prog w) A (eval iter env) (fun xv s₁ => ∃ l vs m P, ∃ J : Nat → List Value → Shared → Prop, xv = .ref l ∧ Fn s₀ env.locals m P s₁ ∧ IsLT P l vs ∧ vs.length ≤ sizeLine ∧ (∀ s, J 0 [] s) ∧
      (∀ k ys s s', J k ys s → Later (s₁.heap.objs.size + 3) s s' → J k ys s') ∧ Turn prog w A s₀ s₁ (fun C => compEnvC scope cl C env) x ifs elt vs P J ∧
      (∀ D ys K s'' s', J vs.length ys s'' → (Since (s₁.heap.objs.size + 3) s''.heap).le K → IsL K D ys → (∀ a o, K a = some o → s₁.heap.objs.size ≤ a) → s''.toks ≤ s'.toks → s₁.toks ≤ s''.toks → Fn s₀ env.locals (put m y (.ref D)) (P.join K) s' → Q .next s')) E s)
    (hs : ∀ x, foldedSetIterable iter env x = pure x := by intro _; rfl) :
    wpAny (model prog w) A (exec (.Assign [.Name y py] (.ListComp elt [⟨.Name x px, iter, ifs, 0⟩] scope pos) spos) env) Q E s := by
  rw [exec_Assign_Name_used _ _ _ _ hsw]
  refine wpAny_bind (wpAny_standAt (wpAny_bind ?_))
  show wpAny _ A (do let _ ← comprehension (.ListComp elt [⟨.Name x px, iter, ifs, 0⟩] scope pos) scope env _ (newList []) false (eval iter env) (some (assign (.Name y py) env))) _ _ s
  refine wpAny_bind (wpAny_mono (wpAny_comprehension_free (use := some (assign (.Name y py) env)) (Q := fun _ s' => Q .next s') rfl hs hclos hkind hnames (wpAny_mono h (fun xv s₁ h₁ => ?_) fun _ _ e => e)) (fun _ s' hq => wpAny_pure (wpAny_pure hq)) fun _ _ e => e)
  obtain ⟨l, vs, m, P, J, rfl, F, hl, hsz, h0, mono, turn, done⟩ := h₁
  refine comp_block (RR := fun acc C => compPost (model prog w) A E (some (assign (.Name y py) env)) (fun _ s' => Q .next s') acc C) hh F hl hsz hcell hkind hx h0 mono turn ?_
  intro D C ys s' hD hDC hC hsame hns hpl hJ hke ht
  obtain ⟨m', hn⟩ := hns
  obtain ⟨hq, tq, rfl⟩ := hsame
  have hLC : env.locals ≠ C := Nat.ne_of_lt (Nat.lt_of_lt_of_le F.lt (Nat.le_of_lt (Nat.lt_of_le_of_lt hD hDC)))
  have hLD : env.locals ≠ D := Nat.ne_of_lt (Nat.lt_of_lt_of_le F.lt hD)
  have hkC : ∀ b o, s₁.heap.get? b = some o → b ≠ C := fun b o e => Nat.ne_of_lt (Nat.lt_of_lt_of_le (Heap.lt_size e) (Nat.le_of_lt (Nat.lt_of_le_of_lt hD hDC)))
  show wpAny _ A (assign (.Name y py) env (.ref D)) _ _ _
  refine wpAny_assign_Name (wpAny_storeName_local hy (F.ns.keeps hke) (fun h₂ hn₂ hs₂ => ?_) (by rw [hk]; rfl))
  refine ⟨m', hn.sameBut hs₂ (Ne.symm hLC), fun h₃ hs₃ => ?_⟩
  obtain ⟨n, hpl⟩ := hpl
  have hK : ∀ a o, ((New s₁.heap hq).del C) a = some o → s₁.heap.objs.size ≤ a ∧ a ≠ C ∧ hq.get? a = some o := fun a o e => by
    by_cases ha : a = C
    · rw [ha, PM.del_self] at e; cases e
    · rw [PM.del_ne ha] at e; exact ⟨(New.ge e).1, ha, (New.ge e).2⟩
  have hKi : ∀ a o, s₁.heap.objs.size ≤ a → a ≠ C → hq.get? a = some o → ((New s₁.heap hq).del C) a = some o := fun a o h1 h2 h3 => by
    rw [PM.del_ne h2]; unfold New; rw [if_neg (Nat.not_lt.mpr h1)]; exact h3
  have up : ∀ b o, b ≠ env.locals → b ≠ C → hq.get? b = some o → h₃.get? b = some o := fun b o h1 h2 e => hs₃.extBut b o h2 (hs₂.extBut b o h1 e)
  refine done D ys.toList ((New s₁.heap hq).del C) { s₁ with heap := hq, toks := tq } _ hJ (fun a o e => ?_) ⟨n, hKi _ _ hD (Nat.ne_of_lt hDC) (by simpa using hpl)⟩ (fun a o e => (hK a o e).1) (Nat.le_succ _) ht ?_
  · obtain ⟨h1, h2⟩ := Since.ge e
    exact hKi a o (Nat.le_trans (Nat.le_add_right _ _) h1) (Nat.ne_of_gt (Nat.lt_of_lt_of_le hC h1)) h2
  · obtain ⟨h₁', tk₁', e⟩ := F.same
    refine ⟨⟨⟨h₃, _, by rw [e]⟩, fun a o q => ?_, PM.le_trans F.base (PM.le_join_left _ _), Nat.lt_of_lt_of_le F.tok (Nat.le_succ_of_le ht)⟩, hn₂.sameBut hs₃ hLC, ?_⟩
    · unfold PM.join at q
      cases p : P a with
      | some ox =>
        rw [p] at q; cases q
        exact up a _ (fun z => by rw [z, F.hL] at p; cases p) (hkC a _ (F.keep a _ p)) (hke a _ (F.keep a _ p))
      | none =>
        rw [p] at q
        obtain ⟨h1, h2, h3⟩ := hK a o q
        exact up a o (fun z => Nat.not_lt.mpr h1 (z ▸ F.lt)) h2 h3
    · unfold PM.join
      rw [F.hL]
      show ((New s₁.heap hq).del C) env.locals = none
      rw [PM.del_ne hLC]; unfold New; exact if_pos F.lt
end
end Mine
end

section
open PySem PySem.W PyProof.Rows
set_option Elab.async false
set_option maxRecDepth 100000
set_option maxHeartbeats 0
set_option linter.unusedVariables false
namespace Mine
local macro_rules | `(tactic| o_head $x) => `(tactic| skip)
/-- says nothing; but k_head writes the text's objects out, as Mine.hd.heap_1 -/
theorem hd (h : PySem.Challenge.rw_pd0132_01.Holds) : PySem.Challenge.rw_pd0132_01.Holds := by
  refine ⟨h.1, ?_⟩
  k_head
  exact h.2
end Mine
end

section
open PySem PySem.W PyProof.Rows PySem.Calls
set_option Elab.async false
set_option maxRecDepth 100000
namespace Mine
noncomputable abbrev KT (w : World) : Frag := Mine.hd.heap_1 w.params
noncomputable def fdAt (w : World) (f : Nat) : FuncData := match (KT w).lookup f with | some ⟨_, _, .func fd, _⟩ => fd | _ => default
noncomputable def bodyAt (w : World) (f : Nat) : List Stmt := match (fdAt w f).body with | .stmts b => b | _ => []
noncomputable abbrev envAt (w : World) (f : Nat) (L : Addr) : Env := callEnvC (fdAt w f) L f
variable {prog : Program} {w : World} {A : Around} {E : Value → Shared → Prop} {s₀ s : Shared} {P : PM} {p : Program} {loose : List Str}

local macro_rules | `(tactic| walk_at "eval Name") => `(tactic| first
  | refine nmL (by first | assumption | exact Fn.toks (by assumption) _ (by omega)) rfl ?_
  | refine nmG (by first | assumption | exact Ok.toks (by assumption) _ (by omega)) (by assumption) rfl ?_
  | refine nmB (by first | assumption | exact Ok.toks (by assumption) _ (by omega)) (by assumption) rfl (by boot_by_name) ?_)
set_option maxHeartbeats 1000000 in
theorem concat_ok {a b : Addr} {xs ys : List Value} {n : Nat} {Q : Value → Shared → Prop} (O : Ok s₀ P s) (T : Text (KT w) p loose s₀.heap) (hd : A.depth < recursionLimit)
    (ha : P a = some (lobj xs n)) (hb : IsL P b ys) (hsz : xs.length + ys.length ≤ sizeLine)
    (h : ∀ D s', Grew s s' → IsL (New s.heap s'.heap) D (xs ++ ys) → Q (.ref D) s') :
    wpAny (model prog w) A (call (.ref 28) [.ref a, .ref b]) Q E s := by
  refine enter (fd := fdAt w 28) (body := bodyAt w 28) (binds := [(Str.ofString "a", .ref a), (Str.ofString "b", .ref b)]) (m := put (put mt "a" (.ref a)) "b" (.ref b)) (cm := mt) O T hd (f := 28) rfl rfl rfl rfl (by kernel_rfl) rfl (by kernel_rfl) (fun _ => by kernel_rfl) (fun _ => by kernel_rfl) ?_
  intro L P₁ s₁ C
  have F := C.toFn
  have O₁ := F.toOk
  have k := PM.le_trans O.keep C.old
  refine wpAny_execs_cons ?_
  iterate 11 walk1
  refine call_hasattr_list (O₁.keep _ _ (k _ _ ha)) ?_
  intro s₂ G
  replace F := (F.toks (s₁.toks + 1) (by omega)).grew G
  replace O₁ := F.toOk
  iterate 8 walk1
  refine add_l O₁ (IsL.obj (k _ _ ha)) (hb.mono k) hsz ?_
  have F' := F.push (lobj (xs ++ ys)) (t := s₂.toks)
  have hge : s.heap.objs.size ≤ s₂.heap.objs.size := C.above ▸ Nat.le_of_lt F.lt
  intro htk
  refine h _ _ (F'.leave O (PM.le_trans C.old (PM.le_set (F.fresh (Nat.le_refl _)))) C.above htk) (IsL.new ((IsL.obj (PM.set_self _ _ _)).mono F'.keep) hge)
end Mine
end

section
open PySem PySem.W PyProof.Rows PySem.Calls
set_option Elab.async false
set_option maxRecDepth 100000
namespace Mine
variable {prog : Program} {w : World} {A : Around} {E : Value → Shared → Prop} {s₀ s : Shared} {P : PM} {p : Program} {loose : List Str}

theorem Ok.statics (O : Ok s₀ P s) (T : Text (KT w) p loose s₀.heap) : s.heap.Ns cStatics mt := by
  have h2 : s₀.heap.get? 2 = some _ := T.X 2 _ rfl
  refine ⟨_, #[], 0, O.keep _ _ (O.base _ _ h2), rfl, ?_, ?_⟩
  · intro e he; cases he <;> contradiction
  · intro name; rfl

theorem put_self (m : Str → Option Value) (x : Str) (v : Value) : put m x v x = some v := if_pos rfl
theorem put_ne {m : Str → Option Value} {x y : Str} {v : Value} (h : y ≠ x) : put m x v y = m y := if_neg h
theorem put_of {m : Str → Option Value} {x y : Str} {v z : Value} (h : y ≠ x) (e : m y = some z) : put m x v y = some z := (put_ne h).trans e
local macro_rules | `(tactic| walk_at "tk") => `(tactic| first | omega | (dsimp only; omega))
local macro_rules | `(tactic| walk_at "lk") => `(tactic| first | rfl | assumption | exact put_self _ _ _ | exact put_of (by decide) (by first | assumption | exact put_of (by decide) (by assumption)))
local macro_rules | `(tactic| walk_at "eval Name") => `(tactic| first
  | refine nmL (by first | assumption | exact Fn.toks (by assumption) _ (by walk_at "tk")) (by walk_at "lk") ?_
  | refine nmG (by first | assumption | exact Ok.toks (by assumption) _ (by walk_at "tk")) (by assumption) rfl ?_
  | refine nmB (by first | assumption | exact Ok.toks (by assumption) _ (by walk_at "tk")) (by assumption) rfl (by boot_by_name) ?_)
local macro_rules | `(tactic| walk_at "loadName") => `(tactic| refine ldL (by first | assumption | exact Fn.toks (by assumption) _ (by walk_at "tk")) (by walk_at "lk") ?_)
local macro_rules | `(tactic| walk_at "storeName") => `(tactic| (refine stL (by first | assumption | exact Fn.toks (by assumption) _ (by walk_at "tk")) ?_; intro s' F'))

set_option maxHeartbeats 1000000 in
theorem countOf_ok {a : Addr} {l : List (Str × Tok)} {x : Str} {u : Tok} {Q : Value → Shared → Prop} (O : Ok s₀ P s) (T : Text (KT w) p loose s₀.heap) (hd : A.depth < recursionLimit) (hh : A.handled = none)
    (ha : IsL P a (strValues l)) (hu : 0 < u) (hl : ∀ q ∈ l, 0 < q.2 ∧ (q.2 = u → q.1 = x))
    (h : ∀ t s', Grew s s' → Q (.int (l.countP fun q => q.1 == x) t) s') :
    wpAny (model prog w) A (call (.ref 35) [.ref a, .str x u]) Q E s := by
  refine enter (fd := fdAt w 35) (body := bodyAt w 35) (binds := [(Str.ofString "a", .ref a), (Str.ofString "b", .str x u)]) (m := put (put mt "a" (.ref a)) "b" (.str x u)) (cm := mt) O T hd (f := 35) rfl rfl rfl rfl (by kernel_rfl) rfl (by kernel_rfl) (fun _ => by kernel_rfl) (fun _ => by kernel_rfl) ?_
  intro L P₁ s₁ C
  have F := C.toFn
  have O₁ := F.toOk
  have k := PM.le_trans O.keep C.old
  refine wpAny_execs_cons ?_
  iterate 4 walk1
  rename Fn _ _ _ _ _ => F₂
  rename Shared => s₂
  refine wpAny_For ?_
  walk1
  refine loop_l F₂ hh (ha.mono k) (fun j m => m "b" = some (.str x u) ∧ ∃ t, m "count" = some (.int (((l.take j).countP fun q => q.1 == x : Nat) : Int) t)) ⟨rfl, _, rfl⟩ ?_ ?_
  · intro j v m' Q' s₃ hv hJ hQ F₃
    obtain ⟨hb, t, hc⟩ := hJ
    obtain ⟨q, hq, rfl⟩ : ∃ q, l[j]? = some q ∧ v = .str q.1 q.2 := by
      unfold strValues at hv
      rw [List.getElem?_map] at hv
      cases e : l[j]? with
      | none => rw [e] at hv; cases hv
      | some q => rw [e] at hv; cases hv; exact ⟨q, rfl, rfl⟩
    have hqm : q ∈ l := List.mem_of_getElem? hq
    have O₃ := F₃.toOk
    refine wpAny_execs_cons (wpAny_If (wpAny_mono (Q := fun c s' => s' = s₃ ∧ c = (q.1 == x)) (E := fun _ _ => False) ?_ ?_ (fun _ _ e => e.elim)))
    · iterate 4 walk1
      refine is_str (O₃.statics T) rfl (hl q hqm).1 hu (hl q hqm).2 ?_
      intro b hbq
      cases b with
      | true =>
        iterate 2 walk1
        exact ⟨rfl, by rw [hbq rfl]; exact (beq_self_eq_true x).symm⟩
      | false =>
        iterate 7 walk1
        refine wpAny_truthy_bool ?_
        cases e : q.1 == x
        · iterate 2 walk1
          exact ⟨rfl, rfl⟩
        · walk1
          exact ⟨rfl, rfl⟩
    · rintro c s' ⟨rfl, rfl⟩
      have hcnt : (l.take (j + 1)).countP (fun q => q.1 == x) = (l.take j).countP (fun q => q.1 == x) + if q.1 == x then 1 else 0 := by
        rw [List.take_add_one, hq]; simp [List.countP_append, List.countP_cons]
      cases e : q.1 == x
      · rw [e] at hcnt
        refine ite_neg (by decide) ?_
        iterate 2 walk1
        exact ⟨_, _, ⟨put_of (by decide) hb, t, by rw [hcnt]; exact put_of (by decide) hc⟩, PM.le_refl _, F₃⟩
      · rw [e] at hcnt
        refine ite_pos rfl ?_
        iterate 5 walk1
        refine stL (F₃.toks _ (by walk_at "tk")) ?_
        intro s₅ F₅
        iterate 2 walk1
        exact ⟨_, _, ⟨put_of (by decide) (put_of (by decide) hb), _, by rw [hcnt]; exact put_self _ _ _⟩, PM.le_refl _, F₅⟩
  · intro m' Q' s₃ hJ hQ F₃
    obtain ⟨hb, t, hc⟩ := hJ
    iterate 4 walk1
    intro htk
    have e1 : l.take (strValues l).length = l := by rw [show (strValues l).length = l.length from List.length_map _]; exact List.take_length
    rw [e1]
    exact h _ _ (F₃.leave O (PM.le_trans C.old hQ) C.above htk)
end Mine
end

section
open PySem PySem.W PyProof.Rows PySem.Calls
set_option Elab.async false
set_option maxRecDepth 100000
namespace Mine
variable {prog : Program} {w : World} {A : Around} {E : Value → Shared → Prop} {s₀ s : Shared} {P : PM} {p : Program} {loose : List Str}

local macro_rules | `(tactic| walk_at "tk") => `(tactic| first | omega | (dsimp only; omega))
local macro_rules | `(tactic| walk_at "lk") => `(tactic| first | rfl | assumption | exact put_self _ _ _ | exact put_of (by decide) (by first | assumption | exact put_self _ _ _ | exact put_of (by decide) (by assumption)))
local macro_rules | `(tactic| walk_at "eval Name") => `(tactic| first
  | refine nmL (by first | assumption | exact Fn.toks (by assumption) _ (by walk_at "tk")) (by walk_at "lk") ?_
  | refine nmG (by first | assumption | exact Ok.toks (by assumption) _ (by walk_at "tk")) (by assumption) rfl ?_
  | refine nmB (by first | assumption | exact Ok.toks (by assumption) _ (by walk_at "tk")) (by assumption) rfl (by boot_by_name) ?_)
local macro_rules | `(tactic| walk_at "loadName") => `(tactic| refine ldL (by first | assumption | exact Fn.toks (by assumption) _ (by walk_at "tk")) (by walk_at "lk") ?_)
local macro_rules | `(tactic| walk_at "storeName") => `(tactic| (refine stL (by first | assumption | exact Fn.toks (by assumption) _ (by walk_at "tk")) ?_; intro s' F'))

theorem strAt {l : List (Str × Tok)} {j : Nat} {v : Value} (hv : (strValues l)[j]? = some v) : ∃ q, l[j]? = some q ∧ v = .str q.1 q.2 := by
  unfold strValues at hv
  rw [List.getElem?_map] at hv
  cases e : l[j]? with
  | none => rw [e] at hv; cases hv
  | some q => rw [e] at hv; cases hv; exact ⟨q, rfl, rfl⟩

set_option maxHeartbeats 1000000 in
theorem indexOf_ok {a : Addr} {l : List (Str × Tok)} {x : Str} {u : Tok} {Q : Value → Shared → Prop} {outer : List Env} (O : Ok s₀ P s) (T : Text (KT w) p loose s₀.heap) (hd : A.depth < recursionLimit) (hh : A.handled = none)
    (ha : IsL P a (strValues l)) (hu : 0 < u) (hl : ∀ q ∈ l, 0 < q.2 ∧ (q.2 = u → q.1 = x)) (hfr : A.frames = some outer) (hff : s.heap.FunFrames {} outer)
    (h : ∀ i t s', l.findIdx? (fun q => q.1 == x) = some i → 0 < t → Grew s s' → Q (.int (i : Nat) t) s')
    (hE : l.findIdx? (fun q => q.1 == x) = none → ∀ v s', Fly s outer "ValueError" true v s' → E v s') :
    wpAny (model prog w) A (call (.ref 42) [.ref a, .str x u]) Q E s := by
  refine enter (fd := fdAt w 42) (body := bodyAt w 42) (binds := [(Str.ofString "a", .ref a), (Str.ofString "b", .str x u)]) (m := put (put mt "a" (.ref a)) "b" (.str x u)) (cm := mt) O T hd (f := 42) rfl rfl rfl rfl (by kernel_rfl) rfl (by kernel_rfl) (fun _ => by kernel_rfl) (fun _ => by kernel_rfl) ?_
  intro L P₁ s₁ C
  have F := C.toFn
  have O₁ := F.toOk
  have k := PM.le_trans O.keep C.old
  refine wpAny_execs_cons ?_
  refine wpAny_For ?_
  iterate 6 walk1
  refine loop_e F hh (ha.mono k) (fun j m => m "b" = some (.str x u) ∧ (l.take j).findIdx? (fun q => q.1 == x) = none) ⟨rfl, rfl⟩ ?_ ?_
  · intro j v t m' Q' s₃ hv hJ hQ htp F₃
    obtain ⟨hb, hno⟩ := hJ
    obtain ⟨q, hq, rfl⟩ := strAt hv
    have hqm : q ∈ l := List.mem_of_getElem? hq
    have O₃ := F₃.toOk
    refine wpAny_execs_cons (wpAny_If (wpAny_mono (Q := fun c s' => s' = s₃ ∧ c = (q.1 == x)) (E := fun _ _ => False) ?_ ?_ (fun _ _ e => e.elim)))
    · iterate 4 walk1
      refine is_str (O₃.statics T) rfl (hl q hqm).1 hu (hl q hqm).2 ?_
      intro b hbq
      cases b with
      | true =>
        iterate 2 walk1
        exact ⟨rfl, by rw [hbq rfl]; exact (beq_self_eq_true x).symm⟩
      | false =>
        iterate 7 walk1
        refine wpAny_truthy_bool ?_
        cases e : q.1 == x
        · iterate 2 walk1
          exact ⟨rfl, rfl⟩
        · walk1
          exact ⟨rfl, rfl⟩
    · rintro c s' ⟨rfl, rfl⟩
      have hcnt : (l.take (j + 1)) = l.take j ++ [q] := by
        rw [List.take_add_one, hq]; rfl
      cases e : q.1 == x
      · refine ite_neg (by decide) ?_
        iterate 2 walk1
        refine ⟨_, _, ⟨put_of (by decide) (put_of (by decide) hb), ?_⟩, PM.le_refl _, F₃⟩
        rw [hcnt, List.findIdx?_append, hno]; simp [e]
      · refine ite_pos rfl ?_
        iterate 3 walk1
        intro htk
        exact h j t _ (findIdx_at hq hno e) htp (F₃.leave O (PM.le_trans C.old hQ) C.above htk)
  · intro m' Q' s₃ hJ hQ F₃
    obtain ⟨hb, hno⟩ := hJ
    have O₃ := F₃.toOk
    walk1
    refine wpAny_with_toks (Nat.le_refl _) (wpAny_mono (Q := fun _ _ => False) (E := fun e s' => s₃.toks ≤ s'.toks → Fly s (callEnvC (fdAt w 42) L 42 :: outer) "ValueError" false e s') ?_ (fun _ _ x => x.elim) (fun v s' xf ht => ?_))
    · refine Raise_madeB PySem.F.excCall_ValueError PySem.F.excRaise_ValueError hh ?_
      walk1
      refine ⟨rfl, ?_⟩
      iterate 3 walk1
      refine ⟨by show 1 ≤ sizeLine; decide, fun h' e hm ht => ?_⟩
      refine (F₃.toks (s₃.toks + 1) (by omega)).fly O (PM.le_trans C.old hQ) C.above hff rfl (by show ScopeKind.function ≠ ScopeKind.module; decide) hm.newExc
    · have hno' : l.findIdx? (fun q => q.1 == x) = none := by
        rwa [show (strValues l).length = l.length from List.length_map _, List.take_length] at hno
      have hfr' : (A.deeper (callEnvC (fdAt w 42) L 42)).frames = some (callEnvC (fdAt w 42) L 42 :: outer) := Around.frames_deeper hfr
      refine note hfr' rfl (xf ht) fun s₅ X₅ => came X₅ fun s₆ X₆ => ?_
      have hL : s.heap.get? L = none := by
        cases q : s.heap.get? L with
        | none => rfl
        | some o => exact absurd (Heap.lt_size q) (by rw [C.above]; exact Nat.lt_irrefl _)
      exact leave hfr' rfl X₆ fun s₇ X₇ => hE hno' _ _ (X₇.out rfl hL)
end Mine
end

section
open PySem PySem.W PyProof.Rows PySem.Calls
set_option Elab.async false
set_option maxRecDepth 100000
namespace Mine
variable {prog : Program} {w : World} {A : Around} {E : Value → Shared → Prop} {s₀ s : Shared} {P : PM} {p : Program} {loose : List Str}

local macro_rules | `(tactic| walk_at "tk") => `(tactic| first | omega | (dsimp only; omega))
local macro_rules | `(tactic| walk_at "lk") => `(tactic| first | rfl | assumption | exact put_self _ _ _ | exact put_of (by decide) (by first | assumption | exact put_self _ _ _ | exact put_of (by decide) (by assumption)))
local macro_rules | `(tactic| walk_at "eval Name") => `(tactic| first
  | refine nmL (by first | assumption | exact Fn.toks (by assumption) _ (by walk_at "tk")) (by walk_at "lk") ?_
  | refine nmG (by first | assumption | exact Ok.toks (by assumption) _ (by walk_at "tk")) (by assumption) rfl ?_
  | refine nmB (by first | assumption | exact Ok.toks (by assumption) _ (by walk_at "tk")) (by assumption) rfl (by boot_by_name) ?_)
local macro_rules | `(tactic| walk_at "loadName") => `(tactic| refine ldL (by first | assumption | exact Fn.toks (by assumption) _ (by walk_at "tk")) (by walk_at "lk") ?_)
local macro_rules | `(tactic| walk_at "storeName") => `(tactic| (refine stL (by first | assumption | exact Fn.toks (by assumption) _ (by walk_at "tk")) ?_; intro s' F'))

set_option maxHeartbeats 1000000 in
theorem fspath_ok {x : Str} {u : Tok} {Q : Value → Shared → Prop} (O : Ok s₀ P s) (T : Text (KT w) p loose s₀.heap) (hd : A.depth < recursionLimit)
    (h : ∀ s', Grew s s' → Q (.str x u) s') :
    wpAny (model prog w) A (call (.ref 115) [.str x u]) Q E s := by
  refine enter (fd := fdAt w 115) (body := bodyAt w 115) (binds := [(Str.ofString "path", .str x u)]) (m := put mt "path" (.str x u)) (cm := mt) O T hd (f := 115) rfl rfl rfl rfl (by kernel_rfl) rfl (by kernel_rfl) (fun _ => by kernel_rfl) (fun _ => by kernel_rfl) ?_
  intro L P₁ s₁ C
  have F := C.toFn
  have O₁ := F.toOk
  refine wpAny_execs_cons ?_
  iterate 7 walk1
  refine call_type_of (typeIs_str _ _ _) (by decide) ?_
  refine stL F ?_
  intro s₂ F₂
  have O₂ := F₂.toOk
  iterate 15 walk1
  refine mkTup ?_ (by decide)
  have F₃ := F₂.push (tobj [.type "str", .type "bytes"]) (t := s₂.toks)
  iterate 1 walk1
  refine issub_str (F₃.keep _ _ (PM.set_self _ _ _)) ?_
  iterate 5 walk1
  intro htk
  refine h _ (F₃.leave O (PM.le_trans C.old (PM.le_set (F₂.fresh (Nat.le_refl _)))) C.above htk)
end Mine
end

section
open PySem PySem.W PyProof.Rows PySem.Calls PySem.SeqAt
set_option Elab.async false
set_option maxRecDepth 100000
namespace Mine
section
variable {M : Model} {A : Around} {E : Value → Shared → Prop} {s₀ s : Shared} {P : PM} {m : Str → Option Value} {env : Env} {x : Str} {v : Value}
theorem stLt {Q : Unit → Shared → Prop} (F : Fn s₀ env.locals m P s) (h : ∀ s', Fn s₀ env.locals (put m x v) P s' → s.toks ≤ s'.toks → Q () s')
    (hk : env.scope.kind = .function := by rfl) (hl : env.kindOf x = some .local := by rfl) : wpAny M A (storeName env x v) Q E s :=
  wpAny_with_toks (n := s.toks) (Nat.le_refl _) (stL F (fun s' F' ht => h s' F' ht) hk hl)
theorem stCt {c : Addr} {o : Obj} {v₀ : Option Value} {Q : Unit → Shared → Prop} {L : Addr} (F : Fn s₀ L m P s) (hc : P c = some o) (hcl : env.cells.lookup x = some c) (ho : o.data = .cell v₀) (hb : s₀.heap.get? c = none)
    (h : ∀ s' o', Fn s₀ L m (P.set c o') s' → o'.data = .cell (some v) → s.toks ≤ s'.toks → Q () s')
    (hk : env.scope.kind = .function := by rfl) (hl : env.kindOf x = some .cell := by rfl) : wpAny M A (storeName env x v) Q E s :=
  wpAny_with_toks (n := s.toks) (Nat.le_refl _) (stC F hc hcl ho hb (fun s' o' F' d ht => h s' o' F' d ht) hk hl)
end
theorem addNe (L : Addr) {i j : Nat} (h : i ≠ j) : L + i ≠ L + j := fun e => h (Nat.add_left_cancel e)
theorem addNe0 (L : Addr) {i : Nat} (h : i ≠ 0) : L + i ≠ L := fun e => h (Nat.add_left_cancel (n := L) (m := i) (k := 0) e)
section
variable {prog : Program} {w : World} {A : Around} {E : Value → Shared → Prop} {s : Shared}
theorem itemT {value slice : Expr} {t : Addr} {l : List Value} {n j : Nat} {u : Tok} {x : Value} {Q : Value → Shared → Prop} (ht : s.heap.get? t = some (tobj l n)) (hj : j < 1000)
    (hx : l[j]? = some x) (h : Q x s)
    (hs : subscripted slice false (.ref t) (.int j u) = operate [.ref t, .int j u] (getItem (.ref t) (.int j u)) := by with_unfolding_all rfl) :
    wpAny (model prog w) A (subscriptTail value slice (.ref t) (.int j u)) Q E s := by
  have hlt := (List.getElem?_eq_some_iff.mp hx).1
  refine item_tupleT (j := j) (l := l) ⟨_, ht, rfl, _, rfl⟩ (by omega) (by omega) ?_ hx h hs
  unfold seqIndex?
  simp
  omega
theorem itemLi {value slice : Expr} {t : Addr} {l : List Value} {j : Nat} {u : Tok} {x : Value} {Q : Value → Shared → Prop} (ht : IsL s.heap.get? t l) (hj : j < 100000)
    (hx : l[j]? = some x) (h : Q x s)
    (hs : subscripted slice false (.ref t) (.int j u) = operate [.ref t, .int j u] (getItem (.ref t) (.int j u)) := by with_unfolding_all rfl) :
    wpAny (model prog w) A (subscriptTail value slice (.ref t) (.int j u)) Q E s := by
  obtain ⟨n, ho⟩ := ht
  have hT : s.TypeIs (.ref t) "list" := ⟨_, ho, rfl⟩
  exact tail_any hT slot_list_getitem.lookup (wpAny_getItem_list (items := l.toArray) (x := x) ⟨_, ho, rfl, n, rfl⟩ (by omega) (by omega) (by simpa using hx) h) hs
end
end Mine
end

section
open PySem PySem.W PyProof.Rows PySem.Calls PySem.SeqAt
set_option Elab.async false
set_option maxRecDepth 100000
namespace Mine
inductive All2 {α : Type} (R : α → Value → Prop) : List α → List Value → Prop
  | nil : All2 R [] []
  | cons {x y xs ys} : R x y → All2 R xs ys → All2 R (x :: xs) (y :: ys)
section
variable {α : Type} {R R' : α → Value → Prop} {xs : List α} {ys : List Value}
theorem All2.snoc {x : α} {y : Value} (h : All2 R xs ys) (hr : R x y) : All2 R (xs ++ [x]) (ys ++ [y]) := by
  induction h with
  | nil => exact .cons hr .nil
  | cons a _ ih => exact .cons a ih
theorem All2.imp (h : All2 R xs ys) (f : ∀ x y, R x y → R' x y) : All2 R' xs ys := by
  induction h with
  | nil => exact .nil
  | cons a _ ih => exact .cons (f _ _ a) ih
theorem All2.len (h : All2 R xs ys) : ys.length = xs.length := by
  induction h with
  | nil => rfl
  | cons a _ ih => simp [ih]
theorem All2.get (h : All2 R xs ys) : ∀ {i : Nat} {x : α}, xs[i]? = some x → ∃ y, ys[i]? = some y ∧ R x y := by
  induction h with
  | nil => intro i x e; simp at e
  | cons a _ ih =>
    intro i x e
    cases i with
    | zero => simp at e; subst e; exact ⟨_, by simp, a⟩
    | succ i => simp at e; obtain ⟨y, h1, h2⟩ := ih e; exact ⟨y, by simpa using h1, h2⟩
theorem All2.getR (h : All2 R xs ys) : ∀ {i : Nat} {y : Value}, ys[i]? = some y → ∃ x, xs[i]? = some x ∧ R x y := by
  induction h with
  | nil => intro i x e; simp at e
  | cons a _ ih =>
    intro i x e
    cases i with
    | zero => simp at e; subst e; exact ⟨_, by simp, a⟩
    | succ i => simp at e; obtain ⟨y, h1, h2⟩ := ih e; exact ⟨y, by simpa using h1, h2⟩
end
section
variable {prog : Program} {w : World} {A : Around} {E : Value → Shared → Prop} {env : Env} {s₀ s₁ : Shared}
/-- one turn of a comprehension over the values of xs -/
abbrev One (prog : Program) (w : World) (A : Around) (s₀ s₁ : Shared) (cenv : Addr → Env) (x : Str) (ifs : List Expr) (elt : Expr) {α : Type} (xs : List α) (val : α → Value) (P : PM) (p : α → Bool) (R : α → Value → Shared → Prop) : Prop :=
  ∀ (k : Nat) (z : α) (C : Addr) (m' : Str → Option Value) (s₃ : Shared) (E' : Value → Shared → Prop), xs[k]? = some z → Fn s₀ C m' P s₃ → m' x = some (val z) → s₁.heap.objs.size + 3 ≤ s₃.heap.objs.size → s₁.toks ≤ s₃.toks →
      wpAny (model prog w) A (tests ifs (cenv C)) (fun ok s₄ => Grew s₃ s₄ ∧ ok = p z ∧ (p z = true → wpAny (model prog w) A (eval elt (cenv C)) (fun y s₅ => Grew s₄ s₅ ∧ R z y s₅) E' s₄)) E' s₃
theorem turn_of {cenv : Addr → Env} {x : Str} {ifs : List Expr} {elt : Expr} {α : Type} {xs : List α} {val : α → Value} {P : PM} {p : α → Bool} {R : α → Value → Shared → Prop}
    (mono : ∀ z v s s', R z v s → Later (s₁.heap.objs.size + 3) s s' → R z v s') (one : One prog w A s₀ s₁ cenv x ifs elt xs val P p R) :
    Turn prog w A s₀ s₁ cenv x ifs elt (xs.map val) P (fun k ys s => All2 (fun z v => R z v s) ((xs.take k).filter p) ys) := by
  intro k v C m' ys s₃ E' hv hJ F hm hz ht
  rw [List.getElem?_map] at hv
  cases hx : xs[k]? with
  | none => rw [hx] at hv; cases hv
  | some z =>
    rw [hx] at hv
    injection hv with hv
    subst hv
    have ht' : xs.take (k + 1) = xs.take k ++ [z] := by rw [List.take_add_one, hx]; rfl
    refine wpAny_mono (one k z C m' s₃ E' hx F hm hz ht) (fun ok s₄ h₄ => ?_) fun _ _ e => e
    obtain ⟨G, rfl, h₄⟩ := h₄
    refine ⟨G, ?_⟩
    have J₄ : All2 (fun z v => R z v s₄) ((xs.take k).filter p) ys := hJ.imp fun _ _ r => mono _ _ _ _ r (G.later _)
    cases hp : p z with
    | true =>
      simp only [if_true]
      refine wpAny_mono (h₄ hp) (fun y s₅ h₅ => ⟨h₅.1, ?_⟩) fun _ _ e => e
      rw [ht', List.filter_append]
      have e1 : [z].filter p = [z] := by simp [hp]
      rw [e1]
      exact (J₄.imp fun _ _ r => mono _ _ _ _ r (h₅.1.later _)).snoc h₅.2
    | false =>
      simp only [Bool.false_eq_true, if_false]
      rw [ht', List.filter_append]
      have e1 : [z].filter p = [] := by simp [hp]
      rw [e1, List.append_nil]
      exact J₄
theorem tests_nil {cenv : Env} {s : Shared} {Q : Bool → Shared → Prop} (h : Q true s) : wpAny (model prog w) A (tests [] cenv) Q E s := wpAny_pure h

/-- the comprehension as an expression: its list, what each item is -/
theorem comp_E {α : Type} {s : Shared} {elt iter : Expr} {x : Str} {px : Pos} {ifs : List Expr} {scope : Scope} {cl : List (Str × Addr)} {pos : Pos} {Q : Value → Shared → Prop}
    (hh : A.handled = none) (hclos : closureFor scope env = pure cl) (hcell : ∀ y ∈ scope.names, y.2 ≠ .cell) (hkind : scope.kind = .function)
    (hnames : ∀ y ∈ scope.names, y.2 = .local → scope.names.lookup y.1 = some .local) (hx : scope.names.lookup x = some .local)
    (h : wpAny (model prog w) A (eval iter env) (fun xv s₁ => ∃ l m P, ∃ (xs : List α) (val : α → Value) (p : α → Bool) (R : α → Value → Shared → Prop), xv = .ref l ∧ Fn s₀ env.locals m P s₁ ∧ IsLT P l (xs.map val) ∧ xs.length ≤ sizeLine ∧
      (∀ z v s s', R z v s → Later (s₁.heap.objs.size + 3) s s' → R z v s') ∧ One prog w A s₀ s₁ (fun C => compEnvC scope cl C env) x ifs elt xs val P p R ∧
      (∀ D ys s', Grew s₁ s' → IsL (New s₁.heap s'.heap) D ys → All2 (fun z v => R z v s') (xs.filter p) ys → Q (.ref D) s')) E s)
    (hs : ∀ x, foldedSetIterable iter env x = pure x := by intro _; rfl) :
    wpAny (model prog w) A (eval (.ListComp elt [⟨.Name x px, iter, ifs, 0⟩] scope pos) env) Q E s := by
  refine comp_e (s₀ := s₀) hh hclos hcell hkind hnames hx (wpAny_mono h (fun xv s₁ h₁ => ?_) fun _ _ e => e) hs
  obtain ⟨l, m, P, xs, val, p, R, rfl, F, hl, hsz, mono, one, done⟩ := h₁
  refine ⟨l, xs.map val, m, P, (fun k ys s => All2 (fun z v => R z v s) ((xs.take k).filter p) ys), rfl, F, hl, by rw [List.length_map]; exact hsz, ?_, ?_, turn_of mono one, fun D ys s' G hD hJ => done D ys s' G hD ?_⟩
  · intro s
    show All2 _ ((xs.take 0).filter p) []
    simp only [List.take_zero, List.filter_nil]
    exact .nil
  · exact fun k ys s s' hJ L => hJ.imp fun _ _ r => mono _ _ _ _ r L
  · rw [List.length_map, List.take_length] at hJ
    exact hJ
/-- y = [elt for x in iter if ..] -/
theorem comp_A {α : Type} {s : Shared} {elt iter : Expr} {x y : Str} {px py : Pos} {ifs : List Expr} {scope : Scope} {cl : List (Str × Addr)} {pos spos : Pos} {Q : Flow → Shared → Prop}
    (hh : A.handled = none) (hsw : swapsWith (.ListComp elt [⟨.Name x px, iter, ifs, 0⟩] scope pos) (some (.Name y py)) spos.line env = pure true)
    (hclos : closureFor scope env = pure cl) (hcell : ∀ y ∈ scope.names, y.2 ≠ .cell) (hkind : scope.kind = .function)
    (hnames : ∀ y ∈ scope.names, y.2 = .local → scope.names.lookup y.1 = some .local) (hx : scope.names.lookup x = some .local)
    (hy : env.kindOf y = some .local) (hk : env.scope.kind = .function)
    (h : wpAny (model prog w) A (eval iter env) (fun xv s₁ => ∃ l m P, ∃ (xs : List α) (val : α → Value) (p : α → Bool) (R : α → Value → Shared → Prop), xv = .ref l ∧ Fn s₀ env.locals m P s₁ ∧ IsLT P l (xs.map val) ∧ xs.length ≤ sizeLine ∧
      (∀ z v s s', R z v s → Later (s₁.heap.objs.size + 3) s s' → R z v s') ∧ One prog w A s₀ s₁ (fun C => compEnvC scope cl C env) x ifs elt xs val P p R ∧
      (∀ D ys K s'' s', All2 (fun z v => R z v s'') (xs.filter p) ys → (Since (s₁.heap.objs.size + 3) s''.heap).le K → IsL K D ys → (∀ a o, K a = some o → s₁.heap.objs.size ≤ a) → s''.toks ≤ s'.toks → s₁.toks ≤ s''.toks → Fn s₀ env.locals (put m y (.ref D)) (P.join K) s' → Q .next s')) E s)
    (hs : ∀ x, foldedSetIterable iter env x = pure x := by intro _; rfl) :
    wpAny (model prog w) A (exec (.Assign [.Name y py] (.ListComp elt [⟨.Name x px, iter, ifs, 0⟩] scope pos) spos) env) Q E s := by
  refine comp_a (s₀ := s₀) hh hsw hclos hcell hkind hnames hx hy hk (wpAny_mono h (fun xv s₁ h₁ => ?_) fun _ _ e => e) hs
  obtain ⟨l, m, P, xs, val, p, R, rfl, F, hl, hsz, mono, one, done⟩ := h₁
  refine ⟨l, xs.map val, m, P, (fun k ys s => All2 (fun z v => R z v s) ((xs.take k).filter p) ys), rfl, F, hl, by rw [List.length_map]; exact hsz, ?_, ?_, turn_of mono one, fun D ys K s'' s' hJ => done D ys K s'' s' ?_⟩
  · intro s
    show All2 _ ((xs.take 0).filter p) []
    simp only [List.take_zero, List.filter_nil]
    exact .nil
  · exact fun k ys s s' hJ L => hJ.imp fun _ _ r => mono _ _ _ _ r L
  · rw [List.length_map, List.take_length] at hJ
    exact hJ
end
end Mine
end

section
open PySem PySem.W PyProof.Rows PySem.Calls PySem.SeqAt
open PySem.AutoSeq1 (wpAny_loadPart')
set_option Elab.async false
set_option maxRecDepth 100000
namespace Mine
def st0 (led : Bool) : SetTable := .fresh 0 0 led
def st1 (led : Bool) : SetTable := { mask := 7, place := #[0], dummies := #[], finger := 0, led := led, moves := 0, plain := true }
abbrev sobj0 (led : Bool) : Obj := { cls := .type "set", dict := none, data := .set #[] 0 (st0 led) }
abbrev sobj1 (led : Bool) : Obj := { cls := .type "set", dict := none, data := .set #[(0, .bool false)] 1 (st1 led) }
theorem lay1 (led : Bool) : layNew (st0 led) #[] 0 (.bool false) = (#[(0, .bool false)], st1 led, false, false) := by
  cases led <;> decide +kernel
theorem full1 (led : Bool) : (st1 led).tooFull = false := by cases led <;> decide +kernel
theorem fits0 (led : Bool) : (st0 led).fits 0 = true := by cases led <;> decide +kernel
theorem fits1 (led : Bool) : (st1 led).fits 1 = true := by cases led <;> decide +kernel
section
variable {prog : Program} {w : World} {A : Around} {E : Value → Shared → Prop} {s : Shared}
theorem hash_bool {Q : Int → Shared → Prop} (h : ∀ k, s.toks ≤ k → Q 0 { s with toks := k }) : wpAny (model prog w) A (pyHash (.bool false)) Q E s := by
  have hT : s.TypeIs (.bool false) "bool" := rfl
  unfold pyHash
  have hv : [Value.bool false].any Value.onHeap = false := rfl
  refine wpAny_bind ?_
  rw [cRoomFor, if_neg (by rw [hv]; exact Bool.false_ne_true)]; refine wpAny_pure ?_
  refine wpAny_bind (wpAny_specialOf hT PySem.F.slot_bool_hash.lookup ?_)
  show wpAny _ _ (if (some (Value.builtin "int.__hash__") == some Value.none) = true then _ else _) Q E s
  rw [if_neg (by decide)]
  refine wpAny_bind (wpAny_specialOf hT PySem.F.slot_bool_hash.lookup ?_)
  show wpAny _ _ (callSpecialIfBoundUnlessNone? (.bool false) "__hash__" _ >>= _) Q E s
  refine wpAny_bind (wpAny_callSpecialIfBoundUnlessNone?_slot hT PySem.F.slot_bool_hash
    (wpAny_call_entry PySem.F.slot_bool_hash hT PySem.F.entry_int_hash
      (show wpAny _ _ (do ret (← mkInt 0)) _ _ s from wpAny_ret_mkInt ?_) (PySem.F.args_int_hash_1 _)))
  show wpAny _ _ (if (decide (-(2 : Int) ^ 63 ≤ 0) && decide ((0 : Int) < 2 ^ 63)) = true then _ else _) Q E _
  rw [if_pos (by decide)]
  exact wpAny_pure (h _ (Nat.le_succ _))

theorem set_add0 {D : Addr} {led : Bool} {Q : Value → Shared → Prop} (hD : s.heap.get? D = some (sobj0 led))
    (h : ∀ h' k, Heap.SameBut D s.heap h' → h'.get? D = some (sobj1 led) → s.toks ≤ k → Q .none { s with heap := h', toks := k }) :
    wpAny (model prog w) A (call (.builtin "set.add") [.ref D, .bool false]) Q E s := by
  refine wpAny_call_entry PySem.F.slot_set_add ⟨_, hD, rfl⟩ PySem.F.entry_set_add ?_ (PySem.F.args_set_add_2 _ _)
  unfold Builtin.«set.add» Builtin.Frozenset.oneOther
  simp only [List.isEmpty_nil, bind_assoc]
  unfold Builtin.Frozenset.addrOf setAdd
  refine wpAny_bind (wpAny_pure ?_)
  try dsimp only
  refine wpAny_bind (wpAny_pure ?_)
  try dsimp only
  refine wpAny_bind ?_
  refine wpAny_holding ?_
  refine wpAny_bind (hash_bool fun k hk => ?_)
  unfold setAddHashed setAddHashedIn
  refine wpAny_holding (wpAny_bind (wpAny_setState_of (s := { s with toks := k }) hD rfl (fits0 led) ?_))
  dsimp only
  rw [if_pos (by decide +kernel)]
  unfold setAddByScan
  refine wpAny_bind ?_
  refine wpAny_bind (wpAny_rule ?_)
  refine wpAny_bind ?_
  show wpAny (model prog w) A.in1 (pure ScanMet.absent) _ _ _
  refine wpAny_pure ?_
  dsimp only
  rw [lay1]
  dsimp only
  refine wpAny_bind ?_
  show wpAny (model prog w) A.in1 (pure ()) _ _ _
  refine wpAny_pure ?_
  rw [if_pos (by rfl)]
  refine wpAny_bind ?_
  show wpAny (model prog w) A.in1 (pure true) _ _ _
  refine wpAny_pure ?_
  simp only [if_true]
  refine wpAny_bind (wpAny_storeSet_of (s := { s with toks := k }) hD rfl ?_ (by decide))
  rw [full1]
  simp only [Bool.and_false, Bool.false_eq_true, if_false]
  refine wpAny_pure ?_
  dsimp only
  refine wpAny_pure ?_
  show wpAny _ _ (ret Value.none) _ _ _
  refine wpAny_pure ⟨_, rfl, h _ k (Heap.SameBut.update _ _ _) ?_ hk⟩
  have := Heap.get?_update_self (Obj.putSet #[(0, .bool false)] (st1 led)) hD rfl
  exact this
theorem set_add1 {D : Addr} {led : Bool} {Q : Value → Shared → Prop} (hD : s.heap.get? D = some (sobj1 led))
    (h : ∀ k, s.toks ≤ k → Q .none { s with toks := k }) :
    wpAny (model prog w) A (call (.builtin "set.add") [.ref D, .bool false]) Q E s := by
  refine wpAny_call_entry PySem.F.slot_set_add ⟨_, hD, rfl⟩ PySem.F.entry_set_add ?_ (PySem.F.args_set_add_2 _ _)
  unfold Builtin.«set.add» Builtin.Frozenset.oneOther
  simp only [List.isEmpty_nil, bind_assoc]
  unfold Builtin.Frozenset.addrOf setAdd
  refine wpAny_bind (wpAny_pure ?_)
  try dsimp only
  refine wpAny_bind (wpAny_pure ?_)
  try dsimp only
  refine wpAny_bind ?_
  refine wpAny_holding ?_
  refine wpAny_bind (hash_bool fun k hk => ?_)
  unfold setAddHashed setAddHashedIn
  refine wpAny_holding (wpAny_bind (wpAny_setState_of (s := { s with toks := k }) hD rfl (fits1 led) ?_))
  dsimp only
  rw [if_pos (by decide +kernel)]
  unfold setAddByScan
  refine wpAny_bind ?_
  refine wpAny_bind (wpAny_rule ?_)
  refine wpAny_bind ?_
  show wpAny (model prog w) A.in1 (do
      let before ← setEpoch D
      let same ← eqBool (.bool false) (.bool false)
      if true && same then return .found 0
      if (← setEpoch D) != before then rule "set.scan.anew"; return .anew
      if same then return .found 0
      setScanFrom D (.bool false) 0 true [] (0 + 1)) _ _ _
  refine wpAny_bind (wpAny_setEpoch_of (s := { s with toks := k }) hD rfl (fits1 led) ?_)
  refine wpAny_bind (EqAt.same _ prog w _ _ ?_)
  rw [if_pos (by rfl)]
  refine wpAny_pure ?_
  dsimp only
  refine wpAny_pure ?_
  dsimp only
  refine wpAny_pure ?_
  show wpAny _ _ (ret Value.none) _ _ _
  exact wpAny_pure ⟨_, rfl, h k hk⟩
end
end Mine
end

section
open PySem PySem.W PyProof.Rows PySem.Calls PySem.SeqAt
set_option Elab.async false
set_option maxRecDepth 100000
namespace Mine
theorem compTurn_set (elt target iter : Expr) (ifs : List Expr) (scope : Scope) (pos : Pos) (it acc : Value) (env : Env) :
    compTurn (.SetComp elt [⟨target, iter, ifs, 0⟩] scope pos) 0 it acc env = (do
      standAt iter.pos
      match ← pyNext it with
      | none => pure (.done .next)
      | some v =>
        letOwnedTupleGo target it v
        assign target env v
        let mut ok := true
        for c in ifs do
          if ok then ok ← isTrue c env (eval c env)
        if ok then
          (do let v ← eval elt env; standAt elt.pos; let _ ← call (.builtin "set.add") [acc, v])
        again (.compLoop (.SetComp elt [⟨target, iter, ifs, 0⟩] scope pos) 0 it acc env)) := by rfl
section
variable {prog : Program} {w : World} {A : Around} {E : Value → Shared → Prop} {R : Result → Shared → Prop} {s : Shared}
theorem compStart_set {elt target iter ifs rest scope pos it acc env}
    (h0 : codeAny (model prog w) A (.compLoop (.SetComp elt (⟨target, iter, ifs, 0⟩ :: rest) scope pos) 0 it acc env) R s)
    (h : wpAny (model prog w) A (pyIter it) (fun it' s' => codeAny (model prog w) A (.compLoop (.SetComp elt (⟨target, iter, ifs, 0⟩ :: rest) scope pos) 0 it' acc env) R s')
      (notedBy (model prog w) A env fun x s' => R (.error x) s') s) :
    codeAny (model prog w) A (.compStart (.SetComp elt (⟨target, iter, ifs, 0⟩ :: rest) scope pos) 0 it acc env) R s := by
  refine codeAny_of_tree ?_
  show wpAny _ A ((compStart (.SetComp elt (⟨target, iter, ifs, 0⟩ :: rest) scope pos) 0 it acc env).onRaise (fun x => do noteFrame x env; standAt theWindowsPlace)) _ _ s
  refine wpAny_notedAt ?_
  unfold compStart
  show wpAny _ A (ask >>= _) _ _ s
  refine wpAny_bind (wpAny_askSetting (wpAny_ite ?_))
  split
  · first
      | exact wpAny_bind (wpAny_pure (wpAny_pure (And.intro rfl h0)))
      | exact wpAny_pure (And.intro rfl h0)
  · first
      | exact wpAny_bind (wpAny_rule (wpAny_bind (wpAny_standAt (wpAny_bind (wpAny_mono h (fun it' s' h' => wpAny_pure (And.intro rfl h')) fun _ _ x => x)))))
      | (refine wpAny_bind (wpAny_rule ?_); show wpAny _ _ (standAt iter.pos >>= _) _ _ s; exact wpAny_bind (wpAny_standAt (wpAny_bind (wpAny_mono h (fun it' s' h' => wpAny_pure (And.intro rfl h')) fun _ _ x => x))))

/-- {elt for x in ..}, each elt False -/
theorem compS_loop {s₀ : Shared} {elt iter : Expr} {x : Str} {px : Pos} {scope : Scope} {pos : Pos} {I D : Addr} {fp wr : List Addr} {n : Nat} {P : Nat → Value → Prop} {St : Nat → Heap → Prop}
    {cenv : Env} {K : PM} {led : Bool} (W : Walks prog w A I fp wr n P St)
    (hx : cenv.kindOf x = some .local) (hkind : cenv.scope.kind = .function)
    (F : Fn s₀ cenv.locals mt K s) (hDC : D ≠ cenv.locals) (hDf : D ∉ fp) (hCf : cenv.locals ∉ fp) (hKw : ∀ b ∈ wr, K b = none) (hKD : K D = none)
    (hst : St 0 s.heap) (hacc : s.heap.get? D = some (sobj0 led))
    (turn : ∀ k v m' s₃ (E' : Value → Shared → Prop), P k v → Fn s₀ cenv.locals m' K s₃ → m' x = some v →
      wpAny (model prog w) A (eval elt cenv) (fun y s₅ => Grew s₃ s₅ ∧ y = .bool false) E' s₃)
    (done : ∀ h' tk, 0 < n → (∃ m', h'.Ns cenv.locals m') → h'.get? D = some (sobj1 led) → (∀ b o, b ≠ cenv.locals → b ∉ wr → b ≠ D → s.heap.get? b = some o → h'.get? b = some o) →
      s.toks ≤ tk → R (.ok .next) { s with heap := h', toks := tk }) (hn : 0 < n) :
    codeAny (model prog w) A (.compLoop (.SetComp elt [⟨.Name x px, iter, [], 0⟩] scope pos) 0 (.ref I) (.ref D) cenv) R s := by
  have hp : (cenv.scope.kind == .class || (cenv.scope.kind == .module && cenv.locals != cenv.globals)) = false := by rw [hkind]; rfl
  have hCw : cenv.locals ∉ wr := fun h => hCf (W.sub _ h)
  have hDw : D ∉ wr := fun h => hDf (W.sub _ h)
  have Kok : ∀ (h' : Heap) tk, (∀ b o, b ≠ cenv.locals → b ∉ wr → b ≠ D → s.heap.get? b = some o → h'.get? b = some o) → s.toks ≤ tk → ∀ m', h'.Ns cenv.locals m' → Fn s₀ cenv.locals m' K { s with heap := h', toks := tk } := by
    intro h' tk hk ht m' hn
    obtain ⟨h₁, tk₁, e⟩ := F.same
    refine ⟨⟨⟨h', tk, by rw [e]⟩, fun a o q => hk a o ?_ ?_ ?_ (F.keep a o q), F.base, Nat.lt_of_lt_of_le F.tok ht⟩, hn, F.hL⟩
    · intro z; rw [z, F.hL] at q; cases q
    · intro z; rw [hKw a z] at q; cases q
    · intro z; rw [z, hKD] at q; cases q
  refine codeAny_loop rfl (fun k s' => ∃ H tk m' i, s' = { s with heap := H, toks := tk } ∧ St i H ∧ H.get? D = some (if i = 0 then sobj0 led else sobj1 led) ∧ H.Ns cenv.locals m' ∧ i ≤ n ∧ k = n + 1 - i ∧
      (∀ b o, b ≠ cenv.locals → b ∉ wr → b ≠ D → s.heap.get? b = some o → H.get? b = some o) ∧ s.toks ≤ tk) (fun k s' hI => ?_) (n + 1)
    ⟨s.heap, s.toks, mt, 0, rfl, hst, by rw [if_pos rfl]; exact hacc, F.ns, Nat.zero_le _, rfl, fun _ _ _ _ _ e => e, Nat.le_refl _⟩
  obtain ⟨H, tk, m', i, rfl, hst', hacc', hn', hi, rfl, hk, htk⟩ := hI
  show wpAny _ A ((compTurn (.SetComp elt [⟨.Name x px, iter, [], 0⟩] scope pos) 0 (.ref I) (.ref D) cenv).onRaise (fun x => do noteFrame x cenv; theTreesLotGoes x)) _ _ _
  refine wpAny_noted ?_
  rw [compTurn_set]
  refine wpAny_bind (wpAny_standAt (wpAny_bind ?_))
  by_cases hlt : i < n
  · refine wpAny_with_toks (n := tk) (Nat.le_refl _) (W.item i _ _ _ hlt hst' fun v h₁ tk₁ hPv hst₁ hk₁ htk₁ => ?_)
    replace htk₁ : tk ≤ tk₁ := htk₁
    dsimp only
    refine wpAny_bind (wpAny_of_eq rfl ?_)
    refine wpAny_bind (wpAny_assign_Name (wpAny_storeName_local hx (hn'.at' fun o e => hk₁ _ o hCw e) (fun h₂ hn₂ hs₂ => ?_) hp))
    have up₂ : ∀ b o, b ≠ cenv.locals → b ∉ wr → H.get? b = some o → h₂.get? b = some o := fun b o hbC hbf e => hs₂.extBut b o hbC (hk₁ b o hbf e)
    have hst₂ : St (i + 1) h₂ := W.frame _ _ _ hst₁ fun b hb o e => hs₂.extBut b o (fun h => hCf (h ▸ hb)) e
    have htk₂ : s.toks ≤ tk₁ + 1 := Nat.le_succ_of_le (Nat.le_trans htk htk₁)
    have F₂ := Kok h₂ (tk₁ + 1) (fun b o h1 h2 h3 e => up₂ b o h1 h2 (hk b o h1 h2 h3 e)) htk₂ _ hn₂
    have acc₂ := up₂ D _ hDC hDw hacc'
    refine wpAny_bind (wpAny_tests_nil ?_)
    rw [if_pos rfl]
    refine wpAny_bind (wpAny_bind (wpAny_mono (turn i v _ _ _ hPv F₂ (by simp)) (fun y s₃ h₃ => ?_) fun _ _ e => e))
    obtain ⟨G₃, rfl⟩ := h₃
    obtain ⟨⟨h₃', tk₃, rfl⟩, gk₃, gz₃, gt₃⟩ := G₃
    have acc₃ := gk₃ _ _ acc₂
    refine wpAny_bind (wpAny_standAt (wpAny_bind ?_))
    by_cases h0 : i = 0
    · rw [if_pos h0] at acc₃
      refine set_add0 acc₃ fun h₅ k₅ hs₅ hD₅ hk₅ => ?_
      refine wpAny_pure (wpAny_pure ⟨rfl, n + 1 - (i + 1), by omega, h₅, k₅, _, i + 1, rfl, ?_, by rw [if_neg (Nat.succ_ne_zero _)]; exact hD₅, (hn₂.keeps gk₃).sameBut hs₅ (Ne.symm hDC), hlt, rfl, ?_, Nat.le_trans htk₂ (Nat.le_trans gt₃ hk₅)⟩)
      · exact W.frame _ _ h₅ hst₂ fun b hb o e => hs₅.extBut b o (fun h => hDf (h ▸ hb)) (gk₃ b o e)
      · exact fun b o h1 h2 h3 e => hs₅.extBut b o h3 (gk₃ b o (up₂ b o h1 h2 (hk b o h1 h2 h3 e)))
    · rw [if_neg h0] at acc₃
      refine set_add1 acc₃ fun k₅ hk₅ => ?_
      refine wpAny_pure (wpAny_pure ⟨rfl, n + 1 - (i + 1), by omega, h₃', k₅, _, i + 1, rfl, ?_, by rw [if_neg (Nat.succ_ne_zero _)]; exact acc₃, hn₂.keeps gk₃, hlt, rfl, ?_, Nat.le_trans htk₂ (Nat.le_trans gt₃ hk₅)⟩)
      · exact W.frame _ _ h₃' hst₂ fun b hb o e => gk₃ b o e
      · exact fun b o h1 h2 h3 e => gk₃ b o (up₂ b o h1 h2 (hk b o h1 h2 h3 e))
  · have hin : i = n := by omega
    refine wpAny_with_toks (n := tk) (Nat.le_refl _) (W.done _ _ _ (hin ▸ hst') fun h₁ tk₁ hk₁ htk₁ => ?_)
    replace htk₁ : tk ≤ tk₁ := htk₁
    have hi0 : i ≠ 0 := by omega
    rw [if_neg hi0] at hacc'
    refine wpAny_pure ?_
    exact done h₁ tk₁ hn ⟨m', hn'.at' fun o e => hk₁ _ o hCw e⟩ (hk₁ _ _ hDw hacc') (fun b o h1 h2 h3 e => hk₁ b o h2 (hk b o h1 h2 h3 e)) (Nat.le_trans htk htk₁)
end
end Mine
end

section
open PySem PySem.W PyProof.Rows PySem.Calls PySem.SeqAt
set_option Elab.async false
set_option maxRecDepth 100000
namespace Mine
def ledOf (w : World) : Bool := !w.params.followText "set-order"
section
variable {prog : Program} {w : World} {A : Around} {E : Value → Shared → Prop} {env : Env}
theorem newSet_r {s : Shared} {Q : Value → Shared → Prop} (h : Q (.ref s.heap.objs.size) { s with heap := s.heap.push (sobj0 (ledOf w)) }) :
    wpAny (model prog w) A (newSet (.type "set")) Q E s := by
  unfold newSet setsByText
  refine wpAny_bind (wpAny_bind (wpAny_askSetting (wpAny_pure ?_)))
  dsimp only
  simp only [newObj]
  exact wpAny_bind (wpAny_alloc (wpAny_pure h))

theorem setcomp_e {s₀ s : Shared} {elt iter : Expr} {x : Str} {px : Pos} {scope : Scope} {cl : List (Str × Addr)} {pos : Pos} {Q : Value → Shared → Prop}
    (hh : A.handled = none) (hclos : closureFor scope env = pure cl) (hcell : ∀ y ∈ scope.names, y.2 ≠ .cell) (hkind : scope.kind = .function)
    (hnames : ∀ y ∈ scope.names, y.2 = .local → scope.names.lookup y.1 = some .local) (hx : scope.names.lookup x = some .local)
    (h : wpAny (model prog w) A (eval iter env) (fun xv s₁ => ∃ l vs m P, xv = .ref l ∧ Fn s₀ env.locals m P s₁ ∧ IsLT P l vs ∧ 0 < vs.length ∧
      (∀ (k : Nat) (v : Value) (C : Addr) (m' : Str → Option Value) (s₃ : Shared) (E' : Value → Shared → Prop), vs[k]? = some v → Fn s₀ C m' P s₃ → m' x = some v →
        wpAny (model prog w) A (eval elt (compEnvC scope cl C env)) (fun y s₅ => Grew s₃ s₅ ∧ y = .bool false) E' s₃) ∧
      (∀ D s', Grew s₁ s' → s'.heap.get? D = some (sobj1 (ledOf w)) → s₁.heap.objs.size ≤ D → Q (.ref D) s')) E s)
    (hs : ∀ x, foldedSetIterable iter env x = pure x := by intro _; rfl) :
    wpAny (model prog w) A (eval (.SetComp elt [⟨.Name x px, iter, [], 0⟩] scope pos) env) Q E s := by
  rw [arm_eval_SetComp]
  refine wpAny_comprehension_free (use := none) rfl hs hclos hkind hnames (wpAny_mono h (fun xv s₁ h₁ => ?_) fun _ _ e => e)
  obtain ⟨l, vs, m, P, rfl, F, hl, hpos, turn, done⟩ := h₁
  refine iter_lt hh F.toOk hl fun s₂ oI St hs₂ hfr W hst => ?_
  have sz₂ : s₂.heap.objs.size = s₁.heap.objs.size + 1 := by rw [hs₂]; exact Heap.size_push _ _
  have k₂ : PM.le s₁.heap.get? s₂.heap.get? := fun a o e => by rw [hs₂]; exact Heap.get?_push_of_some _ e
  have t₂ : s₂.toks = s₁.toks := by rw [hs₂]
  refine newSet_r (wpAny_newFunctionEnv hcell (by intro y hy; simp at hy) (fun h₁ hns₁ hsb₁ => ?_) hkind)
  dsimp only at hns₁ hsb₁ ⊢
  generalize hH2 : s₂.heap.push (sobj0 (ledOf w)) = H2 at hns₁ hsb₁ ⊢
  have hC : H2.objs.size = s₂.heap.objs.size + 1 := by rw [← hH2, Heap.size_push]
  have below : ∀ b, b < s₂.heap.objs.size → b ≠ H2.objs.size ∧ b ≠ s₂.heap.objs.size := fun b hb => ⟨by omega, by omega⟩
  have hDC : s₂.heap.objs.size ≠ H2.objs.size := by omega
  have old : ∀ b o, s₂.heap.get? b = some o → h₁.get? b = some o := fun b o e => hsb₁.extBut b o (below b (Heap.lt_size e)).1 (Heap.get?_push_of_some _ (hH2 ▸ Heap.get?_push_of_some _ e))
  have hacc : h₁.get? s₂.heap.objs.size = some (sobj0 (ledOf w)) := hsb₁.extBut _ _ hDC (Heap.get?_push_of_some _ (hH2 ▸ Heap.get?_push_size _ rfl))
  obtain ⟨ol, hol⟩ := hl.some
  have hlz : l < s₁.heap.objs.size := F.toOk.lt hol
  have d0 : s₁.heap.objs.size ≤ s₂.heap.objs.size := by omega
  have d1 : (s₂.heap.objs.size : Nat) ≠ s₁.heap.objs.size := by omega
  have d2 : s₂.heap.objs.size ≠ l := Nat.ne_of_gt (Nat.lt_of_lt_of_le hlz d0)
  have d0' : s₁.heap.objs.size ≤ H2.objs.size := by omega
  have d3 : (H2.objs.size : Nat) ≠ s₁.heap.objs.size := by omega
  have d4 : H2.objs.size ≠ l := Nat.ne_of_gt (Nat.lt_of_lt_of_le hlz d0')
  have hst₁ : St 0 h₁ := W.frame _ _ _ hst fun b _ o e => old b o e
  have F₁ : Fn s₀ H2.objs.size mt P { s₂ with heap := h₁, toks := s₂.toks + ([] : List (Str × Value)).length } := by
    obtain ⟨hq, tq, e⟩ := F.same
    refine ⟨⟨⟨h₁, s₂.toks, ?_⟩, fun a o q => old a o (k₂ a o (F.keep a o q)), F.base, by show 0 < s₂.toks; rw [t₂]; exact F.tok⟩, hns₁, F.fresh d0'⟩
    rw [hs₂, e]; rfl
  have loop : codeAny (model prog w) A (.compLoop (.SetComp elt [⟨.Name x px, iter, [], 0⟩] scope pos) 0 (.ref s₁.heap.objs.size) (.ref s₂.heap.objs.size) (compEnvC scope cl H2.objs.size env))
        (compPost (model prog w) A E none Q (.ref s₂.heap.objs.size) H2.objs.size) { s₂ with heap := h₁, toks := s₂.toks + ([] : List (Str × Value)).length } := by
    refine compS_loop (led := ledOf w) (cenv := compEnvC scope cl H2.objs.size env) W (lookup_relabel_local hx) hkind F₁ hDC (by simp [d1, d2]) (by show H2.objs.size ∉ _; simp [d3, d4])
      (fun b hb => by simp at hb; rw [hb]; exact F.fresh (Nat.le_refl _)) (F.fresh d0) hst₁ hacc (fun k v m' s₃ E' hv F₃ hm => turn k v _ m' s₃ E' hv F₃ hm) ?_ hpos
    intro h' tk _ hns hD hk ht
    obtain ⟨m', hn⟩ := hns
    refine ⟨m', hn, fun h'' hs'' => ?_⟩
    have hCz : H2.objs.size < h''.objs.size := by rw [hs''.1]; exact hn.lt
    have hkC : ∀ b o, s₁.heap.get? b = some o → b < s₁.heap.objs.size := fun b o e => Heap.lt_size e
    have ht' : s₁.toks ≤ tk := by rw [← t₂]; exact ht
    have G : Grew s₁ { s₂ with heap := h'', toks := tk } := ⟨⟨h'', tk, by rw [hs₂]⟩, fun b o e => by
      have hb := hkC b o e
      exact hs''.extBut b o (Nat.ne_of_lt (Nat.lt_of_lt_of_le hb d0')) (hk b o (Nat.ne_of_lt (Nat.lt_of_lt_of_le hb d0')) (by simp; exact Nat.ne_of_lt hb) (Nat.ne_of_lt (Nat.lt_of_lt_of_le hb d0)) (old b o (k₂ b o e))), Nat.le_of_lt (Nat.lt_of_le_of_lt d0' hCz), ht'⟩
    exact done _ _ G (hs''.extBut _ _ hDC hD) d0
  exact compStart_set loop (W.self 0 _ _ _ hst₁ loop)
end
end Mine
end

section
open PySem PySem.W PyProof.Rows PySem.Calls PySem.SeqAt
open PySem.AutoSeq1 (wpAny_loadPart')
set_option Elab.async false
set_option maxRecDepth 100000
namespace Mine
theorem slot_si_next : Slot "set_iterator" "__next__" "set_iterator.__next__" :=
  .of (owner := "set_iterator") (n := "__next__") (by rw [typeLookup_type, builtinLookup_eq_fast]; kernel_rfl) (by decide +kernel) (by decide +kernel) (by decide +kernel)
    (by first | exact .inl (by decide +kernel) | exact .inr (by decide +kernel)) (by rw [isSubtype_type]; kernel_rfl)
theorem entry_si_next : entryFor table "set_iterator.__next__" = some Builtin.«set_iterator.__next__» := entryFor_of_tree (by kernel_rfl)
theorem args_si_next (a : Value) : argsOk "set_iterator.__next__" ⟨[a], []⟩ := by unfold argsOk; kernel_rfl
theorem entry_set_iter : entryFor table "set.__iter__" = some Builtin.«frozenset.__iter__» :=
  entryFor_alias (id' := "frozenset.__iter__") (by kernel_rfl) (by first | rfl | decide +kernel) (by decide +kernel) (by kernel_rfl)
theorem args_set_iter (a : Value) : argsOk "set.__iter__" ⟨[a], []⟩ := by unfold argsOk; kernel_rfl
abbrev siobj (D : Addr) (slot i : Nat) : Obj := { cls := .type "set_iterator", data := .fields #[.int slot 0, .int i 0, .ref D, .int 1 0, .int 1 0] }
section
variable {prog : Program} {w : World} {A : Around} {E : Value → Shared → Prop} {s : Shared}
theorem iter_set {D : Addr} {Q : Value → Shared → Prop} (hD : s.heap.get? D = some (sobj1 (ledOf w)))
    (h : Q (.ref s.heap.objs.size) { s with heap := s.heap.push (siobj D 0 0) }) : wpAny (model prog w) A (pyIter (.ref D)) Q E s := by
  have hT : s.TypeIs (.ref D) "set" := ⟨_, hD, rfl⟩
  refine wpAny_pyIter_slot hT PySem.F.slot_set_iter (wpAny_call_entry PySem.F.slot_set_iter hT entry_set_iter ?_ (args_set_iter _))
  refine wpAny_bind (wpAny_pure ?_)
  refine wpAny_bind ?_
  refine wpAny_bind ?_
  refine wpAny_setEntries_of hD rfl (fits1 _) ?_
  refine wpAny_pure ?_
  refine wpAny_bind ?_
  unfold setDrawn setsByText
  refine wpAny_bind (wpAny_setState_of hD rfl (fits1 _) ?_)
  refine wpAny_bind (wpAny_bind (wpAny_askSetting (wpAny_pure ?_)))
  refine wpAny_pure ?_
  refine wpAny_ite_false (decide_eq_false (show ¬ ((!_ && (!true && decide (1 > 1))) = true) from by simp)) ?_
  refine wpAny_bind (wpAny_pure ?_)
  refine wpAny_bind (wpAny_setEpoch_of hD rfl (fits1 _) ?_)
  refine wpAny_bind ?_
  unfold newFields
  refine wpAny_newObj_type ?_ (by size_fits)
  exact wpAny_pure ⟨_, rfl, "set_iterator", _, ⟨_, Heap.get?_push_size _ rfl, rfl⟩, slot_si_next.lookup, h⟩

theorem pick1 {α : Type} (f : Nat → Nat) (x : α) : pickOrder f #[x] = #[x] := by
  unfold pickOrder
  show pickOrder.go f 1 0 [x] #[] = _
  unfold pickOrder.go
  simp only [List.length_singleton, Nat.mod_one, List.getElem?_cons_zero]
  rfl
theorem setNext_r {D : Addr} {sl i : Nat} {Q : Option (Value × Nat) → Shared → Prop} (hi : (i = 0 ∧ sl = 0) ∨ (i = 1 ∧ (sl = 1 ∨ w.params.followText "set-order" = true))) (hD : s.heap.get? D = some (sobj1 (ledOf w)))
    (h : ∀ k, i = 0 → (k = 1 ∨ w.params.followText "set-order" = true) → Q (some (.bool false, k)) s) (h1 : i = 1 → Q none s) : wpAny (model prog w) A (setNext D sl i 1) Q E s := by
  unfold setNext
  refine wpAny_bind (wpAny_setState_of hD rfl (fits1 _) ?_)
  dsimp only
  unfold setsByText
  refine wpAny_bind (wpAny_bind (wpAny_askSetting (wpAny_pure ?_)))
  dsimp only
  cases hb : w.params.followText "set-order" with
  | true =>
    rw [show (model prog w).w.params.followText "set-order" = true from hb]
    rw [if_pos rfl]
    rw [if_neg (by decide)]
    unfold setWalk
    refine wpAny_bind (wpAny_bind (wpAny_setState_of hD rfl (fits1 _) ?_))
    dsimp only
    unfold setsByText
    refine wpAny_bind (wpAny_bind (wpAny_askSetting (wpAny_pure ?_)))
    dsimp only
    rw [show (model prog w).w.params.followText "set-order" = true from hb]
    rw [if_pos rfl]
    refine wpAny_bind (wpAny_askSetting (wpAny_pure ?_))
    rw [pick1]
    refine wpAny_pure ?_
    rcases hi with ⟨rfl, _⟩ | ⟨rfl, _⟩
    · exact h _ rfl (.inr hb)
    · exact h1 rfl
  | false =>
    rw [show (model prog w).w.params.followText "set-order" = false from hb]
    rw [if_neg (by decide)]
    refine wpAny_ite_false (decide_eq_false (show ¬ ((!true && decide (1 > 1)) = true) from by decide)) ?_
    refine wpAny_bind ?_
    show wpAny _ _ (if (!(ledOf w) && !false) = true then unsupported "set:maker-not-led" else pure ()) _ _ _
    rw [if_neg (by unfold ledOf; rw [hb]; decide)]
    refine wpAny_pure ?_
    refine wpAny_pure ?_
    have b0 : SetTable.below #[0] 0 = 0 := by decide +kernel
    have b1 : SetTable.below #[0] 1 = 1 := by decide +kernel
    rcases hi with ⟨rfl, rfl⟩ | ⟨rfl, rfl | h2⟩
    · rw [show (st1 (ledOf w)).place = #[0] from rfl, b0]
      exact h 1 rfl (.inl rfl)
    · rw [show (st1 (ledOf w)).place = #[0] from rfl, b1]
      exact h1 rfl
    · rw [hb] at h2; cases h2

theorem next_set0 {D J : Addr} {Q : Option Value → Shared → Prop} (hD : s.heap.get? D = some (sobj1 (ledOf w))) (hJ : s.heap.get? J = some (siobj D 0 0))
    (h : ∀ h' k, (k = 1 ∨ w.params.followText "set-order" = true) → Heap.SameBut J s.heap h' → h'.get? J = some (siobj D k 1) → Q (some (.bool false)) { s with heap := h' }) : wpAny (model prog w) A (pyNext (.ref J)) Q E s := by
  have hT : s.TypeIs (.ref J) "set_iterator" := ⟨_, hJ, rfl⟩
  unfold pyNext
  refine wpAny_bind (wpAny_attempt (wpAny_callSpecial?_slot (name := Str.ofString "__next__") hT slot_si_next (wpAny_call_entry slot_si_next hT entry_si_next ?_ (args_si_next _))))
  unfold Builtin.«set_iterator.__next__»
  refine wpAny_bind (wpAny_pure ?_)
  refine wpAny_bind (wpAny_fieldsOf hJ rfl ?_)
  dsimp only
  refine wpAny_bind (wpAny_setEntries_of hD rfl (fits1 _) ?_)
  refine wpAny_ite_false (by decide) ?_
  refine wpAny_bind (setNext_r (i := 0) (sl := 0) (.inl ⟨rfl, rfl⟩) hD (fun k _ hk => ?_) (fun h => by cases h))
  dsimp only
  refine wpAny_bind (wpAny_setField hJ rfl (by simp) ?_)
  have hJ1 := Heap.get?_update_self (Obj.mapFields fun x => x.setIfInBounds 0 (rawInt ↑k)) hJ rfl
  refine wpAny_bind (wpAny_setField hJ1 rfl (by simp [Obj.mapFields]) ?_)
  refine wpAny_pure ⟨_, rfl, wpAny_pure ?_⟩
  have hJ2 := Heap.get?_update_self (Obj.mapFields fun x => x.setIfInBounds 1 (rawInt (0 + 1))) hJ1 rfl
  exact h _ k hk ((Heap.SameBut.update ..).trans (Heap.SameBut.update ..)) hJ2

theorem next_set1 {D J : Addr} {Q : Option Value → Shared → Prop} (hh : A.handled = none) (hD : s.heap.get? D = some (sobj1 (ledOf w))) {k : Nat} (hk : k = 1 ∨ w.params.followText "set-order" = true) (hJ : s.heap.get? J = some (siobj D k 1))
    (h : ∀ h', Heap.ExtBut J s.heap h' → Q none { s with heap := h' }) : wpAny (model prog w) A (pyNext (.ref J)) Q E s := by
  have hT : s.TypeIs (.ref J) "set_iterator" := ⟨_, hJ, rfl⟩
  unfold pyNext
  refine wpAny_bind (wpAny_attempt (wpAny_callSpecial?_slot (name := Str.ofString "__next__") hT slot_si_next (wpAny_call_entry slot_si_next hT entry_si_next ?_ (args_si_next _))))
  unfold Builtin.«set_iterator.__next__»
  refine wpAny_bind (wpAny_pure ?_)
  refine wpAny_bind (wpAny_fieldsOf hJ rfl ?_)
  dsimp only
  refine wpAny_bind (wpAny_setEntries_of hD rfl (fits1 _) ?_)
  refine wpAny_ite_false (by decide) ?_
  refine wpAny_bind (setNext_r (i := 1) (sl := k) (.inr ⟨rfl, hk⟩) hD (fun k h _ => by cases h) (fun _ => ?_))
  dsimp only
  refine wpAny_bind (wpAny_setField hJ rfl (by simp) ?_)
  show wpAny _ _ (newExc (.type "StopIteration") [] >>= _) _ _ _
  refine wpAny_bind ?_
  simp only [newExc, newTuple]
  refine wpAny_bind (wpAny_newObj_type ?_ (by size_fits))
  refine wpAny_bind (m := firstArgMember _ _) (wpAny_of_eq (a := Value.none) (by first | rfl | (simp only [firstArgMember]; rfl)) ?_)
  refine wpAny_newObj_type ?_ (by size_fits)
  simp only [raiseNew]
  refine wpAny_bind (wpAny_handled ?_)
  rw [show A.in1.handled = none from hh]
  refine wpAny_bind (wpAny_pure (wpAny_throw ?_))
  refine wpAny_bind (wpAny_isInstance (T := "StopIteration") (b := true) ⟨_, Heap.get?_push_size _ rfl, rfl⟩ isSubtype_stop ?_)
  exact wpAny_pure (h _ (((Heap.SameBut.update ..).extBut.push _).push _))
end
end Mine
end

section
open PySem PySem.W PyProof.Rows PySem.Calls PySem.SeqAt
set_option Elab.async false
set_option maxRecDepth 100000
namespace Mine
section
variable {prog : Program} {w : World} {A : Around} {E : Value → Shared → Prop} {s₀ s : Shared} {P : PM} {m : Str → Option Value} {env : Env}
theorem unpack_set {D : Addr} {nm : Str} {p0 pos : Pos} {x1} {Q : Unit → Shared → Prop} (F : Fn s₀ env.locals m P s) (hh : A.handled = none) (hD : P D = some (sobj1 (ledOf w)))
    (h : ∀ s', Fn s₀ env.locals (put m nm (.bool false)) P s' → s.toks ≤ s'.toks → Q () s')
    (hk : env.scope.kind = .function := by rfl) (hl : env.kindOf nm = some .local := by rfl) :
    wpAny (model prog w) A (assign (.Tuple [.Name nm p0] x1 pos) env (.ref D)) Q E s := by
  have hDs := F.keep _ _ hD
  have hT : s.TypeIs (.ref D) "set" := ⟨_, hDs, rfl⟩
  rw [arm_assign_Tuple]
  refine wpAny_bind (wpAny_standAt ?_)
  unfold unpack
  refine wpAny_bind (wpAny_holding ?_)
  unfold unpackItems notIterableAtAll
  refine wpAny_bind (wpAny_bind (wpAny_specialOf hT PySem.F.slot_set_iter.lookup ?_))
  simp only [Option.isSome_some, if_true]
  refine wpAny_pure ?_
  simp only [Bool.false_eq_true, if_false]
  refine wpAny_bind (wpAny_holding (iter_set hDs ?_))
  have hP : P s.heap.objs.size = none := F.fresh (Nat.le_refl _)
  have hB : s₀.heap.get? s.heap.objs.size = none := F.notBase (Nat.le_refl _)
  have F₁ := F.push (siobj D 0 0) (t := s.toks)
  have hDJ : D ≠ s.heap.objs.size := fun q => by rw [q, hP] at hD; cases hD
  have hJ : (s.heap.push (siobj D 0 0)).get? s.heap.objs.size = some (siobj D 0 0) := Heap.get?_push_size _ rfl
  have hD₁ := Heap.get?_push_of_some (siobj D 0 0) hDs
  have hLJ : env.locals ≠ s.heap.objs.size := Nat.ne_of_lt F.lt
  generalize s.heap.push (siobj D 0 0) = h1 at F₁ hJ hD₁ ⊢
  generalize s.heap.objs.size = J at hP hB F₁ hDJ hJ hLJ ⊢
  refine wpAny_bind (wpAny_holding ?_)
  show wpAny (model prog w) A (draw (.ref J) 1) _ _ _
  unfold draw
  refine wpAny_bind (next_set0 (s := { s with heap := h1 }) hD₁ hJ fun h2 k hq hs hJ2 => ?_)
  dsimp only
  refine wpAny_bind (wpAny_holding ?_)
  unfold draw
  refine wpAny_pure (wpAny_pure ?_)
  have hD₂ := (hs.2 _ hDJ).trans hD₁
  have e1 : (assignEach [Expr.Name nm p0] env).length = 1 := rfl
  rw [e1, if_neg (show ¬ ([Value.bool false].length < 1) from by simp)]
  refine wpAny_bind (wpAny_holding (next_set1 (s := { s with heap := h2 }) hh hD₂ hq hJ2 fun h3 hx => ?_))
  simp only [Option.isSome_none, Bool.false_eq_true, if_false]
  refine wpAny_pure ?_
  have F₂ := F₁.change (W := [J]) (h' := h3) (t := s.toks) (by simpa using hLJ) (by simpa using hB) (fun b o hb e => by simp at hb; exact hx b o hb ((hs.2 b hb).trans e))
  have hle : P.le ((P.set J (siobj D 0 0)).wo [J]) := PM.le_wo (PM.le_set hP) (by simpa using hP)
  have F₃ : Fn s₀ env.locals m P { s with heap := h3 } := ⟨F₂.toOk.mono hle F.base, F₂.ns, F.hL⟩
  show wpAny _ A (do holding [] (assign (.Name nm p0) env (.bool false)); assignInOrder [] []) _ _ _
  refine wpAny_bind (wpAny_holding (wpAny_assign_Name (wpAny_with_toks (n := s.toks) (Nat.le_refl _) (stL F₃ (fun s' F' ht => wpAny_pure (h s' F' ht)) hk hl))))
end
end Mine
end

section
open PySem PySem.W PyProof.Rows PySem.Calls PySem.SeqAt
set_option Elab.async false
set_option maxRecDepth 100000
namespace Mine
abbrev slobj (a b : Value) : Obj := { cls := .type "slice", data := .fields #[a, b, .none] }
section
variable {prog : Program} {w : World} {A : Around} {E : Value → Shared → Prop} {s : Shared} {value slice : Expr}
theorem slice_S {x : Str} {t : Tok} {j : Int} {uj : Tok} {Q : Value → Shared → Prop} (h : ∀ s' t', Grew s s' → Q (.str (Txt.slice x none (some j)) t') s') (hsz : x.length ≤ sizeLine)
    (hs : subscripted slice false (.str x t) (.ref s.heap.objs.size) = operate [.ref s.heap.objs.size, .str x t] (getItem (.str x t) (.ref s.heap.objs.size)) := by with_unfolding_all rfl)
    (ht : ∀ r, letTemporaryGo value (.str x t) r = pure () := by intro _; with_unfolding_all rfl) :
    wpAny (model prog w) A (subscriptTail value slice (.str x t) (.ref s.heap.objs.size)) Q E { s with heap := s.heap.push (slobj .none (.int j uj)) } := by
  have key : wpAny (model prog w) A (subscriptTail value slice (.str x t) (.ref s.heap.objs.size)) (fun v s' => ∃ h' t' k, v = .str (Txt.slice x none (some j)) t' ∧ s' = { s with heap := h', toks := k } ∧ (PM.le s.heap.get? h'.get? ∧ s.heap.objs.size ≤ h'.objs.size)) E { s with heap := s.heap.push (slobj .none (.int j uj)) } :=
    tail_of_ItemOn (SBH.sliceItem_ns (P := fun h' => PM.le s.heap.get? h'.get? ∧ s.heap.objs.size ≤ h'.objs.size)
      (fun h ob hP => ⟨fun a o e => Heap.get?_push_of_some _ (hP.1 a o e), by rw [Heap.size_push]; exact Nat.le_succ_of_le hP.2⟩) ⟨PM.le_refl _, Nat.le_refl _⟩
      (fun h' t' k hP => ⟨h', t', k, rfl, rfl, hP⟩) hsz) hs ht
  refine wpAny_with_toks (n := s.toks) (Nat.le_refl _) (wpAny_mono key (fun v s' hv htk => ?_) fun _ _ e _ => e)
  obtain ⟨h', t', k, rfl, rfl, h1, h2⟩ := hv
  exact h _ t' ⟨⟨h', k, rfl⟩, h1, h2, htk⟩

theorem slice_L {l : Addr} {vs : List Value} {a b : Value} {lo hi : Option Int} {Q : Value → Shared → Prop} (hl : IsL s.heap.get? l vs) (pa : IsPart a lo) (pb : IsPart b hi) (hsz : vs.length ≤ sizeLine)
    (h : Q (.ref (s.heap.objs.size + 1)) { s with heap := (s.heap.push (slobj a b)).push (lobj (slicePick vs.toArray lo hi none).toList) })
    (hs : subscripted slice false (.ref l) (.ref s.heap.objs.size) = operate [.ref s.heap.objs.size, .ref l] (getItem (.ref l) (.ref s.heap.objs.size)) := by with_unfolding_all rfl)
    (ht : ∀ r, letTemporaryGo value (.ref l) r = pure () := by intro _; with_unfolding_all rfl) :
    wpAny (model prog w) A (subscriptTail value slice (.ref l) (.ref s.heap.objs.size)) Q E { s with heap := s.heap.push (slobj a b) } := by
  obtain ⟨n, ho⟩ := hl
  have hL : s.heap.IsList l vs.toArray := ⟨_, ho, rfl, n, rfl⟩
  refine subscriptTail_ops (Heap.IsList.typeIs (s := { s with heap := s.heap.push (slobj a b) }) (hL.push _)) list_getitem_lookup
    (wpAny_getItem_list_slice (hL.push _) (Heap.IsSliceOf.new ..) pa pb .none (by simp) ?_ (by rw [List.size_toArray]; exact hsz)) hs ht
  show Q (.ref (s.heap.push _).objs.size) _
  rw [Heap.size_push]
  have e : (lobj (slicePick vs.toArray lo hi none).toList) = { cls := .type "list", data := .seq (slicePick vs.toArray lo hi none) } := by
    simp
  rw [e] at h
  exact h
/-- l[:b] -/
theorem slice_Lu {l : Addr} {vs : List Value} {b : Nat} {ub : Tok} {Q : Value → Shared → Prop} (hl : IsL s.heap.get? l vs) (hsz : vs.length ≤ sizeLine)
    (h : Q (.ref (s.heap.objs.size + 1)) { s with heap := (s.heap.push (slobj .none (.int b ub))).push (lobj (vs.take b)) })
    (hs : subscripted slice false (.ref l) (.ref s.heap.objs.size) = operate [.ref s.heap.objs.size, .ref l] (getItem (.ref l) (.ref s.heap.objs.size)) := by with_unfolding_all rfl)
    (ht : ∀ r, letTemporaryGo value (.ref l) r = pure () := by intro _; with_unfolding_all rfl) :
    wpAny (model prog w) A (subscriptTail value slice (.ref l) (.ref s.heap.objs.size)) Q E { s with heap := s.heap.push (slobj .none (.int b ub)) } :=
  slice_L hl .none (.int _ _) hsz (by rw [slicePick_upto']; simpa using h) hs ht
/-- l[a:] -/
theorem slice_Lf {l : Addr} {vs : List Value} {a : Nat} {ua : Tok} {Q : Value → Shared → Prop} (hl : IsL s.heap.get? l vs) (hsz : vs.length ≤ sizeLine)
    (h : Q (.ref (s.heap.objs.size + 1)) { s with heap := (s.heap.push (slobj (.int a ua) .none)).push (lobj (vs.drop a)) })
    (hs : subscripted slice false (.ref l) (.ref s.heap.objs.size) = operate [.ref s.heap.objs.size, .ref l] (getItem (.ref l) (.ref s.heap.objs.size)) := by with_unfolding_all rfl)
    (ht : ∀ r, letTemporaryGo value (.ref l) r = pure () := by intro _; with_unfolding_all rfl) :
    wpAny (model prog w) A (subscriptTail value slice (.ref l) (.ref s.heap.objs.size)) Q E { s with heap := s.heap.push (slobj (.int a ua) .none) } :=
  slice_L hl (.int _ _) .none hsz (by rw [slicePick_from']; simpa using h) hs ht
/-- l[a:b] -/
theorem slice_Lab {l : Addr} {vs : List Value} {a b : Nat} {ua ub : Tok} {Q : Value → Shared → Prop} (hl : IsL s.heap.get? l vs) (hsz : vs.length ≤ sizeLine) (hab : a ≤ b) (hb : b ≤ vs.length)
    (h : Q (.ref (s.heap.objs.size + 1)) { s with heap := (s.heap.push (slobj (.int a ua) (.int b ub))).push (lobj ((vs.drop a).take (b - a))) })
    (hs : subscripted slice false (.ref l) (.ref s.heap.objs.size) = operate [.ref s.heap.objs.size, .ref l] (getItem (.ref l) (.ref s.heap.objs.size)) := by with_unfolding_all rfl)
    (ht : ∀ r, letTemporaryGo value (.ref l) r = pure () := by intro _; with_unfolding_all rfl) :
    wpAny (model prog w) A (subscriptTail value slice (.ref l) (.ref s.heap.objs.size)) Q E { s with heap := s.heap.push (slobj (.int a ua) (.int b ub)) } :=
  slice_L hl (.int _ _) (.int _ _) hsz (by rw [slicePick_run _ _ _ (by simpa using hb) hab]; simpa using h) hs ht
/-- a slice's two new objects -/
theorem Fn.sliced {s₀ : Shared} {L : Addr} {m : Str → Option Value} {P : PM} (F : Fn s₀ L m P s) (a b : Value) (vs : List Value) (t : Nat) (ht : s.toks ≤ t) :
    ∃ P', P.le P' ∧ IsL P' (s.heap.objs.size + 1) vs ∧ Fn s₀ L m P' { s with heap := (s.heap.push (slobj a b)).push (lobj vs), toks := t } := by
  have F₁ := F.push (slobj a b) (t := s.toks)
  have F₂ := F₁.push (lobj vs) (t := t) rfl ht
  have e : ({ s with heap := s.heap.push (slobj a b), toks := s.toks } : Shared).heap.objs.size = s.heap.objs.size + 1 := Heap.size_push _ _
  rw [e] at F₂
  exact ⟨_, PM.le_trans (PM.le_set (F.fresh (Nat.le_refl _))) (PM.le_set (F₁.fresh (by rw [e]; exact Nat.le_refl _))), ⟨0, PM.set_self _ _ _⟩, F₂⟩
end
end Mine
end

section
open PySem PySem.W PyProof.Rows PySem.Calls PySem.SeqAt
set_option Elab.async false
set_option maxRecDepth 100000
set_option linter.unusedVariables false
namespace Mine
theorem entry_unchain : entryFor table "proto.unchain" = some Builtin.«proto.unchain» := entryFor_of_tree (by kernel_rfl)
theorem plain_unchain : plainId "proto.unchain" = true := by decide +kernel
abbrev xobj (cls : String) (t : Addr) (c : Value) : Obj := { cls := .type cls, data := .fields #[.ref t, .none, c, .none, .bool false, .none] }
section
variable {M : Model} {A : Around} {E : Value → Shared → Prop} {s : Shared}
theorem raise_words {α : Type} {cls msg : String} {Q : α → Shared → Prop} (hp : PlainExc cls) (hh : A.handled = none)
    (h : ∀ v, E (.ref (s.heap.objs.size + 1)) { s with heap := (s.heap.push (tobj [v])).push (xobj cls s.heap.objs.size .none), toks := s.toks + 1 }) :
    wpAny M A (raiseErrorWords cls msg : Sem α) Q E s := by
  unfold raiseErrorWords
  refine wpAny_bind (wpAny_mkText (wpAny_bind ?_))
  unfold newExc newTuple
  refine wpAny_bind (wpAny_newObj_type ?_)
  refine wpAny_bind (m := firstArgMember _ _) (wpAny_of_eq (a := Value.none) (by simp only [firstArgMember, hp.first]; rfl) ?_)
  rw [hp.own]
  refine wpAny_newObj_type ?_
  unfold raiseNew
  refine wpAny_bind (wpAny_handled ?_)
  rw [hh]
  have e := h (.str (Str.ofString msg) s.toks)
  rw [← Heap.size_push (h := s.heap) (o := tobj [.str (Str.ofString msg) s.toks])] at e
  first
    | exact wpAny_throw e
    | exact wpAny_bind (wpAny_pure (wpAny_throw e))
end
section
variable {prog : Program} {w : World} {A : Around} {E : Value → Shared → Prop} {s : Shared}
theorem raise_words_held {α : Type} {cls msg : String} {Q : α → Shared → Prop} {hd : Addr} {ho : Obj} {hv : Array Value} (hp : PlainExc cls) (hh : A.handled = some (.ref hd)) (hho : s.heap.get? hd = some ho) (hhd : ho.data = .fields hv) (hc : hv[2]? = some .none)
    (h : ∀ v, E (.ref (s.heap.objs.size + 1)) { s with heap := ((s.heap.push (tobj [v])).push (xobj cls s.heap.objs.size .none)).update (s.heap.objs.size + 1) (Obj.mapFields (·.setIfInBounds 2 (.ref hd))), toks := s.toks + 1 }) :
    wpAny (model prog w) A (raiseErrorWords cls msg : Sem α) Q E s := by
  unfold raiseErrorWords
  refine wpAny_bind (wpAny_mkText (wpAny_bind ?_))
  unfold newExc newTuple
  refine wpAny_bind (wpAny_newObj_type ?_)
  refine wpAny_bind (m := firstArgMember _ _) (wpAny_of_eq (a := Value.none) (by simp only [firstArgMember, hp.first]; rfl) ?_)
  rw [hp.own]
  refine wpAny_newObj_type ?_
  unfold raiseNew
  refine wpAny_bind (wpAny_handled ?_)
  rw [hh]
  have e := h (.str (Str.ofString msg) s.toks)
  have hsz := Heap.size_push s.heap (tobj [.str (Str.ofString msg) s.toks])
  have hlt : hd < s.heap.objs.size := Heap.lt_size hho
  dsimp only
  rw [if_pos (by
    have : hd ≠ (s.heap.push (tobj [.str (Str.ofString msg) s.toks])).objs.size := by rw [hsz]; exact Nat.ne_of_lt (Nat.lt_succ_of_lt hlt)
    simpa using this)]
  have ho2 := Heap.get?_push_of_some (xobj cls s.heap.objs.size .none) (Heap.get?_push_of_some (tobj [.str (Str.ofString msg) s.toks]) hho)
  refine wpAny_bind (wpAny_holding (wpAny_runValue (codeAny_builtin entry_unchain ?_)))
  rw [Around.under_plainId plain_unchain _]
  show wpAny _ A.in1 (field (.ref hd) 2 >>= _) _ _ _
  refine wpAny_bind (wpAny_field ho2 hhd hc ?_)
  rw [if_pos (by rfl)]
  refine wpAny_pure ?_
  refine wpAny_bind ?_
  show wpAny (model prog w) A (setField (.ref (s.heap.push (tobj [.str (Str.ofString msg) s.toks])).objs.size) 2 (.ref hd)) _ _ _
  have hx : ((s.heap.push (tobj [.str (Str.ofString msg) s.toks])).push (xobj cls s.heap.objs.size .none)).get? (s.heap.push (tobj [.str (Str.ofString msg) s.toks])).objs.size = some (xobj cls s.heap.objs.size .none) := Heap.get?_push_size _ rfl
  refine wpAny_setField hx rfl (by simp) (wpAny_throw ?_)
  rw [hsz]
  exact e
end
end Mine
end

section
open PySem PySem.W PyProof.Rows PySem.Calls PySem.SeqAt
set_option Elab.async false
set_option maxRecDepth 100000
set_option linter.unusedVariables false
namespace Mine
section
variable {prog : Program} {w : World} {A : Around} {E : Value → Shared → Prop} {s : Shared} {value slice : Expr}
theorem item_out {l : Addr} {vs : List Value} {j : Nat} {u : Tok} {Q : Value → Shared → Prop} (hl : IsL s.heap.get? l vs) (hj : vs.length ≤ j) (hj2 : j < 100000)
    (hr : ∀ (α : Type) (msg : String) (Q : α → Shared → Prop), wpAny (model prog w) A.in1 (raiseErrorWords "IndexError" msg : Sem α) Q E s)
    (hs : subscripted slice false (.ref l) (.int j u) = operate [.ref l, .int j u] (getItem (.ref l) (.int j u)) := by with_unfolding_all rfl) :
    wpAny (model prog w) A (subscriptTail value slice (.ref l) (.int j u)) Q E s := by
  obtain ⟨n, ho⟩ := hl
  have hT : s.TypeIs (.ref l) "list" := ⟨_, ho, rfl⟩
  refine tail_any hT slot_list_getitem.lookup ?_ hs
  clear hs
  have h0 : 0 ≤ (j : Int) := by omega
  have h1 : (j : Int) < 2 ^ 63 := by omega
  generalize hk : (j : Int) = k at h0 h1
  unfold getItem
  try with_reducible refine wpAny_holding ?_
  first | refine wpAny_bind (wpAny_pure ?_) | skip
  refine wpAny_bind (wpAny_sequenceKey hT (by decide) ?_)
  refine wpAny_bind (wpAny_callSpecial?_slot (name := Str.ofString "__getitem__") hT slot_list_getitem
    (wpAny_call_entry slot_list_getitem hT entry_list_getitem ?_ (args_list_getitem _ _)))
  unfold Builtin.«list.__getitem__»
  refine wpAny_bind (wpAny_pure ?_)
  dsimp only
  refine wpAny_bind (wpAny_listSubscript_int (fitsIndex_of h0 h1) ?_)
  clear h1
  subst hk
  have hx : vs.toArray[j]? = none := by simp; exact hj
  show wpAny _ _ ((seqItemAt l j >>= fun r => pure (r.map (j, ·))) >>= _) _ _ s
  refine wpAny_bind (wpAny_bind (wpAny_seqItemAt ho rfl (wpAny_pure ?_)))
  rw [hx]
  first
    | exact wpAny_bind (wpAny_rule (hr _ _ _))
    | exact wpAny_bind (wpAny_rule (wpAny_bind (hr _ _ _)))
    | exact wpAny_bind (wpAny_bind (wpAny_rule (hr _ _ _)))
    | exact wpAny_rule (hr _ _ _)
end

section
variable {s₀ s s₂ s₃ : Shared} {P : PM} {L : Addr} {m : Str → Option Value} {env : Env} {outer : List Env} {cls : String} {tr : Bool} {e : Addr} {h' : Heap} {v ctx : Value}
theorem two_new (s : Shared) (a b : Obj) (tk : Nat) (ht : s.toks ≤ tk) : Grew s { s with heap := (s.heap.push a).push b, toks := tk } :=
  (Grew.push s a s.toks).trans (Grew.push { s with heap := s.heap.push a } b tk ht)
/-- an exception without a context, raised in this very frame -/
theorem Fn.fly0 (F : Fn s₀ L m P s) (hff : s.heap.FunFrames {} outer) (hf : env.frame = some L) (hk : env.scope.kind ≠ .module) (v : Value) :
    Fly s (env :: outer) cls false (.ref (s.heap.objs.size + 1)) { s with heap := (s.heap.push (tobj [v])).push (xobj cls s.heap.objs.size .none), toks := s.toks + 1 } := by
  have G := two_new s (tobj [v]) (xobj cls s.heap.objs.size .none) (s.toks + 1) (Nat.le_succ _)
  obtain ⟨oL, es, ep, hoL, hdL, r⟩ := F.ns
  have he : ((s.heap.push (tobj [v])).push (xobj cls s.heap.objs.size .none)).get? (s.heap.objs.size + 1) = some (xobj cls s.heap.objs.size .none) := by
    have := Heap.get?_push_size (s.heap.push (tobj [v])) (o := xobj cls s.heap.objs.size .none) rfl
    rwa [Heap.size_push] at this
  exact ⟨G.x F.tok _, ⟨hk, ⟨L, oL, hf, rfl, G.keep _ _ hoL, fun vs q => by rw [hdL] at q; cases q⟩, hff.of_keeps fun b o q _ => ⟨o, G.keep b o q, rfl⟩⟩, _, _, _, rfl, Heap.get?_none_of_le (Nat.le_succ _), he, rfl, rfl, by simp, rfl, .inl ⟨rfl, rfl⟩⟩
/-- an exception raised amid another's handling -/
theorem Fn.fly1 {hd : Value} (F : Fn s₀ L m P s) (hff : s.heap.FunFrames {} outer) (hf : env.frame = some L) (hk : env.scope.kind ≠ .module) (v : Value) :
    Fly s (env :: outer) cls false (.ref (s.heap.objs.size + 1)) { s with heap := ((s.heap.push (tobj [v])).push (xobj cls s.heap.objs.size .none)).update (s.heap.objs.size + 1) (Obj.mapFields (·.setIfInBounds 2 hd)), toks := s.toks + 1 } hd := by
  have G₁ := two_new s (tobj [v]) (xobj cls s.heap.objs.size .none) (s.toks + 1) (Nat.le_succ _)
  have G := G₁.but (Heap.SameBut.update ((s.heap.push (tobj [v])).push (xobj cls s.heap.objs.size .none)) (s.heap.objs.size + 1) (Obj.mapFields (·.setIfInBounds 2 hd))) (Nat.le_succ _)
  obtain ⟨oL, es, ep, hoL, hdL, r⟩ := F.ns
  have he : ((s.heap.push (tobj [v])).push (xobj cls s.heap.objs.size .none)).get? (s.heap.objs.size + 1) = some (xobj cls s.heap.objs.size .none) := by
    have := Heap.get?_push_size (s.heap.push (tobj [v])) (o := xobj cls s.heap.objs.size .none) rfl
    rwa [Heap.size_push] at this
  have he2 := Heap.get?_update_self (Obj.mapFields (·.setIfInBounds 2 hd)) he rfl
  exact ⟨G.x F.tok _, ⟨hk, ⟨L, oL, hf, rfl, G.keep _ _ hoL, fun vs q => by rw [hdL] at q; cases q⟩, hff.of_keeps fun b o q _ => ⟨o, G.keep b o q, rfl⟩⟩, _, _, _, rfl, Heap.get?_none_of_le (Nat.le_succ _), he2, rfl, rfl, by simp, by simp, .inl ⟨rfl, by simp⟩⟩
/-- the frame behind a flight's notes -/
theorem Fly.fn (X : Fly s₂ (env :: outer) cls tr v s₃ ctx) (F : Fn s₀ L m P s₂) (hf : env.frame = some L) (hP : ∀ b ∈ framesOf outer, P b = none) : Fn s₀ L m P s₃ := by
  have e : framesOf (env :: outer) = L :: framesOf outer := by simp [framesOf, hf]
  have G := X.grew
  rw [e] at G
  obtain ⟨h₁, tk₁, e1⟩ := F.same
  obtain ⟨h₂, tk₂, e2⟩ := G.same
  refine ⟨⟨⟨h₂, tk₂, by rw [e2, e1]⟩, fun a o q => G.keep a o ?_ (F.keep a o q), F.base, G.tok⟩, G.ns F.ns, F.hL⟩
  intro hm
  rcases List.mem_cons.mp hm with rfl | hm
  · rw [F.hL] at q; cases q
  · rw [hP a hm] at q; cases q
end
end Mine
end

section
open PySem PySem.W PyProof.Rows PySem.Calls PySem.SeqAt
set_option Elab.async false
set_option maxRecDepth 100000
set_option linter.unusedVariables false
namespace Mine
/-- all of s's objects are known, the frames' up to their slots -/
def OldF (fs : List Addr) (h : Heap) (P : PM) : Prop := ∀ b o, h.get? b = some o → (b ∉ fs → P b = some o) ∧ ∃ sl, P b = some { o with slots := sl }
section
variable {s₀ s s₂ s₃ : Shared} {P P' P₀ : PM} {L : Addr} {m : Str → Option Value} {env : Env} {outer : List Env} {cls : String} {tr : Bool} {v ctx : Value} {fs : List Addr}
theorem OldF.of (h : PM.le s.heap.get? P) (fs : List Addr) : OldF fs s.heap P := fun b o e => ⟨fun _ => h b o e, o.slots, h b o e⟩
theorem OldF.mono (h : OldF fs s.heap P) (k : P.le P') : OldF fs s.heap P' := fun b o e => ⟨fun hb => k _ _ ((h b o e).1 hb), let ⟨sl, x⟩ := (h b o e).2; ⟨sl, k _ _ x⟩⟩
/-- know all that lies there -/
theorem Fn.all (F : Fn s₀ L m P s) : Fn s₀ L m (PM.del s.heap.get? L) s :=
  ⟨⟨F.same, PM.del_le _ _, fun a o e => by
    have ha : a ≠ L := fun q => by have := F.base a o e; rw [q, F.hL] at this; cases this
    rw [PM.del_ne ha]; exact F.keep a o (F.base a o e), F.tok⟩, F.ns, PM.del_self _ _⟩
theorem Fn.all_le (F : Fn s₀ L m P s) : P.le (PM.del s.heap.get? L) := fun a o e => by
  have ha : a ≠ L := fun q => by rw [q, F.hL] at e; cases e
  rw [PM.del_ne ha]; exact F.keep a o e
theorem Fn.noframes {fs : List Addr} (F : Fn s₀ L m P s) (hfb : ∀ f ∈ fs, s₀.heap.get? f = none) : Fn s₀ L m (P.wo fs) s :=
  ⟨F.toOk.mono (PM.wo_le _ _) (PM.le_wo F.base hfb), F.ns, by
    by_cases h : L ∈ fs
    · exact PM.wo_mem h
    · rw [PM.wo_ne h]; exact F.hL⟩
theorem IsL.wo {a : Addr} {vs : List Value} {fs : List Addr} (h : IsL P a vs) (hn : a ∉ fs) : IsL (P.wo fs) a vs := let ⟨n, e⟩ := h; ⟨n, by rw [PM.wo_ne hn]; exact e⟩
/-- behind a flight's notes: the frame again, all known -/
theorem Fly.again (X : Fly s₂ (env :: outer) cls tr v s₃ ctx) (F : Fn s₀ L m P s₂) (hf : env.frame = some L) (hfb : ∀ b ∈ framesOf outer, s₀.heap.get? b = none) :
    Fn s₀ L m (PM.del s₃.heap.get? L) s₃ ∧ (P.wo (framesOf outer)).le (PM.del s₃.heap.get? L) := by
  have F₁ := X.fn (F.noframes hfb) hf (fun b hb => PM.wo_mem hb)
  exact ⟨F₁.all, F₁.all_le⟩
theorem OldF.fly (h : OldF (framesOf outer) s.heap P) (X : Fly s₂ (env :: outer) cls tr v s₃ ctx) (F : Fn s₀ L m P s₂) (hf : env.frame = some L) (hLs : s.heap.get? L = none) : OldF (framesOf outer) s.heap (PM.del s₃.heap.get? L) := fun b o e => by
  have hb : b ≠ L := fun q => by rw [q, hLs] at e; cases e
  have ef : framesOf (env :: outer) = L :: framesOf outer := by simp [framesOf, hf]
  have G := X.grew
  rw [ef] at G
  obtain ⟨h1, sl, h2⟩ := h b o e
  have k2 := F.keep _ _ h2
  rw [PM.del_ne hb]
  refine ⟨fun hn => G.keep b _ (by simp [hb, hn]) (F.keep _ _ (h1 hn)), ?_⟩
  obtain ⟨sl2, x⟩ := G.any k2
  exact ⟨sl2, x⟩
theorem Fn.leaveF (F : Fn s₀ L m P s₂) (O : Ok s₀ P₀ s) (old : OldF fs s.heap P) (above : s.heap.objs.size = L) (ht : s.toks ≤ s₂.toks) : GrewF fs s s₂ := by
  obtain ⟨h₁, tk₁, rfl⟩ := O.same
  obtain ⟨h₂, tk₂, rfl⟩ := F.same
  exact ⟨⟨h₂, tk₂, rfl⟩, fun b o hb e => F.keep _ _ ((old b o e).1 hb), fun b o _ e => let ⟨sl, x⟩ := (old b o e).2; ⟨sl, F.keep _ _ x⟩, by rw [above]; exact Nat.le_of_lt F.lt, ht⟩
/-- the outer frames in a state that knows them -/
theorem OldF.ff (h : OldF (framesOf outer) s.heap P) (F : Ok s₀ P s₂) (hff : s.heap.FunFrames {} outer) : s₂.heap.FunFrames {} outer :=
  hff.of_keeps fun b o e _ => let ⟨sl, x⟩ := (h b o e).2; ⟨_, F.keep _ _ x, rfl⟩
end
end Mine
end

section
open PySem PySem.W PyProof.Rows PySem.Calls PySem.SeqAt
set_option Elab.async false
set_option maxRecDepth 100000
namespace Mine
theorem stLx {M : Model} {A : Around} {E : Value → Shared → Prop} {s₀ s : Shared} {P : PM} {m : Str → Option Value} {env : Env} {x : Str} {v : Value} {Q : Unit → Shared → Prop} (F : Fn s₀ env.locals m P s)
    (h : ∀ s' m', (∀ y z, y ≠ x → m y = some z → m' y = some z) → m' x = some v → Fn s₀ env.locals m' P s' → s.toks ≤ s'.toks → Q () s')
    (hk : env.scope.kind = .function := by rfl) (hl : env.kindOf x = some .local := by rfl) : wpAny M A (storeName env x v) Q E s :=
  stLt F (fun s' F' ht => h s' _ (fun _ _ hy hz => put_of hy hz) (put_self _ _ _) F' ht) hk hl
section
variable {prog : Program} {w : World} {A : Around} {E : Value → Shared → Prop} {s : Shared} {env : Env}
/-- a while whose test is not met at once -/
theorem while0 {test : Expr} {body : List Stmt} {pos : Pos} {Q : Flow → Shared → Prop}
    (h : wpAny (model prog w) A (isTrue test env (eval test env)) (fun b s₂ => b = false ∧ Q .next s₂) (notedBy (model prog w) A env (cameBackBy (model prog w) A env E)) s) :
    wpAny (model prog w) A (exec (.While test body [] pos) env) Q E s := by
  refine wpAny_While (codeAny_whileLoop (fun _ s' => s' = s) (fun n s' hI => ?_) 0 rfl)
  subst hI
  refine wpAny_mono h (fun b s₂ h₂ => ?_) fun _ _ e => e
  obtain ⟨rfl, h₂⟩ := h₂
  rw [if_neg (by decide)]
  exact wpAny_execs_nil h₂
/-- l.append(v) -/
theorem getm_append {D : Addr} {vs : List Value} {n : Nat} {pl : Sem Bool} {Q : Value × List Value → Shared → Prop} (hl : s.heap.get? D = some (lobj vs n)) (h : Q (.builtin "list.append", [.ref D]) s) :
    wpAny (model prog w) A (getMethod (.ref D) "append" pl) Q E s :=
  getMethod_builtin (T := "list") ⟨_, hl, rfl⟩ PySem.F.plainAttrs_list PySem.F.slot_list_append PySem.F.type_list_append (fun b e => by injection e with e; subst e; exact ⟨_, hl, rfl⟩) h
theorem getm_extend {D : Addr} {vs : List Value} {n : Nat} {pl : Sem Bool} {Q : Value × List Value → Shared → Prop} (hl : s.heap.get? D = some (lobj vs n)) (h : Q (.builtin "list.extend", [.ref D]) s) :
    wpAny (model prog w) A (getMethod (.ref D) "extend" pl) Q E s :=
  getMethod_builtin (T := "list") ⟨_, hl, rfl⟩ PySem.F.plainAttrs_list PySem.F.slot_list_extend PySem.F.type_list_extend (fun b e => by injection e with e; subst e; exact ⟨_, hl, rfl⟩) h
theorem call_append {D : Addr} {vs : List Value} {n : Nat} {v : Value} {Q : Value → Shared → Prop} (hl : s.heap.get? D = some (lobj vs n)) (hsz : vs.length < sizeLine)
    (h : ∀ h' n', h'.get? D = some (lobj (vs ++ [v]) n') → Heap.SameBut D s.heap h' → Q .none { s with heap := h' }) :
    wpAny (model prog w) A (call (.builtin "list.append") [.ref D, v]) Q E s := by
  refine wpAny_list_append_plain (items := vs.toArray) (hsz := by simpa using Nat.le_of_lt hsz) ⟨n, hl⟩ fun h₅ hl₅ hs₅ => ?_
  obtain ⟨n', e⟩ := hl₅
  exact h h₅ n' (by simpa using e) hs₅
theorem call_extend {D b : Addr} {vs ws : List Value} {n n2 : Nat} {Q : Value → Shared → Prop} (hl : s.heap.get? D = some (lobj vs n)) (hb : s.heap.get? b = some (lobj ws n2)) (hsz : vs.length + ws.length ≤ 100000)
    (h : ∀ h' n', h'.get? D = some (lobj (vs ++ ws) n') → Heap.SameBut D s.heap h' → Q .none { s with heap := h' }) :
    wpAny (model prog w) A (call (.builtin "list.extend") [.ref D, .ref b]) Q E s := by
  have l1 : 100000 ≤ sizeLine := by decide
  refine call_meets PySem.F.slot_list_extend ⟨_, hl, rfl⟩ PySem.F.entry_list_extend (PySem.F.args_list_extend_2 _ _)
    (AutoSeq1.list_extend_list_list_0 D vs.toArray n b ws.toArray n2 ?_ (by simp; omega) (by simp; omega)) ⟨hl, hb, ?_⟩
  · have : Builtin.List.listTooLong (vs.toArray.size + ws.toArray.size) = false := by
      unfold Builtin.List.listTooLong
      simp
      omega
    rw [this]; simp
  · have hg := Heap.get?_update_self (Obj.mapSeq fun x => x ++ ws.toArray) hl rfl
    have e : ∃ n', Obj.mapSeq (fun x => x ++ ws.toArray) (lobj vs n) = lobj (vs ++ ws) n' := ⟨if ws = [] then n else n + 1, by simp [Obj.mapSeq]⟩
    obtain ⟨n', e⟩ := e
    rw [e] at hg
    exact h _ n' hg (Heap.SameBut.update _ _ _)
end
end Mine
end

section
open PySem PySem.W PyProof.Rows
set_option Elab.async false
set_option maxRecDepth 100000
namespace Mine
/-- the key at a place -/
def kk (key : Nat → Nat) (p : Array Nat) (i : Nat) : Nat := key (p.getD i 0)
structure PN (n : Nat) (p : Array Nat) : Prop where
  perm : p.toList.Perm (List.range n)
section
variable {n : Nat} {p : Array Nat} {key : Nat → Nat}
theorem PN.size (h : PN n p) : p.size = n := by have := h.perm.length_eq; simpa using this
theorem PN.lt (h : PN n p) {i : Nat} (hi : i < n) : p.getD i 0 < n := by
  have hz := h.size
  have e : p.getD i 0 = p[i] := by simp [Array.getD, hz, hi]
  rw [e]
  have hm : p[i] ∈ p.toList := by simp
  simpa using (h.perm.mem_iff.mp hm)
theorem PN.inj (h : PN n p) {i j : Nat} (hi : i < n) (hj : j < n) (hij : i ≠ j) : p.getD i 0 ≠ p.getD j 0 := fun e => by
  have hz := h.size
  have e1 : p.getD i 0 = p.toList[i]'(by simpa [hz] using hi) := by simp [Array.getD, hz, hi]
  have e2 : p.getD j 0 = p.toList[j]'(by simpa [hz] using hj) := by simp [Array.getD, hz, hj]
  have nd : p.toList.Nodup := h.perm.nodup_iff.mpr List.nodup_range
  rw [e1, e2] at e
  have pw := List.pairwise_iff_getElem.mp nd
  rcases Nat.lt_or_gt_of_ne hij with q | q
  · exact pw i j _ _ q e
  · exact pw j i _ _ q e.symm
theorem PN.of_perm {q : Array Nat} (h : PN n p) (hq : q.Perm p) : PN n q := ⟨(Array.perm_iff_toList_perm.mp hq).trans h.perm⟩
/-- the first m rise -/
def Asc (key : Nat → Nat) (p : Array Nat) (m : Nat) : Prop := ∀ i j, i < j → j < m → kk key p i < kk key p j
def Desc (key : Nat → Nat) (p : Array Nat) (m : Nat) : Prop := ∀ i j, i < j → j < m → kk key p j < kk key p i
theorem Asc.step {m : Nat} (h : Asc key p m) (hl : 1 ≤ m) (hm : kk key p (m - 1) < kk key p m) : Asc key p (m + 1) := fun i j hij hj => by
  rcases Nat.lt_or_ge j m with q | q
  · exact h i j hij q
  · have e : j = m := by omega
    subst e
    rcases Nat.lt_or_ge i (j - 1) with r | r
    · exact Nat.lt_trans (h i (j - 1) r (by omega)) hm
    · have : i = j - 1 := by omega
      rw [this]; exact hm
theorem Desc.step {m : Nat} (h : Desc key p m) (hl : 1 ≤ m) (hm : kk key p m < kk key p (m - 1)) : Desc key p (m + 1) := fun i j hij hj => by
  rcases Nat.lt_or_ge j m with q | q
  · exact h i j hij q
  · have e : j = m := by omega
    subst e
    rcases Nat.lt_or_ge i (j - 1) with r | r
    · exact Nat.lt_trans hm (h i (j - 1) r (by omega))
    · have : i = j - 1 := by omega
      rw [this]; exact hm
end
section
variable {n : Nat} {key : Nat → Nat} {s : Shared} {cmp : Nat → Nat → (Bool → Shared → Prop) → Shared → Prop}
/-- what cmp tells -/
def Tells (n : Nat) (key : Nat → Nat) (cmp : Nat → Nat → (Bool → Shared → Prop) → Shared → Prop) (s : Shared) : Prop := ∀ i j C, i < n → j < n → C (decide (key i < key j)) s → cmp i j C s
/-- keys are apart -/
def Apart (n : Nat) (key : Nat → Nat) : Prop := ∀ i j, i < n → j < n → i ≠ j → key i ≠ key j
theorem PN.ne (hk : Apart n key) {p : Array Nat} (hp : PN n p) {i j : Nat} (hi : i < n) (hj : j < n) (hij : i ≠ j) : kk key p i ≠ kk key p j := hk _ _ (hp.lt hi) (hp.lt hj) (hp.inj hi hj hij)
theorem asc_wp (hc : Tells n key cmp s) (hk : Apart n key) {p : Array Nat} (hp : PN n p) : ∀ (f m : Nat) (Q : Nat → Shared → Prop), m + f ≤ n → 1 ≤ m → Asc key p m → (∀ m', m ≤ m' → m' ≤ m + f → Asc key p m' → (m' < m + f → kk key p m' < kk key p (m' - 1)) → Q m' s) → (kas_asc p f m).kasWp cmp Q s
  | 0, m, Q, _, _, ha, h => h m (Nat.le_refl _) (Nat.le_refl _) ha (fun h => absurd h (Nat.lt_irrefl _))
  | f + 1, m, Q, hf, hm, ha, h => by
    show cmp _ _ _ s
    refine hc _ _ _ (hp.lt (by omega)) (hp.lt (by omega)) ?_
    by_cases q : kk key p m < kk key p (m - 1)
    · rw [decide_eq_true (show key (p.getD m 0) < key (p.getD (m - 1) 0) from q)]
      exact h m (Nat.le_refl _) (by omega) ha (fun _ => q)
    · rw [decide_eq_false (show ¬ key (p.getD m 0) < key (p.getD (m - 1) 0) from q)]
      have hd := hp.ne hk (i := m - 1) (j := m) (by omega) (by omega) (by omega)
      exact asc_wp hc hk hp f (m + 1) Q (by omega) (by omega) (ha.step hm (by omega)) fun m' h1 h2 h3 h4 => h m' (by omega) (by omega) h3 (fun h => h4 (by omega))
theorem desc_wp (hc : Tells n key cmp s) (hk : Apart n key) {p : Array Nat} (hp : PN n p) : ∀ (f m : Nat) (Q : Array Nat × Nat × Nat → Shared → Prop), m + f ≤ n → 1 ≤ m → Desc key p m → (∀ m', m ≤ m' → m' ≤ m + f → Desc key p m' → Q (p, m', 0) s) → (kas_desc f p m 0).kasWp cmp Q s
  | 0, m, Q, _, _, ha, h => h m (Nat.le_refl _) (Nat.le_refl _) ha
  | f + 1, m, Q, hf, hm, ha, h => by
    show cmp _ _ _ s
    refine hc _ _ _ (hp.lt (by omega)) (hp.lt (by omega)) ?_
    by_cases q : kk key p m < kk key p (m - 1)
    · rw [decide_eq_true (show key (p.getD m 0) < key (p.getD (m - 1) 0) from q)]
      exact desc_wp hc hk hp f (m + 1) Q (by omega) (by omega) (ha.step hm q) fun m' h1 h2 h3 => h m' (by omega) (by omega) h3
    · rw [decide_eq_false (show ¬ key (p.getD m 0) < key (p.getD (m - 1) 0) from q)]
      have hd := hp.ne hk (i := m - 1) (j := m) (by omega) (by omega) (by omega)
      show cmp _ _ _ s
      refine hc _ _ _ (hp.lt (by omega)) (hp.lt (by omega)) ?_
      rw [decide_eq_true (show key (p.getD (m - 1) 0) < key (p.getD m 0) from by show kk key p (m - 1) < kk key p m; omega)]
      exact h m (Nat.le_refl _) (by omega) ha

theorem rev_at {p : Array Nat} {m : Nat} (hm : m ≤ p.size) (k : Nat) : (kas_rev p 0 m).getD k 0 = if k < m then p.getD (m - 1 - k) 0 else p.getD k 0 := by
  have h := getElem?_mirror_all (xs := p) (i := 0) (j := m) hm k
  have e : ∀ (q : Array Nat) (i : Nat), q.getD i 0 = (q[i]?).getD 0 := fun q i => by simp [Array.getD]; split <;> simp_all
  unfold kas_rev
  rw [e, h]
  by_cases hk : k < m
  · rw [if_pos ⟨Nat.zero_le _, hk⟩, if_pos hk, e]; congr 2; omega
  · rw [if_neg (fun h => hk h.2), if_neg hk, e]
theorem rev_asc {p : Array Nat} {m : Nat} (hm : m ≤ p.size) (h : Desc key p m) : Asc key (kas_rev p 0 m) m := fun i j hij hj => by
  unfold kk
  rw [rev_at hm, rev_at hm, if_pos (by omega), if_pos hj]
  exact h (m - 1 - j) (m - 1 - i) (by omega) (by omega)

theorem count_wp (hc : Tells n key cmp s) (hk : Apart n key) {p : Array Nat} (hp : PN n p) (h2 : 2 ≤ n) {Q : Nat × Array Nat → Shared → Prop}
    (h : ∀ m p', 1 ≤ m → m ≤ n → PN n p' → Asc key p' m → Q (m, p') s) : (kas_count n p).kasWp cmp Q s := by
  unfold kas_count
  rw [KasT.kasWp_bind]
  refine asc_wp hc hk hp (n - 1) 1 _ (by omega) (Nat.le_refl _) (fun i j hij hj => by omega) fun m h1 hmn ha hstop => ?_
  by_cases hm : m = n
  · rw [if_pos (by simpa using hm)]
    exact h m p h1 (by omega) hp ha
  · rw [if_neg (by simpa using hm)]
    by_cases hm1 : m > 1
    · rw [if_pos hm1]
      show cmp _ _ _ s
      refine hc _ _ _ (hp.lt (by omega)) (hp.lt (by omega)) ?_
      rw [decide_eq_true (show key (p.getD 0 0) < key (p.getD (m - 1) 0) from ha 0 (m - 1) (by omega) (by omega))]
      exact h m p h1 (by omega) hp ha
    · rw [if_neg hm1]
      have e1 : m = 1 := by omega
      subst e1
      have hs := hstop (by omega)
      unfold kas_descPart
      rw [KasT.kasWp_bind]
      refine desc_wp hc hk hp (n - (1 + 1)) (1 + 1) _ (by omega) (by omega) (fun i j hij hj => by
        have : i = 0 := by omega
        have : j = 1 := by omega
        subst i j; exact hs) fun m' h1' h2' hd => ?_
      show (kas_tail3 m' n p).kasWp cmp Q s
      unfold kas_tail3
      rw [KasT.kasWp_bind]
      have hsz : m' ≤ p.size := by rw [hp.size]; omega
      have hp' : PN n (kas_rev p 0 m') := hp.of_perm (mirror_perm _ _ _ _)
      refine asc_wp hc hk hp' (n - m') m' _ (by omega) (by omega) (rev_asc hsz hd) fun m'' a1 a2 a3 _ => ?_
      exact h m'' _ (by omega) (by omega) hp' a3

theorem place_wp (hc : Tells n key cmp s) (hk : Apart n key) {p : Array Nat} (hp : PN n p) {k : Nat} (hkn : k < n) (ha : Asc key p k) : ∀ (f l r : Nat) (Q : Nat → Shared → Prop), l ≤ r → r ≤ k → r - l ≤ f → (∀ i, i < l → kk key p i < kk key p k) → (∀ i, r ≤ i → i < k → kk key p k < kk key p i) →
    (∀ l', l' ≤ k → (∀ i, i < l' → kk key p i < kk key p k) → (∀ i, l' ≤ i → i < k → kk key p k < kk key p i) → Q l' s) → (kas_place p k f l r).kasWp cmp Q s
  | 0, l, r, Q, hlr, hr, hf, h1, h2, h => by
    have : l = r := by omega
    subst this
    exact h l hr h1 h2
  | f + 1, l, r, Q, hlr, hr, hf, h1, h2, h => by
    unfold kas_place
    by_cases q : l ≥ r
    · rw [if_pos q]
      have : l = r := by omega
      subst this
      exact h l hr h1 h2
    · rw [if_neg q]
      show cmp _ _ _ s
      refine hc _ _ _ (hp.lt hkn) (hp.lt (by omega)) ?_
      by_cases q2 : kk key p k < kk key p ((l + r) / 2)
      · rw [decide_eq_true (show key (p.getD k 0) < key (p.getD ((l + r) / 2) 0) from q2)]
        refine place_wp hc hk hp hkn ha f l ((l + r) / 2) Q (by omega) (by omega) (by omega) h1 (fun i hi hik => ?_) h
        rcases Nat.eq_or_lt_of_le hi with e | e
        · rw [← e]; exact q2
        · exact Nat.lt_trans q2 (ha _ _ e hik)
      · rw [decide_eq_false (show ¬ key (p.getD k 0) < key (p.getD ((l + r) / 2) 0) from q2)]
        have hd := hp.ne hk (i := (l + r) / 2) (j := k) (by omega) hkn (by omega)
        refine place_wp hc hk hp hkn ha f ((l + r) / 2 + 1) r Q (by omega) hr (by omega) (fun i hi => ?_) h2 h
        rcases Nat.eq_or_lt_of_le (Nat.le_of_lt_succ hi) with e | e
        · rw [e]; omega
        · exact Nat.lt_trans (ha _ _ e (by omega)) (by omega)

theorem bub_at {p : Array Nat} {src d : Nat} (hs : src < p.size) (hd : d ≤ src) (k : Nat) : (bubble p src d).getD k 0 = if k = src - d then p.getD src 0 else if src - d < k ∧ k ≤ src then p.getD (k - 1) 0 else p.getD k 0 := by
  have h := getElem?_bubble (xs := p) hs d hd k
  have e : ∀ (q : Array Nat) (i : Nat), q.getD i 0 = (q[i]?).getD 0 := fun q i => by simp [Array.getD]; split <;> simp_all
  rw [e, e, e, e, h]
  split
  · rfl
  · split
    · rfl
    · rfl

theorem bin_wp (hc : Tells n key cmp s) (hk : Apart n key) : ∀ (f k : Nat) (p : Array Nat) (Q : Array Nat → Shared → Prop), PN n p → k + f = n → Asc key p k → (∀ p', PN n p' → Asc key p' n → Q p' s) → (kas_bin f p k).kasWp cmp Q s
  | 0, k, p, Q, hp, hkn, ha, h => by
    have : k = n := by omega
    subst this
    exact h p hp ha
  | f + 1, k, p, Q, hp, hkn, ha, h => by
    unfold kas_bin
    rw [KasT.kasWp_bind]
    refine place_wp hc hk hp (by omega) ha k 0 k _ (Nat.zero_le _) (Nat.le_refl _) (by omega) (fun i hi => by omega) (fun i h1 h2 => by omega) fun l hl h1 h2 => ?_
    have hsz : k < p.size := by rw [hp.size]; omega
    refine bin_wp hc hk f (k + 1) _ Q (hp.of_perm (bubble_perm _ _ _)) (by omega) (fun i j hij hj => ?_) h
    have el : k - (k - l) = l := by omega
    unfold kk
    rw [bub_at hsz (by omega), bub_at hsz (by omega), el]
    by_cases i1 : i = l
    · rw [if_pos i1, if_neg (by omega), if_pos (by omega)]
      exact h2 (j - 1) (by omega) (by omega)
    · rw [if_neg i1]
      by_cases j1 : j = l
      · rw [if_pos j1, if_neg (by omega)]
        exact h1 i (by omega)
      · rw [if_neg j1]
        by_cases i2 : l < i ∧ i ≤ k
        · rw [if_pos i2, if_pos (by omega)]
          exact ha (i - 1) (j - 1) (by omega) (by omega)
        · rw [if_neg i2]
          by_cases j2 : l < j ∧ j ≤ k
          · rw [if_pos j2]
            rcases Nat.lt_or_ge i (j - 1) with q | q
            · exact ha i (j - 1) q (by omega)
            · exfalso; omega
          · rw [if_neg j2]
            exact ha i j hij (by omega)

/-- the sort's questions, answered by keys that are apart, end in the order of the keys -/
theorem sort_wp (hc : Tells n key cmp s) (hk : Apart n key) (h2 : 2 ≤ n) {Q : Array Nat → Shared → Prop} (h : ∀ p, PN n p → Asc key p n → Q p s) : (kas_sort n).kasWp cmp Q s := by
  unfold kas_sort
  rw [KasT.kasWp_bind]
  refine count_wp hc hk (p := List.toArray (List.range n)) ⟨List.Perm.refl _⟩ h2 fun m p' h1 hm hp ha => ?_
  dsimp only
  by_cases q : m < n
  · rw [if_pos q, Nat.max_eq_left h1]
    exact bin_wp hc hk (n - m) m p' Q hp (by omega) ha h
  · rw [if_neg q]
    have : m = n := by omega
    subst this
    exact h p' hp ha
end
end Mine
end

section
open PySem PySem.W PyProof.Rows PySem.Calls PySem.SeqAt
set_option Elab.async false
set_option maxRecDepth 100000
set_option linter.unusedVariables false
namespace Mine
abbrev RowAt := Addr × List (Str × Tok)
abbrev refsOf (zs : List RowAt) : List Value := zs.map fun z => .ref z.1
abbrev textsOf (z : RowAt) : List Str := z.2.map (·.1)
/-- all objects but L -/
def allBut (h : Heap) (L : Addr) : List (Addr × Obj) := (List.range h.objs.size).filterMap fun b => if b = L then none else (h.get? b).map fun o => (b, o)
theorem mem_allBut {h : Heap} {L b : Addr} {o : Obj} (hb : b ≠ L) (e : h.get? b = some o) : (b, o) ∈ allBut h L := by
  unfold allBut
  refine List.mem_filterMap.mpr ⟨b, List.mem_range.mpr (Heap.lt_size e), ?_⟩
  rw [if_neg hb, e]; rfl
theorem of_allBut {h : Heap} {L : Addr} {p : Addr × Obj} (hp : p ∈ allBut h L) : h.get? p.1 = some p.2 ∧ p.1 ≠ L := by
  unfold allBut at hp
  obtain ⟨b, _, e⟩ := List.mem_filterMap.mp hp
  by_cases hb : b = L
  · rw [if_pos hb] at e; cases e
  · rw [if_neg hb] at e
    cases q : h.get? b with
    | none => rw [q] at e; cases e
    | some o => rw [q] at e; cases e; exact ⟨q, hb⟩
theorem empty_get (b : Addr) : ({} : Heap).get? b = none := by
  cases q : ({} : Heap).get? b with
  | none => rfl
  | some o => exact absurd (Heap.lt_size q) (Nat.not_lt_zero _)
section
variable {prog : Program} {w : World} {A : Around} {E : Value → Shared → Prop} {s₀ s : Shared} {P : PM} {m : Str → Option Value} {L : Addr}
theorem sorted_r {l : Addr} {zs : List RowAt} {rank : List Str → Nat} {Q : Value → Shared → Prop} (F : Fn s₀ L m P s) (hu : A.units + 10 < cLine) (hl : IsL P l (refsOf zs)) (hz : ∀ z ∈ zs, IsL P z.1 (strValues z.2)) (h2 : 2 ≤ zs.length) (h64 : zs.length < 64)
    (hr : ∀ x ∈ zs, ∀ y ∈ zs, ltL (textsOf x) (textsOf y) = decide (rank (textsOf x) < rank (textsOf y))) (hd : (zs.map fun z => rank (textsOf z)).Nodup)
    (h : ∀ D out s' P', out.Perm zs → out.Pairwise (fun x y => rank (textsOf x) < rank (textsOf y)) → P.le P' → IsL P' D (refsOf out) → l < D → Fn s₀ L m P' s' → s.toks ≤ s'.toks → Q (.ref D) s') :
    wpAny (model prog w) A (call (.builtin "sorted") [.ref l]) Q E s := by
  have O := F.toOk
  obtain ⟨nl, hlo⟩ := id hl
  have F₀ : Fr {} L s.heap m := ⟨F.ns, fun b o e => (nomatch (empty_get b).symm.trans e), Nat.zero_le _⟩
  have N₀ : News {} L s.heap (allBut s.heap L) := fun p hp => ⟨(of_allBut hp).1, (of_allBut hp).2, empty_get _⟩
  have hPL : ∀ b o, P b = some o → b ≠ L := fun b o e q => by rw [q, F.hL] at e; cases e
  have hvl : (refsOf zs).length = zs.length := List.length_map _
  have upN : ∀ {h' : Heap} {r : List (Addr × Obj)}, News {} L h' (r ++ allBut s.heap L) → PM.le P h'.get? := fun {h' r} N b o e => (N (b, o) (List.mem_append_right _ (mem_allBut (hPL b o e) (F.keep _ _ e)))).1
  refine kas_sorted (T := .type "list") F₀ N₀ (vs := refsOf zs) ⟨_, O.keep _ _ hlo, rfl, nl, rfl⟩ (by rw [hvl]; exact h2) (by rw [hvl]; exact h64) (fun h' F' N' v hv => ?_) (by decide) fun D e1 h' F' N' hD => ?_
  · obtain ⟨z, hzm, rfl⟩ := List.mem_map.mp hv
    obtain ⟨n, hzo⟩ := hz z hzm
    exact (Looks.ld (upN (r := []) N' _ _ hzo)).andThen .now
  · have up' : PM.le P h'.get? := upN (r := [(D, seqObj "list" #[] e1)]) N'
    rw [hvl]
    have gz : ∀ i, i < zs.length → ∃ z, zs[i]? = some z ∧ z ∈ zs ∧ (refsOf zs).getD i Value.none = .ref z.1 := fun i hi => by
      refine ⟨zs[i], List.getElem?_eq_getElem hi, List.getElem_mem hi, ?_⟩
      simp [refsOf, hi]
    have gd : ∀ i (hi : i < zs.length), zs.getD i default = zs[i] := fun i hi => by simp [hi]
    refine sort_wp (key := fun i => rank (textsOf (zs.getD i default))) (fun i j C hi hj hC => ?_) (fun i j hi hj hij => ?_) h2 fun p hp ha => ?_
    · obtain ⟨zi, ei, mi, vi⟩ := gz i hi
      obtain ⟨zj, ej, mj, vj⟩ := gz j hj
      show wpAny (model prog w) A.in1.in1 (keyLt' oneType' ((refsOf zs).getD i Value.none) ((refsOf zs).getD j Value.none)) C (fun _ _ => False) _
      rw [vi, vj]
      refine key_lt_l (by show A.units + 1 + 1 < cLine; omega) ((hz zi mi).mono up') ((hz zj mj).mono up') ?_
      have e1 : zs.getD i default = zi := by rw [List.getD_eq_getElem?_getD, ei]; rfl
      have e2 : zs.getD j default = zj := by rw [List.getD_eq_getElem?_getD, ej]; rfl
      have ed : decide (rank (textsOf zi) < rank (textsOf zj)) = decide (rank (textsOf (zs.getD i default)) < rank (textsOf (zs.getD j default))) := by simp only [e1, e2]
      rw [hr zi mi zj mj, ed]
      exact hC
    · have pw := List.pairwise_iff_getElem.mp hd
      dsimp only
      rw [gd i hi, gd j hj]
      rcases Nat.lt_or_gt_of_ne hij with q | q
      · have := pw i j (by simpa using hi) (by simpa using hj) q
        simpa using this
      · have := pw j i (by simpa using hj) (by simpa using hi) q
        simpa using Ne.symm this
    · have hps := hp.size
      have hout : (p.toList.map fun i => (refsOf zs).getD i Value.none) = refsOf (p.toList.map fun i => zs.getD i default) := by
        unfold refsOf
        rw [List.map_map]
        refine List.map_congr_left fun i hi => ?_
        have hi' : i < zs.length := by simpa using hp.perm.mem_iff.mp hi
        simp [hi']
      rw [hout]
      refine KasFin.intro F' N' (.head fun q hq => Nat.ne_of_lt (hD q hq)) fun h'' c F'' N'' => ?_
      have up'' : PM.le P h''.get? := upN (r := [(D, PySem.W.listOf (List.toArray (refsOf (p.toList.map fun i => zs.getD i default))) c)]) N''
      have hDo := (N'' _ (List.mem_cons_self)).1
      have hPD : P D = none := by
        cases q : P D with
        | none => rfl
        | some o => exact absurd (hD (D, o) (mem_allBut (hPL D o q) (F.keep _ _ q))) (Nat.lt_irrefl _)
      have hDL : D ≠ L := (N'' _ (List.mem_cons_self)).2.1
      refine h D _ _ (P.set D (lobj (refsOf (p.toList.map fun i => zs.getD i default)) c)) ?_ ?_ (PM.le_set hPD) ⟨c, PM.set_self _ _ _⟩ (hD (l, _) (mem_allBut (hPL l _ hlo) (F.keep _ _ hlo))) ?_ (Nat.le_refl _)
      · have e : (List.range zs.length).map (fun i => zs.getD i default) = zs := by
          apply List.ext_getElem
          · simp
          · intro i h1 h2
            simp at h1
            simp [h1]
        have := hp.perm.map (fun i => zs.getD i default)
        rwa [e] at this
      · rw [List.pairwise_map]
        rw [List.pairwise_iff_getElem]
        intro i j hi hj hij
        have := ha i j hij (by simpa [hps] using hj)
        unfold kk at this
        have hi' : i < zs.length := by simpa [hps] using hi
        have hj' : j < zs.length := by simpa [hps] using hj
        have e1 : p.getD i 0 = p.toList[i] := by simp [Array.getD, hps, hi']
        have e2 : p.getD j 0 = p.toList[j] := by simp [Array.getD, hps, hj']
        rw [e1, e2] at this
        exact this
      · obtain ⟨h₁, tk₁, e⟩ := F.same
        refine ⟨⟨⟨h'', s.toks, by rw [e]⟩, fun a o q => ?_, PM.le_trans F.base (PM.le_set hPD), F.tok⟩, F''.ns, by rw [PM.set_ne (Ne.symm hDL)]; exact F.hL⟩
        by_cases ha' : a = D
        · rw [ha', PM.set_self] at q
          injection q with q
          rw [ha', ← q]
          exact hDo
        · rw [PM.set_ne ha'] at q
          exact up'' a o q
end
end Mine
end

section
open PySem PySem.W PyProof.Rows PySem.Calls
set_option Elab.async false
set_option maxRecDepth 100000
namespace Mine
variable {prog : Program} {w : World} {A : Around} {E : Value → Shared → Prop} {s₀ s : Shared} {P : PM} {p : Program} {loose : List Str}

local macro_rules | `(tactic| walk_at "tk") => `(tactic| first | omega | (dsimp only; omega))
local macro_rules | `(tactic| walk_at "lk") => `(tactic| first | rfl | assumption | exact put_self _ _ _ | exact put_of (by decide) (by first | assumption | exact put_self _ _ _ | exact put_of (by decide) (by assumption)))
local macro_rules | `(tactic| walk_at "eval Name") => `(tactic| first
  | refine nmL (by first | assumption | exact Fn.toks (by assumption) _ (by walk_at "tk")) (by walk_at "lk") ?_
  | refine nmG (by first | assumption | exact Ok.toks (by assumption) _ (by walk_at "tk")) (by assumption) rfl ?_
  | refine nmB (by first | assumption | exact Ok.toks (by assumption) _ (by walk_at "tk")) (by assumption) rfl (by boot_by_name) ?_)
local macro_rules | `(tactic| walk_at "loadName") => `(tactic| refine ldL (by first | assumption | exact Fn.toks (by assumption) _ (by walk_at "tk")) (by walk_at "lk") ?_)
local macro_rules | `(tactic| walk_at "storeName") => `(tactic| (refine stLt (by first | assumption | exact Fn.toks (by assumption) _ (by walk_at "tk")) ?_; intro s' F' T'))

/-- what is known ahead of commonpath's try -/
structure CpA (s₀ s : Shared) (x y : Str) (t u : Tok) (L : Addr) (s₂ : Shared) (D : Addr) (m : Str → Option Value) (P : PM) : Prop extends Fn s₀ L m P s₂ where
  nm : m "paths" = some (.ref D)
  old : PM.le s.heap.get? P
  above : s.heap.objs.size = L
  toks : s.toks ≤ s₂.toks
  sep : ∃ o t, P (L + 1) = some o ∧ o.data = .cell (some (.str (Str.ofString "/") t)) ∧ 0 < t ∧ s₀.heap.get? (L + 1) = none
  cur : ∃ o t, P (L + 2) = some o ∧ o.data = .cell (some (.str (Str.ofString ".") t)) ∧ 0 < t ∧ s₀.heap.get? (L + 2) = none
  paths : P D = some (tobj [.str x t, .str y u])

set_option maxHeartbeats 1000000 in
theorem cp_A {a : Addr} {x y : Str} {t u : Tok} {Q : Value → Shared → Prop} (O : Ok s₀ P s) (T : Text (KT w) p loose s₀.heap) (hd : A.depth + 10 < recursionLimit) (hu : A.units + 100 < cLine) (hh : A.handled = none)
    (ha : IsL P a [.str x t, .str y u])
    (hrest : ∀ L s₂ D m P₂, CpA s₀ s x y t u L s₂ D m P₂ → wpAny (model prog w) (A.deeper (envAt w 127 L)) (execs ((bodyAt w 127).drop 3) (envAt w 127 L)) (fun fl s' => s.toks ≤ s'.toks → Q (match fl with | .ret v => v | _ => .none) s') (fun _ _ => False) s₂) :
    wpAny (model prog w) A (call (.ref 127) [.ref a]) Q E s := by
  refine enter (fd := fdAt w 127) (body := bodyAt w 127) (binds := [(Str.ofString "paths", .ref a)]) (m := put mt "paths" (.ref a)) (cm := mt) O T (by omega) (f := 127) rfl rfl rfl rfl (by kernel_rfl) rfl (by kernel_rfl) (fun _ => by kernel_rfl) (fun _ => by kernel_rfl) ?_
  intro L P₁ s₁ C
  have F := C.toFn
  have O₁ := F.toOk
  have k := PM.le_trans O.keep C.old
  have c1 := C.cell "sep" (L + 1) rfl
  have c2 := C.cell "curdir" (L + 2) rfl
  refine wpAny_mono (E := fun _ _ => False) ?_ (fun _ _ x => x) fun _ _ x => x.elim
  refine wpAny_execs_cons ?_
  repeat walk1
  refine wpAny_mono (tuple_map2 (Q := fun v s' => ∃ D, v = .ref D ∧ Grew s₁ s' ∧ s'.heap.get? D = some (tobj [.str x t, .str y u]) ∧ s₁.heap.objs.size ≤ D) (E := fun _ _ => False) hh ((ha.mono k).mono O₁.keep) ?_ ?_) (fun v s' h => ?_) fun _ _ e => e.elim
  · rintro A' v s' Q' hv hA G hq
    rcases hv with rfl | rfl
    · exact fspath_ok (O₁.grew G) T (by rw [hA]; show A.depth + 1 < _; omega) hq
    · exact fspath_ok (O₁.grew G) T (by rw [hA]; show A.depth + 1 < _; omega) hq
  · exact fun s' D G hD hz => ⟨D, rfl, G, hD, hz⟩
  walk1
  refine wpAny_mono h (fun v s₂ h => ?_) fun _ _ e => e.elim
  obtain ⟨D, rfl, G, hD, hz⟩ := h
  replace F := F.call G
  have hDn : (P₁.join (New s₁.heap s₂.heap)) D = some (tobj [.str x t, .str y u]) := O₁.new_le s₂ _ _ (by unfold New; rw [if_neg (Nat.not_lt.mpr hz)]; exact hD)
  have T₂ := Nat.le_trans C.toks G.tok
  refine stLt F ?_
  intro s₃ F₃ T₃
  have O₃ := F₃.toOk
  clear F
  repeat walk1
  refine ktl_truthy (F₃.keep _ _ hDn) (by show ¬ ((2 : Nat) : Int) ≥ 2 ^ 63; decide) ?_
  replace F₃ := F₃.toks (s₃.toks + 1 + 1) (by omega)
  clear O₃
  have O₃ := F₃.toOk
  refine ite_neg (by show ¬ (false = true); decide) ?_
  repeat walk1
  refine item_tupleT (j := 0) (l := [.str x t, .str y u]) ⟨_, F₃.keep _ _ hDn, rfl, _, rfl⟩ (by decide) (by decide) (by rfl) rfl ?_
  repeat walk1
  obtain ⟨b1, -, o1, p1, d1⟩ := c1
  obtain ⟨b2, -, o2, p2, d2⟩ := c2
  have n1 : D ≠ L + 1 := Nat.ne_of_gt (Nat.lt_of_lt_of_le (O₁.lt p1) hz)
  have n2 : D ≠ L + 2 := Nat.ne_of_gt (Nat.lt_of_lt_of_le (O₁.lt p2) hz)
  replace p1 := PM.le_join_left P₁ (New s₁.heap s₂.heap) _ _ p1
  replace p2 := PM.le_join_left P₁ (New s₁.heap s₂.heap) _ _ p2
  have hold : PM.le s.heap.get? (P₁.join (New s₁.heap s₂.heap)) := PM.le_trans C.old (PM.le_join_left _ _)
  have bnd : s.heap.objs.size = L := C.above
  have hDL : L < D := Nat.lt_of_lt_of_le C.toFn.lt hz
  generalize P₁.join (New s₁.heap s₂.heap) = P₂ at *
  have F₄ := F₃.toks (s₃.toks + 1 + 1 + 1 + 1 + 1) (by walk_at "tk")
  refine stCt F₄ p1 rfl d1 b1 fun s₄ o1' F₅ d1' T₄ => ?_
  have p2' : (P₂.set (L + 1) o1') (L + 2) = some o2 := (PM.set_ne (addNe L (by decide))).trans p2
  iterate 3 walk1
  refine stCt (F₅.toks (s₄.toks + 1)) p2' rfl d2 b2 fun s₅ o2' F₆ d2' T₅ => ?_
  dsimp only at T₄ T₅
  iterate 1 walk1
  exact @hrest L s₅ D _ _ { F₆ with
    nm := put_self _ _ _
    old := PM.le_set_of (PM.le_set_of hold (Heap.get?_none_of_le (Nat.le_trans (Nat.le_of_eq bnd) (Nat.le_add_right _ _)))) (Heap.get?_none_of_le (Nat.le_trans (Nat.le_of_eq bnd) (Nat.le_add_right _ _)))
    above := bnd
    toks := by omega
    sep := ⟨o1', _, (PM.set_ne (addNe L (by decide))).trans (PM.set_self _ _ _), d1', Nat.succ_pos _, b1⟩
    cur := ⟨o2', _, PM.set_self _ _ _, d2', F₅.tok, b2⟩
    paths := (PM.set_ne n2).trans ((PM.set_ne n1).trans hDn) }
end Mine
end

section
open PySem PySem.W PyProof.Rows PySem.Calls
set_option Elab.async false
set_option maxRecDepth 100000
set_option linter.unusedVariables false
namespace Mine
variable {prog : Program} {w : World} {A : Around} {E : Value → Shared → Prop} {s₀ s : Shared} {P : PM} {p : Program} {loose : List Str}

local macro_rules | `(tactic| walk_at "tk") => `(tactic| first | omega | (dsimp only; omega))
local macro_rules | `(tactic| walk_at "lk") => `(tactic| first | rfl | assumption | exact put_self _ _ _ | exact put_of (by decide) (by first | assumption | exact put_self _ _ _ | exact put_of (by decide) (by assumption)))
local macro_rules | `(tactic| walk_at "eval Name") => `(tactic| first
  | refine nmL (by first | assumption | exact Fn.toks (by assumption) _ (by walk_at "tk")) (by walk_at "lk") ?_
  | refine nmG (by first | assumption | exact Ok.toks (by assumption) _ (by walk_at "tk")) (by assumption) rfl ?_
  | refine nmB (by first | assumption | exact Ok.toks (by assumption) _ (by walk_at "tk")) (by assumption) rfl (by boot_by_name) ?_)
local macro_rules | `(tactic| walk_at "loadName") => `(tactic| refine ldL (by first | assumption | exact Fn.toks (by assumption) _ (by walk_at "tk")) (by walk_at "lk") ?_)
local macro_rules | `(tactic| walk_at "storeName") => `(tactic| (refine stLt (by first | assumption | exact Fn.toks (by assumption) _ (by walk_at "tk")) ?_; intro s' F' T'))

/-- a list of texts made since, each text z's own or with a new token -/
def RL (N T0 : Nat) (f : Str × Tok → List Str) (z : Str × Tok) (v : Value) (s : Shared) : Prop :=
  ∃ a l, v = .ref a ∧ N ≤ a ∧ IsL s.heap.get? a (strValues l) ∧ l.map (·.1) = f z ∧ ∀ q ∈ l, q = z ∨ T0 ≤ q.2
theorem RL.later {N T0 : Nat} {f : Str × Tok → List Str} {z : Str × Tok} {v : Value} {s s' : Shared} (h : RL N T0 f z v s) (L : Later N s s') : RL N T0 f z v s' := by
  obtain ⟨a, l, rfl, hN, ⟨n, hl⟩, ht, hq⟩ := h
  exact ⟨a, l, rfl, hN, ⟨n, (Since.ge (L.le _ _ (Since.of hN hl))).2⟩, ht, hq⟩

/-- a path's text and its row of names -/
structure PT (x : Str) (row : List Str) : Prop where
  len : x.length ≤ 1000
  parts : (Builtin.Str.partsBetween x (Builtin.Str.occurrences x (Str.ofString "/") 0 x.length (x.length + 1)) 1).length ≤ 1000
  pl : ∀ c ∈ Txt.split x (Str.ofString "/"), c.length ≤ 1000
  rel : Txt.startswith x (Str.ofString "/") = false
  row : (Txt.split x (Str.ofString "/")).filter (fun c => c != Str.ofString "" && c != Str.ofString ".") = row
theorem PT.splitlen {x : Str} {row : List Str} (h : PT x row) : (Txt.split x (Str.ofString "/")).length ≤ 1000 := by
  unfold Txt.split
  split
  · show 1 ≤ 1000; decide
  · split
    · show 1 ≤ 1000; decide
    · exact h.parts
noncomputable def cpTry (w : World) : List Stmt := match (bodyAt w 127).drop 3 with | [.Try b _ _ _ _] => b | _ => []
/-- what is known behind commonpath's inner try -/
structure CpB (s₀ s : Shared) (x y : Str) (t u : Tok) (L : Addr) (s₂ : Shared) (D1 a0 a1 : Addr) (l0 l1 : List (Str × Tok)) (m : Str → Option Value) (P : PM) : Prop extends Fn s₀ L m P s₂ where
  n1 : m "split_paths" = some (.ref D1)
  n2 : m "isabs" = some (.bool false)
  old : PM.le s.heap.get? P
  above : s.heap.objs.size = L
  toks : s.toks ≤ s₂.toks
  sep : ∃ o t, P (L + 1) = some o ∧ o.data = .cell (some (.str (Str.ofString "/") t)) ∧ 0 < t ∧ s₀.heap.get? (L + 1) = none
  cur : ∃ o t, P (L + 2) = some o ∧ o.data = .cell (some (.str (Str.ofString ".") t)) ∧ 0 < t ∧ s₀.heap.get? (L + 2) = none
  hD : IsL P D1 [.ref a0, .ref a1]
  h0 : IsL P a0 (strValues l0)
  h1 : IsL P a1 (strValues l1)
  t0 : l0.map (·.1) = Txt.split x "/"
  t1 : l1.map (·.1) = Txt.split y "/"
  q0 : ∀ q ∈ l0, q = (x, t) ∨ s.toks ≤ q.2
  q1 : ∀ q ∈ l1, q = (y, u) ∨ s.toks ≤ q.2
abbrev retOf : Flow → Value | .ret v => v | _ => .none
set_option maxHeartbeats 1000000 in
theorem cp_B {L D : Addr} {s₂ : Shared} {m : Str → Option Value} {x y : Str} {t u : Tok} {Q : Value → Shared → Prop} (K : CpA s₀ s x y t u L s₂ D m P) (T : Text (KT w) p loose s₀.heap) (hd : A.depth + 10 < recursionLimit) (hu : A.units + 100 < cLine) (hh : A.handled = none)
    {rx ry : List Str} (hx : PT x rx) (hy : PT y ry)
    (hrest : ∀ s₆ D1 a0 a1 l0 l1 m P, CpB s₀ s x y t u L s₆ D1 a0 a1 l0 l1 m P → wpAny (model prog w) (A.deeper (envAt w 127 L)) (execs ((cpTry w).drop 2) (envAt w 127 L)) (fun f s' => ∃ v, f = .ret v ∧ (s.toks ≤ s'.toks → Q v s')) (fun _ _ => False) s₆) :
    wpAny (model prog w) (A.deeper (envAt w 127 L)) (execs ((bodyAt w 127).drop 3) (envAt w 127 L)) (fun fl s' => s.toks ≤ s'.toks → Q (match fl with | .ret v => v | _ => .none) s') (fun _ _ => False) s₂ := by
  have F := K.toFn
  have hn := K.nm
  obtain ⟨o1, t1, p1, d1, u1, b1⟩ := K.sep
  obtain ⟨o2, t2, p2, d2, u2, b2⟩ := K.cur
  refine wpAny_execs_cons ?_
  refine wpAny_Try_except ?_
  refine wpAny_mono (E := fun _ _ => False) ?_ (fun _ _ h => h) fun _ _ e => e.elim
  refine wpAny_execs_cons ?_
  refine comp_A (α := Str × Tok) (cl := [(Str.ofString "sep", L + 1)]) (s₀ := s₀) hh (by rfl) (by rfl) (by decide) rfl (by decide) rfl rfl rfl ?_
  walk1
  refine ⟨D, m, P, [(x, t), (y, u)], (fun z => .str z.1 z.2), (fun _ => true), RL (s₂.heap.objs.size + 3) s₂.toks (fun z => Txt.split z.1 "/"), rfl, F, ⟨0, .inr K.paths⟩, by show 2 ≤ sizeLine; decide, fun _ _ _ _ h L => h.later L, ?_, ?_⟩
  · intro k z C m' s₃ E' hz F₃ hm hN ht
    refine tests_nil ⟨Grew.refl _, rfl, fun _ => ?_⟩
    iterate 5 walk1
    refine nmC F₃.toOk p1 rfl d1 ?_
    iterate 1 walk1
    have hzl : ∃ r, PT z.1 r := by
      rcases List.mem_cons.mp (List.mem_of_getElem? hz) with rfl | h
      · exact ⟨_, hx⟩
      · rw [List.mem_singleton.mp h]; exact ⟨_, hy⟩
    obtain ⟨r, hr⟩ := hzl
    refine split_r (by decide) (Nat.le_trans hr.len (by decide)) (Nat.le_trans hr.parts (by decide)) fun l k hl hq hk => ?_
    exact ⟨Grew.push s₃ _ k hk, _, l, rfl, hN, ⟨0, Heap.get?_push_size _ rfl⟩, hl, fun q hq' => (hq q hq').imp id fun h => Nat.le_trans ht h⟩
  intro D1 ys K1 s'' s₄ hA hS hD1 hge ht1 ht2 F₄
  cases hA with | cons r0 hA => ?_
  cases hA with | cons r1 hA => ?_
  cases hA
  dsimp only
  have q1 := PM.le_join_left P K1 _ _ p1
  have q2 := PM.le_join_left P K1 _ _ p2
  have qp := PM.le_join_left P K1 _ _ K.paths
  have oldK : PM.le s.heap.get? (P.join K1) := PM.le_trans K.old (PM.le_join_left _ _)
  have hsz : ∀ a o, P a = some o → a < s₂.heap.objs.size := fun a o e => F.toOk.lt e
  have kK : K1.le (P.join K1) := PM.le_join_right fun a o e => by
    cases q : P a with
    | none => rfl
    | some o' => exact absurd (hsz a o' q) (Nat.not_lt.mpr (hge a o e))
  obtain ⟨a0, l0, rfl, hN0, hl0, ht0, hq0⟩ := r0
  obtain ⟨a1, l1, rfl, hN1, hl1, htt1, hq1⟩ := r1
  replace hl0 : IsL (P.join K1) a0 (strValues l0) := let ⟨n, e⟩ := hl0; ⟨n, kK _ _ (hS _ _ (Since.of hN0 e))⟩
  replace hl1 : IsL (P.join K1) a1 (strValues l1) := let ⟨n, e⟩ := hl1; ⟨n, kK _ _ (hS _ _ (Since.of hN1 e))⟩
  replace hD1 : IsL (P.join K1) D1 [.ref a0, .ref a1] := hD1.mono kK
  have tt : s.toks ≤ s₄.toks := Nat.le_trans K.toks (Nat.le_trans ht2 ht1)
  have tt2 : s₂.toks ≤ s₄.toks := Nat.le_trans ht2 ht1
  clear hS hge
  generalize P.join K1 = P₄ at *
  refine wpAny_execs_cons ?_
  refine wpAny_Try_except ?_
  refine wpAny_mono (E := fun _ _ => False) ?_ (fun _ _ h => h) fun _ _ e => e.elim
  refine wpAny_execs_cons ?_
  iterate 1 walk1
  refine setcomp_e (s₀ := s₀) (cl := [(Str.ofString "sep", L + 1)]) hh (by rfl) (by decide) rfl (by decide) rfl ?_
  refine nmL F₄ (put_of (by decide) hn) ?_
  refine ⟨D, [.str x t, .str y u], _, P₄, rfl, F₄, ⟨0, .inr qp⟩, by show 0 < 2; decide, ?_, ?_⟩
  · intro k v C m' s₃ E' hv F₃ hm
    have hz : ∃ z : Str × Tok, v = .str z.1 z.2 ∧ Txt.startswith z.1 (Str.ofString "/") = false := by
      rcases List.mem_cons.mp (List.mem_of_getElem? hv) with rfl | h
      · exact ⟨(x, t), rfl, hx.rel⟩
      · rw [List.mem_singleton.mp h]; exact ⟨(y, u), rfl, hy.rel⟩
    obtain ⟨z, rfl, hz⟩ := hz
    iterate 5 walk1
    refine nmC F₃.toOk q1 rfl d1 ?_
    iterate 1 walk1
    refine startswith_r ?_
    rw [hz]
    exact ⟨Grew.refl _, rfl⟩
  intro D2 s₅ G5 hD2 hz2
  have F₅ := F₄.call G5
  have hD2' : (P₄.join (New s₄.heap s₅.heap)) D2 = some (sobj1 (ledOf w)) := F₄.toOk.new_le s₅ _ _ (by unfold New; rw [if_neg (Nat.not_lt.mpr hz2)]; exact hD2)
  refine unpack_set F₅ hh hD2' fun s₆ F₆ t₆ => ?_
  have up := PM.le_join_left P₄ (New s₄.heap s₅.heap)
  replace q1 := up _ _ q1
  replace q2 := up _ _ q2
  replace hl0 := hl0.mono up
  replace hl1 := hl1.mono up
  replace hD1 := hD1.mono up
  replace oldK := PM.le_trans oldK up
  have tt5 : s₂.toks ≤ s₆.toks := Nat.le_trans tt2 (Nat.le_trans G5.tok t₆)
  clear hD2' F₅ F₄
  generalize P₄.join (New s₄.heap s₅.heap) = P₆ at *
  dsimp only
  iterate 2 walk1
  have B : CpB s₀ s x y t u L s₆ D1 a0 a1 l0 l1 _ P₆ := { F₆ with
    n1 := put_of (by decide) (put_self _ _ _)
    n2 := put_self _ _ _
    old := oldK
    above := K.above
    toks := Nat.le_trans K.toks tt5
    sep := ⟨o1, t1, q1, d1, u1, b1⟩
    cur := ⟨o2, t2, q2, d2, u2, b2⟩
    hD := hD1
    h0 := hl0
    h1 := hl1
    t0 := ht0
    t1 := htt1
    q0 := fun q hq => (hq0 q hq).imp id fun h => Nat.le_trans K.toks h
    q1 := fun q hq => (hq1 q hq).imp id fun h => Nat.le_trans K.toks h }
  refine wpAny_mono (hrest _ _ _ _ _ _ _ _ B) (fun f s' h => ?_) fun _ _ e => e.elim
  obtain ⟨v, rfl, h⟩ := h
  exact h
end Mine
end

section
open PySem PySem.W PyProof.Rows PySem.Calls
set_option Elab.async false
set_option maxRecDepth 100000
set_option linter.unusedVariables false
namespace Mine
variable {prog : Program} {w : World} {A : Around} {E : Value → Shared → Prop} {s₀ s : Shared} {P : PM} {p : Program} {loose : List Str}

local macro_rules | `(tactic| walk_at "tk") => `(tactic| first | omega | (dsimp only; omega))
local macro_rules | `(tactic| walk_at "lk") => `(tactic| first | rfl | assumption | exact put_self _ _ _ | exact put_of (by decide) (by first | assumption | exact put_self _ _ _ | exact put_of (by decide) (by assumption)))
local macro_rules | `(tactic| walk_at "eval Name") => `(tactic| first
  | refine nmL (by first | assumption | exact Fn.toks (by assumption) _ (by walk_at "tk")) (by walk_at "lk") ?_
  | refine nmG (by first | assumption | exact Ok.toks (by assumption) _ (by walk_at "tk")) (by assumption) rfl ?_
  | refine nmB (by first | assumption | exact Ok.toks (by assumption) _ (by walk_at "tk")) (by assumption) rfl (by boot_by_name) ?_)
local macro_rules | `(tactic| walk_at "loadName") => `(tactic| refine ldL (by first | assumption | exact Fn.toks (by assumption) _ (by walk_at "tk")) (by walk_at "lk") ?_)
local macro_rules | `(tactic| walk_at "storeName") => `(tactic| (refine stLt (by first | assumption | exact Fn.toks (by assumption) _ (by walk_at "tk")) ?_; intro s' F' T'))

def keepC (q : Str × Tok) : Bool := q.1 != Str.ofString "" && q.1 != Str.ofString "."
/-- the filtered row of z -/
def RF (N : Nat) (z : Addr × List (Str × Tok)) (v : Value) (s : Shared) : Prop :=
  ∃ b, v = .ref b ∧ N ≤ b ∧ IsL s.heap.get? b (strValues (z.2.filter keepC))
theorem RF.later {N : Nat} {z : Addr × List (Str × Tok)} {v : Value} {s s' : Shared} (h : RF N z v s) (L : Later N s s') : RF N z v s' := by
  obtain ⟨b, rfl, hN, n, hl⟩ := h
  exact ⟨b, rfl, hN, n, (Since.ge (L.le _ _ (Since.of hN hl))).2⟩
theorem all2_strs {l : List (Str × Tok)} {ys : List Value} (h : All2 (fun q v => v = .str q.1 q.2) l ys) : ys = strValues l := by
  induction h with
  | nil => rfl
  | cons a _ ih => rw [a, ih]; rfl

theorem emptyStr (c : Str) : ((c.length : Int) != 0) = (c != Str.ofString "") := by
  by_cases h : c = Str.ofString ""
  · rw [h]; decide
  · have h2 : c.length ≠ 0 := fun e => h (by
      cases c with | mk a =>
      have e : a.size = 0 := e
      have : a = #[] := Array.size_eq_zero_iff.mp e
      rw [this]; rfl)
    have h3 : ((c.length : Int) != 0) = true := bne_iff_ne.mpr (by omega)
    rw [h3]; exact (bne_iff_ne.mpr h).symm

/-- what is known ahead of commonpath's for -/
structure CpC (s₀ s : Shared) (x y : Str) (t u : Tok) (rx ry : List Str) (L : Addr) (s₂ : Shared) (e1 e2 : Addr) (lm lx : List (Str × Tok)) (m : Str → Option Value) (P : PM) : Prop extends Fn s₀ L m P s₂ where
  n1 : m "s1" = some (.ref e1)
  n2 : m "s2" = some (.ref e2)
  n3 : m "common" = some (.ref e1)
  n4 : m "isabs" = some (.bool false)
  old : PM.le s.heap.get? P
  above : s.heap.objs.size = L
  toks : s.toks ≤ s₂.toks
  sep : ∃ o t, P (L + 1) = some o ∧ o.data = .cell (some (.str (Str.ofString "/") t)) ∧ 0 < t ∧ s₀.heap.get? (L + 1) = none
  h1 : IsL P e1 (strValues lm)
  h2 : IsL P e2 (strValues lx)
  t1 : lm.map (·.1) = if ltL ry rx = true then ry else rx
  t2 : lx.map (·.1) = if ltL rx ry = true then ry else rx
  q1 : ∀ q ∈ lm, q = (x, t) ∨ q = (y, u) ∨ s.toks ≤ q.2
set_option maxHeartbeats 1000000 in
theorem cp_C {L D1 a0 a1 : Addr} {l0 l1 : List (Str × Tok)} {s₂ : Shared} {m : Str → Option Value} {x y : Str} {t u : Tok} {Q : Value → Shared → Prop} (K : CpB s₀ s x y t u L s₂ D1 a0 a1 l0 l1 m P) (T : Text (KT w) p loose s₀.heap) (hd : A.depth + 10 < recursionLimit) (hu : A.units + 100 < cLine) (hh : A.handled = none)
    {rx ry : List Str} (hx : PT x rx) (hy : PT y ry)
    (hrest : ∀ s₆ e1 e2 lm lx m P, CpC s₀ s x y t u rx ry L s₆ e1 e2 lm lx m P → wpAny (model prog w) (A.deeper (envAt w 127 L)) (execs ((cpTry w).drop 6) (envAt w 127 L)) (fun f s' => ∃ v, f = .ret v ∧ (s.toks ≤ s'.toks → Q v s')) (fun _ _ => False) s₆) :
    wpAny (model prog w) (A.deeper (envAt w 127 L)) (execs ((cpTry w).drop 2) (envAt w 127 L)) (fun f s' => ∃ v, f = .ret v ∧ (s.toks ≤ s'.toks → Q v s')) (fun _ _ => False) s₂ := by
  have F := K.toFn
  have hn := K.n1
  have hn2 := K.n2
  obtain ⟨o1, t1, p1, d1, u1, b1⟩ := K.sep
  obtain ⟨o2, t2, p2, d2, u2, b2⟩ := K.cur
  refine wpAny_execs_cons ?_
  refine comp_A (α := Addr × List (Str × Tok)) (cl := [(Str.ofString "curdir", L + 2)]) (s₀ := s₀) hh (by rfl) (by rfl) (by decide) rfl (by decide) rfl rfl rfl ?_
  refine nmL F hn ?_
  refine ⟨D1, m, P, [(a0, l0), (a1, l1)], (fun z => .ref z.1), (fun _ => true), RF (s₂.heap.objs.size + 3), rfl, F, K.hD.lt, by show 2 ≤ sizeLine; decide, fun _ _ _ _ h L => h.later L, ?_, ?_⟩
  · intro k z C m' s₃ E' hz F₃ hm hN ht
    refine tests_nil ⟨Grew.refl _, rfl, fun _ => ?_⟩
    have hzl : ∃ x r, PT x r ∧ IsL P z.1 (strValues z.2) ∧ z.2.map (·.1) = Txt.split x "/" := by
      rcases List.mem_cons.mp (List.mem_of_getElem? hz) with rfl | h
      · exact ⟨_, _, hx, K.h0, K.t0⟩
      · rw [List.mem_singleton.mp h]; exact ⟨_, _, hy, K.h1, K.t1⟩
    obtain ⟨xx, rr, hxx, hzl, hzt⟩ := hzl
    have hz2 : z.2.length ≤ 1000 := by rw [← List.length_map (f := (·.1)), hzt]; exact hxx.splitlen
    refine comp_E (α := Str × Tok) (cl := [(Str.ofString "curdir", L + 2)]) (s₀ := s₀) hh (by rfl) (by decide) rfl (by decide) rfl ?_
    refine nmL F₃ hm ?_
    refine ⟨z.1, m', P, z.2, (fun q => .str q.1 q.2), keepC, (fun q v _ => v = .str q.1 q.2), rfl, F₃, hzl.lt, Nat.le_trans hz2 (by decide), fun _ _ _ _ h _ => h, ?_, ?_⟩
    · intro k q C' m₄ s₄ E₄ hq F₄ hm₄ hN₄ ht₄
      refine wpAny_tests_one ?_
      have hql : q.1.length ≤ 1000 := hxx.pl _ (by rw [← hzt]; exact List.mem_map_of_mem (List.mem_of_getElem? hq))
      iterate 3 walk1
      refine PySem.P.truthy_str (by omega) ?_
      rw [emptyStr]
      have F₅ := F₄.toks (s₄.toks + 1 + 1) (by omega)
      cases hc : q.1 != Str.ofString "" with
      | false =>
        rw [if_neg (by decide)]
        refine ⟨Grew.toks _ _ (by omega), by unfold keepC; rw [hc]; rfl, fun h => ?_⟩
        unfold keepC at h; rw [hc] at h; cases h
      | true =>
        rw [if_pos rfl]
        iterate 3 walk1
        refine nmC F₅.toOk p2 rfl d2 ?_
        refine PyProof.Rows.ne_str ?_
        refine wpAny_truthy_bool ?_
        have hkc : keepC q = (q.1 != Str.ofString ".") := by unfold keepC; rw [hc]; rfl
        cases hc2 : q.1 != Str.ofString "." with
        | false =>
          rw [if_neg (by decide)]
          exact ⟨Grew.toks _ _ (by omega), by rw [hkc, hc2], fun h => by rw [hkc, hc2] at h; cases h⟩
        | true =>
          rw [if_pos rfl]
          iterate 1 walk1
          refine ⟨Grew.toks _ _ (by omega), by rw [hkc, hc2], fun h => ?_⟩
          refine nmL F₅ hm₄ ?_
          exact ⟨Grew.refl _, rfl⟩
    · intro D ys s₅ G hD hA
      rw [all2_strs hA] at hD
      obtain ⟨n, hD⟩ := hD
      exact ⟨G, D, rfl, Nat.le_trans hN (New.ge hD).1, n, (New.ge hD).2⟩
  intro D2 ys K1 s'' s₄ hA hS hD1 hge ht1 ht2 F₄
  cases hA with | cons r0 hA => ?_
  cases hA with | cons r1 hA => ?_
  cases hA
  dsimp only
  have up := PM.le_join_left P K1
  have q1 := up _ _ p1
  have q2 := up _ _ p2
  have oldK : PM.le s.heap.get? (P.join K1) := PM.le_trans K.old (PM.le_join_left _ _)
  have hsz : ∀ a o, P a = some o → a < s₂.heap.objs.size := fun a o e => F.toOk.lt e
  have kK : K1.le (P.join K1) := PM.le_join_right fun a o e => by
    cases q : P a with
    | none => rfl
    | some o' => exact absurd (hsz a o' q) (Nat.not_lt.mpr (hge a o e))
  obtain ⟨c0, rfl, hN0, hl0⟩ := r0
  obtain ⟨c1, rfl, hN1, hl1⟩ := r1
  dsimp only at hl0 hl1
  have ht0 : (l0.filter keepC).map (·.1) = rx := by
    rw [← hx.row, show Str.ofString "/" = "/" from rfl, ← K.t0, List.filter_map]; rfl
  have ht1 : (l1.filter keepC).map (·.1) = ry := by
    rw [← hy.row, show Str.ofString "/" = "/" from rfl, ← K.t1, List.filter_map]; rfl
  have hq0 : ∀ q ∈ l0.filter keepC, q = (x, t) ∨ s.toks ≤ q.2 := fun q hq => K.q0 q (List.mem_filter.mp hq).1
  have hq1 : ∀ q ∈ l1.filter keepC, q = (y, u) ∨ s.toks ≤ q.2 := fun q hq => K.q1 q (List.mem_filter.mp hq).1
  generalize l0.filter keepC = r0 at *
  generalize l1.filter keepC = r1 at *
  replace hl0 : IsL (P.join K1) c0 (strValues r0) := let ⟨n, e⟩ := hl0; ⟨n, kK _ _ (hS _ _ (Since.of hN0 e))⟩
  replace hl1 : IsL (P.join K1) c1 (strValues r1) := let ⟨n, e⟩ := hl1; ⟨n, kK _ _ (hS _ _ (Since.of hN1 e))⟩
  replace hD1 : IsL (P.join K1) D2 [.ref c0, .ref c1] := hD1.mono kK
  have tt : s.toks ≤ s₄.toks := Nat.le_trans K.toks (Nat.le_trans ht2 ‹s''.toks ≤ s₄.toks›)
  clear hS hge
  generalize P.join K1 = P₄ at *
  have hn3 := put_self m "split_paths" (.ref D2)
  have O₄ := F₄.toOk
  iterate 8 walk1
  refine min_2 hh (hD1.mono O₄.keep) (bt := ltL ry rx) (fun s' Q' E' G h => ?_) fun s₅ G₅ => ?_
  · refine rc_lt_l (by show A.units + 3 + 1 < cLine; omega) (hl1.mono (PM.le_trans O₄.keep G.keep)) (hl0.mono (PM.le_trans O₄.keep G.keep)) ?_
    rw [ht0, ht1]; exact h
  have F₅ := F₄.grew G₅
  refine stLt F₅ fun s₆ F₆ T₆ => ?_
  have O₆ := F₆.toOk
  have hn4 : (put (put m "split_paths" (.ref D2)) "s1" (.ref (if ltL ry rx = true then c1 else c0))) "split_paths" = some (.ref D2) := put_of (by decide) hn3
  iterate 8 walk1
  refine max_2 hh (hD1.mono O₆.keep) (bt := ltL rx ry) (fun s' Q' E' G h => ?_) fun s₇ G₇ => ?_
  · refine rc_gt_l (by show A.units + 3 + 1 < cLine; omega) (hl1.mono (PM.le_trans O₆.keep G.keep)) (hl0.mono (PM.le_trans O₆.keep G.keep)) ?_
    rw [ht0, ht1]; exact h
  have F₇ := F₆.grew G₇
  refine stLt F₇ fun s₈ F₈ T₈ => ?_
  have O₈ := F₈.toOk
  have tt8 : s.toks ≤ s₈.toks := Nat.le_trans (Nat.le_trans tt (Nat.le_trans G₅.tok T₆)) (Nat.le_trans G₇.tok T₈)
  -- the smaller row and the greater
  obtain ⟨e1, lm, em, hem⟩ : ∃ e1 lm, (if ltL ry rx = true then c1 else c0) = e1 ∧ IsL P₄ e1 (strValues lm) ∧ lm.map (·.1) = (if ltL ry rx = true then ry else rx) ∧ (∀ q ∈ lm, q = (x, t) ∨ q = (y, u) ∨ s.toks ≤ q.2) := by
    cases ltL ry rx
    · exact ⟨c0, r0, rfl, hl0, ht0, fun q hq => (hq0 q hq).imp id .inr⟩
    · exact ⟨c1, r1, rfl, hl1, ht1, fun q hq => .inr (hq1 q hq)⟩
  obtain ⟨e2, lx, ex, hex⟩ : ∃ e2 lx, (if ltL rx ry = true then c1 else c0) = e2 ∧ IsL P₄ e2 (strValues lx) ∧ lx.map (·.1) = (if ltL rx ry = true then ry else rx) := by
    cases ltL rx ry
    · exact ⟨c0, r0, rfl, hl0, ht0⟩
    · exact ⟨c1, r1, rfl, hl1, ht1⟩
  rw [em] at F₈
  rw [ex] at F₈
  have m1 := put_of (x := "s2") (v := .ref e2) (y := "s1") (by decide) (put_self (put m "split_paths" (.ref D2)) "s1" (.ref e1))
  iterate 3 walk1
  refine stLt F₈ fun s₉ F₉ T₉ => ?_
  have B : CpC s₀ s x y t u rx ry L s₉ e1 e2 lm lx _ P₄ := { F₉ with
    n1 := put_of (by decide) m1
    n2 := put_of (by decide) (put_self _ _ _)
    n3 := put_self _ _ _
    n4 := put_of (by decide) (put_of (by decide) (put_of (by decide) (put_of (by decide) hn2)))
    old := oldK
    above := K.above
    toks := Nat.le_trans tt8 T₉
    sep := ⟨o1, t1, q1, d1, u1, b1⟩
    h1 := hem.1
    h2 := hex.1
    t1 := hem.2.1
    t2 := hex.2
    q1 := hem.2.2 }
  refine wpAny_mono (hrest _ _ _ _ _ _ _ B) (fun f s' h => ?_) fun _ _ e => e.elim
  obtain ⟨v, rfl, h⟩ := h
  exact ⟨v, rfl, h⟩
end Mine
end

section
open PySem PySem.W PyProof.Rows PySem.Calls
set_option Elab.async false
set_option maxRecDepth 100000
set_option linter.unusedVariables false
namespace Mine
variable {prog : Program} {w : World} {A : Around} {E : Value → Shared → Prop} {s₀ s : Shared} {P : PM} {p : Program} {loose : List Str}

local macro_rules | `(tactic| walk_at "tk") => `(tactic| first | omega | (dsimp only; omega))
local macro_rules | `(tactic| walk_at "lk") => `(tactic| first | rfl | assumption | exact put_self _ _ _ | exact put_of (by decide) (by first | assumption | exact put_self _ _ _ | exact put_of (by decide) (by assumption)))
local macro_rules | `(tactic| walk_at "eval Name") => `(tactic| first
  | refine nmL (by first | assumption | exact Fn.toks (by assumption) _ (by walk_at "tk")) (by walk_at "lk") ?_
  | refine nmG (by first | assumption | exact Ok.toks (by assumption) _ (by walk_at "tk")) (by assumption) rfl ?_
  | refine nmB (by first | assumption | exact Ok.toks (by assumption) _ (by walk_at "tk")) (by assumption) rfl (by boot_by_name) ?_)
local macro_rules | `(tactic| walk_at "loadName") => `(tactic| refine ldL (by first | assumption | exact Fn.toks (by assumption) _ (by walk_at "tk")) (by walk_at "lk") ?_)
local macro_rules | `(tactic| walk_at "storeName") => `(tactic| (refine stLt (by first | assumption | exact Fn.toks (by assumption) _ (by walk_at "tk")) ?_; intro s' F' T'))

noncomputable def comN : List Str → List Str → Nat
  | x :: xs, y :: ys => if x == y then comN xs ys + 1 else 0
  | _, _ => 0
theorem comN_of : ∀ (k : Nat) (xs ys : List Str), xs.take k = ys.take k → k ≤ xs.length → k ≤ ys.length → (k = xs.length ∨ ∃ a b, xs[k]? = some a ∧ ys[k]? = some b ∧ a ≠ b) → comN xs ys = k
  | 0, [], ys, _, _, _, _ => by unfold comN; rfl
  | 0, x :: xs, ys, _, _, _, h => by
    rcases h with h | ⟨a, b, h1, h2, h3⟩
    · cases h
    · cases ys with
      | nil => simp at h2
      | cons y ys =>
        simp at h1 h2
        subst h1 h2
        unfold comN
        rw [if_neg (by simpa using h3)]
  | k + 1, [], ys, _, h, _, _ => by simp at h
  | k + 1, x :: xs, [], _, _, h, _ => by simp at h
  | k + 1, x :: xs, y :: ys, e, h1, h2, h => by
    simp only [List.take_succ_cons, List.cons.injEq] at e
    unfold comN
    rw [if_pos (by simpa using e.1)]
    rw [comN_of k xs ys e.2 (by simpa using h1) (by simpa using h2) (by simpa using h)]

/-- the row that two rows have in common, as commonpath reckons it -/
noncomputable def comOf (rx ry : List Str) : List Str := (if ltL ry rx = true then ry else rx).take (comN (if ltL ry rx = true then ry else rx) (if ltL rx ry = true then ry else rx))

set_option maxHeartbeats 1000000 in
theorem cp_D {L e1 e2 : Addr} {lm lx : List (Str × Tok)} {s₂ : Shared} {m : Str → Option Value} {x y : Str} {t u : Tok} {rx ry : List Str} {Q : Value → Shared → Prop} (K : CpC s₀ s x y t u rx ry L s₂ e1 e2 lm lx m P) (T : Text (KT w) p loose s₀.heap) (hd : A.depth + 10 < recursionLimit) (hu : A.units + 100 < cLine) (hh : A.handled = none)
    (hok : ∀ k, k < lm.length → (lm.map (·.1)).take k = (lx.map (·.1)).take k → k < lx.length) (hlm : lm.length ≤ 1000) (hlx : lx.length ≤ 1000) {P₀ : PM} (O₀ : Ok s₀ P₀ s) (hjok : JoinOk (Str.ofString "/") (comOf rx ry) = true) (ht : t < s.toks) (htu : u = t → y = x) (ht0 : 0 < t) (hu0 : 0 < u)
    (hQ : ∀ tj s', Grew s s' → 0 < tj → (tj = t → Txt.join (Str.ofString "/") (comOf rx ry) = x) → Q (.str (Txt.join (Str.ofString "/") (comOf rx ry)) tj) s') :
    wpAny (model prog w) (A.deeper (envAt w 127 L)) (execs ((cpTry w).drop 6) (envAt w 127 L)) (fun f s' => ∃ v, f = .ret v ∧ (s.toks ≤ s'.toks → Q v s')) (fun _ _ => False) s₂ := by
  have F := K.toFn
  have O := F.toOk
  have hn := K.n1
  obtain ⟨o1, t1, p1, d1, u1, b1⟩ := K.sep
  have sv : ∀ l : List (Str × Tok), (strValues l).length = l.length := fun l => List.length_map _
  refine wpAny_execs_cons ?_
  refine wpAny_with_toks (n := s.toks) K.toks ?_
  refine wpAny_For ?_
  iterate 6 walk1
  have tail : ∀ (m' : Str → Option Value) (Q' : PM) (s' : Shared) (C : Addr), Fn s₀ (envAt w 127 L).locals m' Q' s' → P.le Q' → s.toks ≤ s'.toks → m' "isabs" = some (.bool false) → m' "common" = some (.ref C) →
      IsL Q' C (strValues (lm.take (comN (lm.map (·.1)) (lx.map (·.1))))) →
      wpAny (model prog w) (A.deeper (envAt w 127 L)) (execs ((cpTry w).drop 7) (envAt w 127 L)) (fun f s' => ∃ v, f = .ret v ∧ (s.toks ≤ s'.toks → Q v s')) (fun _ _ => False) s' := by
    intro m' Q' s' C F' hQ' hts hi hc hl
    have O' := F'.toOk
    refine wpAny_execs_cons ?_
    iterate 7 walk1
    refine nmC O' (hQ' _ _ p1) rfl d1 ?_
    iterate 5 walk1
    refine slice_S (s := { s' with toks := s'.toks + 1 }) (fun s₃ t₃ G₃ => ?_) (by decide)
    have F₃ := (F'.toks (s'.toks + 1) (by omega)).grew G₃
    refine stLt F₃ fun s₄ F₄ T₄ => ?_
    have O₄ := F₄.toOk
    have hc₄ := put_of (x := "prefix") (v := .str (Txt.slice (Str.ofString "/") none (some 0)) t₃) (by decide) hc
    iterate 5 walk1
    refine nmC O₄ (hQ' _ _ p1) rfl d1 ?_
    iterate 5 walk1
    have hl₄ := hl.mono O₄.keep
    have et : (lm.take (comN (lm.map (·.1)) (lx.map (·.1)))).map (·.1) = comOf rx ry := by
      rw [List.map_take, K.t1, K.t2]; rfl
    refine join_r (l := lm.take (comN (lm.map (·.1)) (lx.map (·.1)))) (let ⟨n, ho⟩ := hl₄; ⟨_, ho, rfl, n, rfl⟩) (by rw [et]; exact hjok) fun tj k htj hk => ?_
    rw [et] at htj ⊢
    have es : Txt.slice (Str.ofString "/") none (some 0) = Str.ofString "" := by decide +kernel
    rw [es]
    refine add_e ?_
    refine ⟨_, rfl, fun htk => ?_⟩
    have F₅ := F₄.toks k hk
    have hsk : s.toks ≤ s₄.toks := by
      have := G₃.tok
      dsimp only at this T₄
      omega
    refine hQ tj _ (F₅.leave O₀ (PM.le_trans K.old hQ') K.above htk) ?_ ?_
    · rcases htj with rfl | ⟨q, hq, -, rfl⟩
      · exact O₄.tok
      · rcases K.q1 q (List.mem_of_mem_take hq) with rfl | rfl | h
        · exact ht0
        · exact hu0
        · exact Nat.lt_of_lt_of_le O₀.tok h
    · intro e
      rcases htj with rfl | ⟨q, hq, hl1, rfl⟩
      · exact absurd e (Nat.ne_of_gt (Nat.lt_of_lt_of_le ht hsk))
      · rw [hl1]
        show q.1 = x
        rcases K.q1 q (List.mem_of_mem_take hq) with rfl | rfl | h
        · rfl
        · exact htu e
        · exact absurd e (Nat.ne_of_gt (Nat.lt_of_lt_of_le ht h))
  refine loop_e F hh K.h1 (fun k m' => m' "s1" = some (.ref e1) ∧ m' "s2" = some (.ref e2) ∧ m' "common" = some (.ref e1) ∧ m' "isabs" = some (.bool false) ∧ (lm.map (·.1)).take k = (lx.map (·.1)).take k)
    ⟨K.n1, K.n2, K.n3, K.n4, rfl⟩ ?_ ?_
  · intro k v tk m' Q' s' hv hJ hQ htp F'
    obtain ⟨g1, g2, g3, g4, g5⟩ := hJ
    obtain ⟨q, hq, rfl⟩ := strAt hv
    have hkl : k < lm.length := (List.getElem?_eq_some_iff.mp hq).1
    have hkx := hok k hkl g5
    have O' := F'.toOk
    have j1 := put_of (x := "c") (v := .str q.1 q.2) (by decide) (put_of (x := "i") (v := .int k tk) (by decide) g1)
    have j2 := put_of (x := "c") (v := .str q.1 q.2) (by decide) (put_of (x := "i") (v := .int k tk) (by decide) g2)
    have j3 := put_of (x := "c") (v := .str q.1 q.2) (by decide) (put_of (x := "i") (v := .int k tk) (by decide) g3)
    have j4 := put_of (x := "c") (v := .str q.1 q.2) (by decide) (put_of (x := "i") (v := .int k tk) (by decide) g4)
    obtain ⟨q2, hq2⟩ : ∃ q2, lx[k]? = some q2 := ⟨_, List.getElem?_eq_getElem hkx⟩
    have hx2 : (strValues lx)[k]? = some (.str q2.1 q2.2) := by unfold strValues; rw [List.getElem?_map, hq2]; rfl
    refine wpAny_execs_cons (wpAny_If ?_)
    iterate 5 walk1
    refine itemLi ((K.h2.mono hQ).mono O'.keep) (Nat.lt_of_lt_of_le hkx (Nat.le_trans hlx (by decide))) hx2 ?_
    refine PyProof.Rows.ne_str ?_
    refine wpAny_truthy_bool ?_
    cases hc : q.1 != q2.1 with
    | false =>
      rw [if_neg (by decide)]
      iterate 2 walk1
      refine ⟨_, Q', ⟨j1, j2, j3, j4, ?_⟩, PM.le_refl _, F'⟩
      have e12 : q.1 = q2.1 := by simpa using hc
      rw [List.take_add_one, List.take_add_one, g5, List.getElem?_map, List.getElem?_map, hq, hq2]
      simp [e12]
    | true =>
      rw [if_pos rfl]
      iterate 9 walk1
      refine slice_Lu (vs := strValues lm) ((K.h1.mono hQ).mono O'.keep) (by rw [sv]; exact Nat.le_trans hlm (by decide)) ?_
      obtain ⟨P', hle, hnew, F₃⟩ := F'.sliced .none (.int k tk) ((strValues lm).take k) s'.toks (Nat.le_refl _)
      refine stLt F₃ fun s₄ F₄ T₄ => ?_
      dsimp only
      iterate 2 (try walk1)
      intro hts
      refine tail _ P' s₄ _ F₄ (PM.le_trans hQ hle) hts (put_of (by decide) j4) (put_self _ _ _) ?_
      rw [comN_of k _ _ g5 (by simpa using Nat.le_of_lt hkl) (by simpa using Nat.le_of_lt hkx) (.inr ⟨q.1, q2.1, by rw [List.getElem?_map, hq]; rfl, by rw [List.getElem?_map, hq2]; rfl, by simpa using hc⟩)]
      have e : strValues (lm.take k) = (strValues lm).take k := by unfold strValues; rw [List.map_take]
      rw [e]; exact hnew
  · intro m' Q' s' hJ hQ F'
    obtain ⟨g1, g2, g3, g4, g5⟩ := hJ
    rw [sv] at g5
    refine wpAny_execs_nil ?_
    intro hts
    refine tail m' Q' s' e1 F' hQ hts g4 g3 ?_
    have e0 : (lm.map (·.1)).take lm.length = lm.map (·.1) := by rw [← List.length_map (f := (·.1))]; exact List.take_length
    have hle : lm.length ≤ lx.length := by
      rw [e0] at g5
      have := congrArg List.length g5
      simp only [List.length_map, List.length_take] at this
      omega
    rw [comN_of lm.length _ _ g5 (by simp) (by simpa using hle) (.inl (by simp)), List.take_length]
    exact K.h1.mono hQ
end Mine
end

section
open PySem PySem.W PyProof.Rows PySem.Calls
set_option Elab.async false
set_option maxRecDepth 100000
namespace Mine
variable {prog : Program} {w : World} {A : Around} {E : Value → Shared → Prop} {s₀ s : Shared} {P : PM} {p : Program} {loose : List Str}
theorem PT.rowlen {x : Str} {row : List Str} (h : PT x row) : row.length ≤ 1000 := by
  rw [← h.row]; exact Nat.le_trans (List.length_filter_le _ _) h.splitlen
/-- two rows that commonpath may compare -/
structure CC (rx ry : List Str) : Prop where
  ok : ∀ k, k < (if ltL ry rx = true then ry else rx).length → (if ltL ry rx = true then ry else rx).take k = (if ltL rx ry = true then ry else rx).take k → k < (if ltL rx ry = true then ry else rx).length
  join : JoinOk (Str.ofString "/") (comOf rx ry) = true
theorem commonpath_ok {a : Addr} {x y : Str} {t u : Tok} {rx ry : List Str} {Q : Value → Shared → Prop} (O : Ok s₀ P s) (T : Text (KT w) p loose s₀.heap) (hd : A.depth + 10 < recursionLimit) (hu : A.units + 100 < cLine) (hh : A.handled = none)
    (ha : IsL P a [.str x t, .str y u]) (hx : PT x rx) (hy : PT y ry) (hc : CC rx ry) (ht : t < s.toks) (htu : u = t → y = x) (ht0 : 0 < t) (hu0 : 0 < u)
    (hQ : ∀ tj s', Grew s s' → 0 < tj → (tj = t → Txt.join (Str.ofString "/") (comOf rx ry) = x) → Q (.str (Txt.join (Str.ofString "/") (comOf rx ry)) tj) s') :
    wpAny (model prog w) A (call (.ref 127) [.ref a]) Q E s := by
  have h1 : ∀ {L D1 a0 a1 : Addr} {l0 l1 : List (Str × Tok)} {s₆ : Shared} {m : Str → Option Value} {P : PM} (_ : CpB s₀ s x y t u L s₆ D1 a0 a1 l0 l1 m P), wpAny (model prog w) (A.deeper (envAt w 127 L)) (execs ((cpTry w).drop 2) (envAt w 127 L)) (fun f s' => ∃ v, f = .ret v ∧ (s.toks ≤ s'.toks → Q v s')) (fun _ _ => False) s₆ := by
    intro L D1 a0 a1 l0 l1 s₆ m P KB
    refine cp_C (w := w) (Q := Q) KB T hd hu hh hx hy fun s₆ e1 e2 lm lx m P KC => ?_
    have h1 : lm.length = (if ltL ry rx = true then ry else rx).length := by rw [← KC.t1, List.length_map]
    have h2 : lx.length = (if ltL rx ry = true then ry else rx).length := by rw [← KC.t2, List.length_map]
    refine cp_D (w := w) (Q := Q) KC T hd hu hh ?_ ?_ ?_ O hc.join ht htu ht0 hu0 hQ
    · rw [KC.t1, KC.t2, h1, h2]; exact hc.ok
    · rw [h1]; split
      · exact hy.rowlen
      · exact hx.rowlen
    · rw [h2]; split
      · exact hy.rowlen
      · exact hx.rowlen
  refine @cp_A prog w A E s₀ s P p loose a x y t u Q O T hd hu hh ha fun L s₂ D m P₂ K => ?_
  exact @cp_B prog w A s₀ s P₂ p loose L D s₂ m x y t u Q K T hd hu hh rx ry hx hy fun s₆ D1 a0 a1 l0 l1 m P KB => h1 KB
end Mine
end

section
open PySem PySem.W PyProof.Rows PySem.Calls
set_option Elab.async false
set_option maxRecDepth 100000
set_option linter.unusedVariables false
namespace Mine
variable {prog : Program} {w : World} {A : Around} {E : Value → Shared → Prop} {s₀ s : Shared} {P : PM} {p : Program} {loose : List Str}

local macro_rules | `(tactic| walk_at "tk") => `(tactic| first | omega | (dsimp only; omega))
local macro_rules | `(tactic| walk_at "lk") => `(tactic| first | rfl | assumption | exact put_self _ _ _ | exact put_of (by decide) (by first | assumption | exact put_self _ _ _ | exact put_of (by decide) (by assumption)))
local macro_rules | `(tactic| walk_at "eval Name") => `(tactic| first
  | refine nmL (by first | assumption | exact Fn.toks (by assumption) _ (by walk_at "tk")) (by walk_at "lk") ?_
  | refine nmG (by first | assumption | exact Ok.toks (by assumption) _ (by walk_at "tk")) (by assumption) rfl ?_
  | refine nmB (by first | assumption | exact Ok.toks (by assumption) _ (by walk_at "tk")) (by assumption) rfl (by boot_by_name) ?_)
local macro_rules | `(tactic| walk_at "loadName") => `(tactic| refine ldL (by first | assumption | exact Fn.toks (by assumption) _ (by walk_at "tk")) (by walk_at "lk") ?_)
local macro_rules | `(tactic| walk_at "storeName") => `(tactic| (refine stLt (by first | assumption | exact Fn.toks (by assumption) _ (by walk_at "tk")) ?_; intro s' F' T'))

/-- the state of sorted_list_difference's loop: i, j, and what is missing so far -/
structure Sl (s₀ s : Shared) (outer : List Env) (a b : Addr) (xs ys : List (Str × Tok)) (L M U : Addr) (i j : Nat) (ms : List Value) (m : Str → Option Value) (P : PM) (s₂ : Shared) : Prop extends Fn s₀ L m P s₂ where
  n1 : m "expected" = some (.ref a)
  n2 : m "actual" = some (.ref b)
  n3 : ∃ t, m "i" = some (.int i t)
  n4 : ∃ t, m "j" = some (.int j t)
  n5 : m "missing" = some (.ref M)
  n6 : m "unexpected" = some (.ref U)
  ha : IsL P a (strValues xs)
  hb : IsL P b (strValues ys)
  hM : IsL P M ms
  hU : IsL P U []
  MU : M ≠ U
  Ma : M ≠ a
  Mb : M ≠ b
  bM : s₀.heap.get? M = none
  bU : s₀.heap.get? U = none
  gM : s.heap.objs.size ≤ M
  gU : s.heap.objs.size ≤ U
  old : OldF (framesOf outer) s.heap P
  above : s.heap.objs.size = L
set_option maxHeartbeats 1000000 in
theorem sld_A {a b : Addr} {xs ys : List (Str × Tok)} {outer : List Env} {Q : Value → Shared → Prop} (O : Ok s₀ P s) (T : Text (KT w) p loose s₀.heap) (hd : A.depth + 10 < recursionLimit) (hu : A.units + 100 < cLine) (hh : A.handled = none)
    (ha : IsL P a (strValues xs)) (hb : IsL P b (strValues ys))
    (hrest : ∀ L M U m P s₂, Sl s₀ s outer a b xs ys L M U 0 0 [] m P s₂ → wpAny (model prog w) (A.deeper (envAt w 134 L)) (execs ((bodyAt w 134).drop 3) (envAt w 134 L)) (fun f s' => ∃ v, f = .ret v ∧ (s.toks ≤ s'.toks → Q v s')) (fun _ _ => False) s₂) :
    wpAny (model prog w) A (call (.ref 134) [.ref a, .ref b]) Q E s := by
  refine enter (fd := fdAt w 134) (body := bodyAt w 134) (binds := [(Str.ofString "expected", .ref a), (Str.ofString "actual", .ref b)]) (m := put (put mt "expected" (.ref a)) "actual" (.ref b)) (cm := mt) O T (by omega) (f := 134) rfl rfl rfl rfl (by kernel_rfl) rfl (by kernel_rfl) (fun _ => by kernel_rfl) (fun _ => by kernel_rfl) ?_
  intro L P₁ s₁ C
  have F := C.toFn
  have O₁ := F.toOk
  have k := PM.le_trans O.keep C.old
  have ha₁ := ha.mono k
  have hb₁ := hb.mono k
  have old₁ := C.old
  have hLs := C.above
  clear C
  refine wpAny_mono (E := fun _ _ => False) ?_ (fun _ _ x => x) fun _ _ x => x.elim
  refine wpAny_execs_cons ?_
  iterate 3 walk1
  refine stLt (F.toks _ (by omega)) fun s₂ F₂ T₂ => ?_
  walk1
  refine stLt F₂ fun s₃ F₃ T₃ => ?_
  iterate 4 walk1
  refine mkList ?_ (by decide)
  have F₄ := F₃.push (lobj []) (t := s₃.toks)
  have z3 : P₁ s₃.heap.objs.size = none := F₃.fresh (Nat.le_refl _)
  have b3 : s₀.heap.get? s₃.heap.objs.size = none := F₃.notBase (Nat.le_refl _)
  have g3 : s.heap.objs.size < s₃.heap.objs.size := by rw [hLs]; exact F₃.lt
  refine stLt F₄ fun s₅ F₅ T₅ => ?_
  iterate 4 walk1
  refine mkList ?_ (by decide)
  have F₆ := F₅.push (lobj []) (t := s₅.toks)
  have z5 := F₅.fresh (Nat.le_refl _)
  have b5 : s₀.heap.get? s₅.heap.objs.size = none := F₅.notBase (Nat.le_refl _)
  have g5 : s.heap.objs.size < s₅.heap.objs.size := by rw [hLs]; exact F₅.lt
  have hM5 : (P₁.set s₃.heap.objs.size (lobj [])) s₃.heap.objs.size = some (lobj []) := PM.set_self _ _ _
  have lt35 : s₃.heap.objs.size < s₅.heap.objs.size := F₅.toOk.lt hM5
  generalize s₃.heap.objs.size = M at *
  refine stLt F₆ fun s₇ F₇ T₇ => ?_
  generalize s₅.heap.objs.size = U at *
  have hne : M ≠ U := Nat.ne_of_lt lt35
  have up : P₁.le ((P₁.set M (lobj [])).set U (lobj [])) := PM.le_set_of (PM.le_set_of (PM.le_refl _) z3) (by rw [PM.set_ne (Ne.symm hne)] at z5; exact z5)
  refine wpAny_mono (hrest L M U _ _ s₇ { F₇ with
    n1 := put_of (by decide) (put_of (by decide) (put_of (by decide) (put_of (by decide) (put_of (by decide) (put_self _ _ _)))))
    n2 := put_of (by decide) (put_of (by decide) (put_of (by decide) (put_of (by decide) (put_self _ _ _))))
    n3 := ⟨_, put_of (by decide) (put_of (by decide) (put_of (by decide) (put_self _ _ _)))⟩
    n4 := ⟨_, put_of (by decide) (put_of (by decide) (put_self _ _ _))⟩
    n5 := put_of (by decide) (put_self _ _ _)
    n6 := put_self _ _ _
    ha := ha₁.mono up
    hb := hb₁.mono up
    hM := ⟨0, (PM.set_ne hne).trans (PM.set_self _ _ _)⟩
    hU := ⟨0, PM.set_self _ _ _⟩
    MU := hne
    Ma := fun q => by obtain ⟨n, e⟩ := ha₁; rw [← q, z3] at e; cases e
    Mb := fun q => by obtain ⟨n, e⟩ := hb₁; rw [← q, z3] at e; cases e
    bM := b3
    bU := b5
    gM := Nat.le_of_lt g3
    gU := Nat.le_of_lt g5
    old := OldF.of (PM.le_trans old₁ up) _
    above := hLs }) (fun f s' h => ?_) fun _ _ e => e.elim
  obtain ⟨v, rfl, h⟩ := h
  exact h
end Mine
end

section
open PySem PySem.W PyProof.Rows PySem.Calls
set_option Elab.async false
set_option maxRecDepth 100000
set_option linter.unusedVariables false
namespace Mine
variable {prog : Program} {w : World} {A : Around} {E : Value → Shared → Prop} {s₀ s : Shared} {P : PM} {p : Program} {loose : List Str}

local macro_rules | `(tactic| walk_at "tk") => `(tactic| first | omega | (dsimp only; omega))
local macro_rules | `(tactic| walk_at "lk") => `(tactic| first | rfl | assumption | exact put_self _ _ _ | exact put_of (by decide) (by first | assumption | exact put_self _ _ _ | exact put_of (by decide) (by assumption)))
local macro_rules | `(tactic| walk_at "eval Name") => `(tactic| first
  | refine nmL (by first | assumption | exact Fn.toks (by assumption) _ (by walk_at "tk")) (by walk_at "lk") ?_
  | refine nmG (by first | assumption | exact Ok.toks (by assumption) _ (by walk_at "tk")) (by assumption) rfl ?_
  | refine nmB (by first | assumption | exact Ok.toks (by assumption) _ (by walk_at "tk")) (by assumption) rfl (by boot_by_name) ?_)
local macro_rules | `(tactic| walk_at "loadName") => `(tactic| refine ldL (by first | assumption | exact Fn.toks (by assumption) _ (by walk_at "tk")) (by walk_at "lk") ?_)
local macro_rules | `(tactic| walk_at "storeName") => `(tactic| (refine stLt (by first | assumption | exact Fn.toks (by assumption) _ (by walk_at "tk")) ?_; intro s' F' T'))

/-- x stands ahead of y -/
def ltS (x y : Str) : Bool := decide (x.cps.toList < y.cps.toList)
/-- the place in the loop: i, j and what is missing so far -/
structure Pl (pre ys : List (Str × Tok)) (i j : Nat) (ms : List Value) : Prop where
  at' : (j = 0 ∧ i ≤ pre.length) ∨ i = pre.length + j
  lt : j < ys.length
  ms : ms = strValues (pre.take i)
theorem ltS_irr (x : Str) : ltS x x = false := decide_eq_false (List.lt_irrefl _)
theorem ltS_ne {x y : Str} (h : ltS x y = true) : (x == y) = false := beq_eq_false_iff_ne.mpr fun e => by rw [e, ltS_irr] at h; cases h
noncomputable def sldTry (w : World) : List Stmt := match (bodyAt w 134).drop 3 with | .While _ [.Try b _ _ _ _] _ _ :: _ => b | _ => []
/-- rows that rise -/
def Rise (xs : List (Str × Tok)) : Prop := ∀ (i j : Nat) (q r : Str × Tok), i < j → xs[i]? = some q → xs[j]? = some r → ltS q.1 r.1 = true

theorem OldF.set {fs : List Addr} {h : Heap} {M : Addr} {o : Obj} (x : OldF fs h P) (hM : h.objs.size ≤ M) : OldF fs h (P.set M o) := fun b ob e => by
  have hb : b ≠ M := Nat.ne_of_lt (Nat.lt_of_lt_of_le (Heap.lt_size e) hM)
  rw [PM.set_ne hb]; exact x b ob e

set_option maxHeartbeats 1000000 in
theorem sld_body {a b L M U : Addr} {pre ys post : List (Str × Tok)} {outer : List Env} {i j : Nat} {ms : List Value} {m : Str → Option Value} {s₂ : Shared} (K : Sl s₀ s outer a b (pre ++ ys ++ post) ys L M U i j ms m P s₂) (T : Text (KT w) p loose s₀.heap) (hd : A.depth + 10 < recursionLimit) (hu : A.units + 100 < cLine) (hh : A.handled = none)
    (hp : Pl pre ys i j ms) (hsz : (pre ++ ys ++ post).length ≤ 1000) (hord : Rise (pre ++ ys ++ post)) {N : Shared → Prop} {X : Value → Shared → Prop} (hfr : A.frames = some outer) (hff : s.heap.FunFrames {} outer) (hfb : ∀ f ∈ framesOf outer, s₀.heap.get? f = none)
    (haf : a ∉ framesOf outer) (hbf : b ∉ framesOf outer) (hMf : M ∉ framesOf outer) (hUf : U ∉ framesOf outer)
    (hX : ∀ v s_r s₃ m' P' ctx, Sl s₀ s outer a b (pre ++ ys ++ post) ys L M U (pre.length + ys.length) ys.length (strValues pre) m' P' s_r → Fly s_r (envAt w 134 L :: outer) "IndexError" true v s₃ ctx → X v s₃)
    (hN : ∀ i' j' ms' m' P' s₃, i < i' → Sl s₀ s outer a b (pre ++ ys ++ post) ys L M U i' j' ms' m' P' s₃ → Pl pre ys i' j' ms' → N s₃) :
    wpAny (model prog w) (A.deeper (envAt w 134 L)) (execs (sldTry w) (envAt w 134 L)) (fun f s₃ => f = .next ∧ N s₃) X s₂ := by
  have F := K.toFn
  have O := F.toOk
  have n1 := K.n1
  have n2 := K.n2
  have n5 := K.n5
  obtain ⟨ti, n3⟩ := K.n3
  obtain ⟨tj, n4⟩ := K.n4
  have hys : ys.length ≤ 1000 := by simp only [List.length_append] at hsz; omega
  obtain ⟨q2, hq2⟩ : ∃ q2, ys[j]? = some q2 := ⟨_, List.getElem?_eq_getElem hp.lt⟩
  have hib : i < (pre ++ ys ++ post).length := by
    have := hp.lt
    simp only [List.length_append]
    rcases hp.at' with ⟨rfl, h⟩ | h <;> omega
  obtain ⟨q1, hq1⟩ : ∃ q1, (pre ++ ys ++ post)[i]? = some q1 := ⟨_, List.getElem?_eq_getElem hib⟩
  have v1 : (strValues (pre ++ ys ++ post))[i]? = some (.str q1.1 q1.2) := by unfold strValues; rw [List.getElem?_map, hq1]; rfl
  have v2 : (strValues ys)[j]? = some (.str q2.1 q2.2) := by unfold strValues; rw [List.getElem?_map, hq2]; rfl
  have hq2x : (pre ++ ys ++ post)[pre.length + j]? = some q2 := by
    rw [List.append_assoc, List.getElem?_append_right (Nat.le_add_right _ _), Nat.add_sub_cancel_left, List.getElem?_append_left hp.lt, hq2]
  refine wpAny_execs_cons ?_
  iterate 4 walk1
  refine itemLi (K.ha.mono O.keep) (by omega) v1 ?_
  refine stLx F fun s₃ m₃ k₃ n7 F₃ T₃ => ?_
  have O₃ := F₃.toOk
  replace n1 := k₃ _ _ (by decide) n1
  replace n2 := k₃ _ _ (by decide) n2
  replace n3 := k₃ _ _ (by decide) n3
  replace n4 := k₃ _ _ (by decide) n4
  replace n5 := k₃ _ _ (by decide) n5
  have n6 := k₃ _ _ (by decide) K.n6
  iterate 5 walk1
  refine itemLi (K.hb.mono O₃.keep) (by have := hp.lt; omega) v2 ?_
  refine stLx F₃ fun s₄ m₄ k₄ n8 F₄ T₄ => ?_
  have O₄ := F₄.toOk
  replace n1 := k₄ _ _ (by decide) n1
  replace n2 := k₄ _ _ (by decide) n2
  replace n3 := k₄ _ _ (by decide) n3
  replace n4 := k₄ _ _ (by decide) n4
  replace n5 := k₄ _ _ (by decide) n5
  replace n6 := k₄ _ _ (by decide) n6
  replace n7 := k₄ _ _ (by decide) n7
  iterate 5 walk1
  refine PyProof.Rows.lt_str ?_
  refine wpAny_truthy_bool ?_
  by_cases hi : i < pre.length
  · have hj : j = 0 := by rcases hp.at' with ⟨h, _⟩ | h <;> omega
    subst hj
    have hlt := hord i (pre.length + 0) q1 q2 (by omega) hq1 hq2x
    rw [if_pos (show decide (q1.1.cps.toList < q2.1.cps.toList) = true from hlt)]
    obtain ⟨c, hMo⟩ := K.hM
    iterate 4 walk1
    refine getm_append (O₄.keep _ _ hMo) ?_
    iterate 4 walk1
    have hms : ms.length ≤ 1000 := by rw [hp.ms]; unfold strValues; rw [List.length_map]; have := List.length_take_le i pre; omega
    refine call_append (O₄.keep _ _ hMo) (Nat.lt_of_le_of_lt hms (by decide)) fun h₅ n₅ hM₅ hs₅ => ?_
    have F₅ := F₄.setAt (t := s₄.toks) hMo K.bM hM₅ hs₅
    have ha₅ : IsL (P.set M (lobj (ms ++ [.str q1.1 q1.2]) n₅)) a (strValues (pre ++ ys ++ post)) := K.ha.set (Ne.symm K.Ma)
    have hb₅ : IsL (P.set M (lobj (ms ++ [.str q1.1 q1.2]) n₅)) b (strValues ys) := K.hb.set (Ne.symm K.Mb)
    have hM₆ : IsL (P.set M (lobj (ms ++ [.str q1.1 q1.2]) n₅)) M (ms ++ [.str q1.1 q1.2]) := ⟨_, PM.set_self _ _ _⟩
    have hU₅ : IsL (P.set M (lobj (ms ++ [.str q1.1 q1.2]) n₅)) U [] := K.hU.set (Ne.symm K.MU)
    have old₅ : OldF (framesOf outer) s.heap (P.set M (lobj (ms ++ [.str q1.1 q1.2]) n₅)) := K.old.set K.gM
    generalize P.set M (lobj (ms ++ [.str q1.1 q1.2]) n₅) = P₅ at *
    have O₅ := F₅.toOk
    iterate 5 walk1
    have hc1 : (i : Int) + 1 = ((i + 1 : Nat) : Int) := by push_cast; rfl
    rw [hc1]
    refine stLx (F₅.toks _ (Nat.le_succ_of_le (Nat.le_succ _))) fun s₆ m₆ k₆ n3' F₆ T₆ => ?_
    have O₆ := F₆.toOk
    replace n1 := k₆ _ _ (by decide) n1
    replace n2 := k₆ _ _ (by decide) n2
    replace n4 := k₆ _ _ (by decide) n4
    replace n5 := k₆ _ _ (by decide) n5
    replace n6 := k₆ _ _ (by decide) n6
    replace n7 := k₆ _ _ (by decide) n7
    obtain ⟨q3, hq3⟩ : ∃ q3, (pre ++ ys ++ post)[i + 1]? = some q3 := ⟨_, List.getElem?_eq_getElem (by
      have := hp.lt
      simp only [List.length_append]; omega)⟩
    have v3 : (strValues (pre ++ ys ++ post))[i + 1]? = some (.str q3.1 q3.2) := by unfold strValues; rw [List.getElem?_map, hq3]; rfl
    walk1
    refine while0 ?_
    iterate 4 walk1
    refine itemLi (ha₅.mono O₆.keep) (by have := hp.lt; simp only [List.length_append] at hsz; omega) v3 ?_
    iterate 1 walk1
    refine PyProof.Rows.eq_str ?_
    refine wpAny_truthy_bool ?_
    rw [BEq.comm, ltS_ne (hord i (i + 1) q1 q3 (by omega) hq1 hq3)]
    refine ⟨rfl, ?_⟩
    iterate 2 walk1
    refine ⟨rfl, hN (i + 1) 0 (ms ++ [.str q1.1 q1.2]) m₆ P₅ s₆ (Nat.lt_succ_self _) { F₆ with
      n1 := n1
      n2 := n2
      n3 := ⟨_, n3'⟩
      n4 := ⟨_, n4⟩
      n5 := n5
      n6 := n6
      ha := ha₅
      hb := hb₅
      hM := hM₆
      hU := hU₅
      MU := K.MU
      Ma := K.Ma
      Mb := K.Mb
      bM := K.bM
      bU := K.bU
      gM := K.gM
      gU := K.gU
      old := old₅
      above := K.above } ⟨.inl ⟨rfl, hi⟩, hp.lt, ?_⟩⟩
    rw [hp.ms]
    have hqp : pre[i]? = some q1 := by
      rw [List.append_assoc, List.getElem?_append_left hi] at hq1; exact hq1
    unfold strValues
    rw [List.take_add_one, hqp]
    simp
  · have hij : i = pre.length + j := by rcases hp.at' with ⟨rfl, h⟩ | h <;> omega
    subst hij
    have e12 : q1 = q2 := by rw [hq2x] at hq1; injection hq1 with h; exact h.symm
    subst e12
    rw [if_neg (show ¬ decide (q1.1.cps.toList < q1.1.cps.toList) = true from by have := ltS_irr q1.1; unfold ltS at this; rw [this]; decide)]
    iterate 5 walk1
    refine PySem.P.gt_str ?_
    refine wpAny_truthy_bool ?_
    rw [if_neg (show ¬ decide (q1.1.cps.toList < q1.1.cps.toList) = true from by have := ltS_irr q1.1; unfold ltS at this; rw [this]; decide)]
    iterate 5 walk1
    have hc1 : ((pre.length + j : Nat) : Int) + 1 = ((pre.length + j + 1 : Nat) : Int) := by push_cast; rfl
    rw [hc1]
    refine stLx (F₄.toks _ (Nat.le_succ_of_le (Nat.le_succ _))) fun s₆ m₆ k₆ n3' F₆ T₆ => ?_
    have O₆ := F₆.toOk
    replace n1 := k₆ _ _ (by decide) n1
    replace n2 := k₆ _ _ (by decide) n2
    replace n4 := k₆ _ _ (by decide) n4
    replace n5 := k₆ _ _ (by decide) n5
    replace n6 := k₆ _ _ (by decide) n6
    replace n7 := k₆ _ _ (by decide) n7
    replace n8 := k₆ _ _ (by decide) n8
    have hms : ms = strValues pre := by rw [hp.ms, List.take_of_length_le (Nat.le_add_right _ _)]
    have hM := K.hM
    rw [hms] at hM
    dsimp only
    refine wpAny_execs_cons ?_
    refine wpAny_Try_finally ?_
    refine wpAny_execs_cons ?_
    refine while0 ?_
    iterate 4 walk1
    have hjl := hp.lt
    by_cases hend : pre.length + j + 1 < (pre ++ ys ++ post).length
    · obtain ⟨q3, hq3⟩ : ∃ q3, (pre ++ ys ++ post)[pre.length + j + 1]? = some q3 := ⟨_, List.getElem?_eq_getElem hend⟩
      have v3 : (strValues (pre ++ ys ++ post))[pre.length + j + 1]? = some (.str q3.1 q3.2) := by unfold strValues; rw [List.getElem?_map, hq3]; rfl
      refine itemLi (K.ha.mono O₆.keep) (by omega) v3 ?_
      walk1
      refine PyProof.Rows.eq_str ?_
      refine wpAny_truthy_bool ?_
      rw [BEq.comm, ltS_ne (hord _ _ q1 q3 (Nat.lt_succ_self _) hq1 hq3)]
      refine ⟨rfl, ?_⟩
      iterate 2 walk1
      iterate 5 walk1
      have hc2 : (j : Int) + 1 = ((j + 1 : Nat) : Int) := by push_cast; rfl
      rw [hc2]
      refine stLx (F₆.toks _ (Nat.le_succ_of_le (Nat.le_succ _))) fun s₈ m₈ k₈ n4' F₈ T₈ => ?_
      have O₈ := F₈.toOk
      replace n1 := k₈ _ _ (by decide) n1
      replace n2 := k₈ _ _ (by decide) n2
      replace n3' := k₈ _ _ (by decide) n3'
      replace n5 := k₈ _ _ (by decide) n5
      replace n6 := k₈ _ _ (by decide) n6
      replace n8 := k₈ _ _ (by decide) n8
      have S₈ : Sl s₀ s outer a b (pre ++ ys ++ post) ys L M U (pre.length + j + 1) (j + 1) (strValues pre) m₈ P s₈ := { F₈ with
        n1 := n1
        n2 := n2
        n3 := ⟨_, n3'⟩
        n4 := ⟨_, n4'⟩
        n5 := n5
        n6 := n6
        ha := K.ha
        hb := K.hb
        hM := hM
        hU := K.hU
        MU := K.MU
        Ma := K.Ma
        Mb := K.Mb
        bM := K.bM
        bU := K.bU
        gM := K.gM
        gU := K.gU
        old := K.old
        above := K.above }
      walk1
      refine while0 ?_
      iterate 4 walk1
      by_cases hj2 : j + 1 < ys.length
      · obtain ⟨q4, hq4⟩ : ∃ q4, ys[j + 1]? = some q4 := ⟨_, List.getElem?_eq_getElem hj2⟩
        have v4 : (strValues ys)[j + 1]? = some (.str q4.1 q4.2) := by unfold strValues; rw [List.getElem?_map, hq4]; rfl
        have hq4x : (pre ++ ys ++ post)[pre.length + (j + 1)]? = some q4 := by
          rw [List.append_assoc, List.getElem?_append_right (Nat.le_add_right _ _), Nat.add_sub_cancel_left, List.getElem?_append_left hj2, hq4]
        refine itemLi (K.hb.mono O₈.keep) (by omega) v4 ?_
        walk1
        refine PyProof.Rows.eq_str ?_
        refine wpAny_truthy_bool ?_
        rw [BEq.comm, ltS_ne (hord (pre.length + j) (pre.length + (j + 1)) q1 q4 (by omega) hq1 hq4x)]
        refine ⟨rfl, ?_⟩
        iterate 4 walk1
        exact ⟨rfl, hN (pre.length + j + 1) (j + 1) (strValues pre) m₈ P s₈ (Nat.lt_succ_self _) S₈ ⟨.inr rfl, hj2, by rw [List.take_of_length_le (by omega)]⟩⟩
      · have hje : j + 1 = ys.length := by omega
        refine item_out (vs := strValues ys) (K.hb.mono O₈.keep) (by unfold strValues; rw [List.length_map]; omega) (by omega) (fun α msg Q' => raise_words (cls := "IndexError") plainExc_IndexError hh fun v => ?_)
        have e1 : pre.length + j + 1 = pre.length + ys.length := by omega
        rw [e1, hje] at S₈
        have hfr' : (A.deeper (envAt w 134 L)).frames = some (envAt w 134 L :: outer) := Around.frames_deeper hfr
        have X₀ := F₈.fly0 (env := envAt w 134 L) (cls := "IndexError") (K.old.ff O₈ hff) rfl (by show ScopeKind.function ≠ ScopeKind.module; decide) v
        refine note hfr' rfl X₀ fun s₉ X₁ => came X₁ fun s₁₀ X₂ => ?_
        refine note hfr' rfl X₂ fun s₁₁ X₃ => came X₃ fun s₁₂ X₄ => ?_
        exact hX _ _ _ _ _ _ S₈ X₄
    · have hie : pre.length + j + 1 = (pre ++ ys ++ post).length := by
        have := hib
        omega
      have hje : j + 1 = ys.length := by simp only [List.length_append] at hie; omega
      have hpost : (strValues (pre ++ ys ++ post)).length ≤ pre.length + j + 1 := by unfold strValues; rw [List.length_map]; omega
      have hfr' : (A.deeper (envAt w 134 L)).frames = some (envAt w 134 L :: outer) := Around.frames_deeper hfr
      refine item_out (vs := strValues (pre ++ ys ++ post)) (K.ha.mono O₆.keep) hpost (by omega) (fun α msg Q' => raise_words (cls := "IndexError") plainExc_IndexError hh fun v => ?_)
      have X₀ := F₆.fly0 (env := envAt w 134 L) (cls := "IndexError") (K.old.ff O₆ hff) rfl (by show ScopeKind.function ≠ ScopeKind.module; decide) v
      refine note hfr' rfl X₀ fun s₉ X₁ => came X₁ fun s₁₀ X₂ => ?_
      refine note hfr' rfl X₂ fun s₁₁ X₃ => ?_
      refine ⟨ref_ne_byPass _, ?_⟩
      refine note hfr' rfl X₃ fun s₁₂ X₄ => flight X₄ fun s₁₃ X₅ => ?_
      obtain ⟨F₁₃, hle⟩ : Fn s₀ (envAt w 134 L).locals m₆ (PM.del s₁₃.heap.get? L) s₁₃ ∧ (P.wo (framesOf outer)).le (PM.del s₁₃.heap.get? L) := X₅.again F₆ rfl hfb
      have old₁₃ : OldF (framesOf outer) s.heap (PM.del s₁₃.heap.get? L) := K.old.fly X₅ F₆ rfl (by rw [← K.above]; exact Heap.get?_none_of_le (Nat.le_refl _))
      have O₁₃ := F₁₃.toOk
      have ha₁₃ := (K.ha.wo haf).mono hle
      have hb₁₃ := (K.hb.wo hbf).mono hle
      have hM₁₃ := (hM.wo hMf).mono hle
      have hU₁₃ := (K.hU.wo hUf).mono hle
      obtain ⟨ev, oe, vs, hve, hne, hee, hce, hde, hsze, hcx, -⟩ := X₅.exc
      injection hve with hve
      have heL : ev ≠ L := fun q => by
        obtain ⟨oL, _, _, hoL, _⟩ := F₆.ns
        rw [q] at hne
        have hoL' : s₆.heap.get? L = some oL := hoL
        rw [hne] at hoL'
        cases hoL'
      have hPe : (PM.del s₁₃.heap.get? L) ev = some oe := by rw [PM.del_ne heL]; exact hee
      have hff₁₃ := old₁₃.ff O₁₃ hff
      rw [hve]
      clear hle X₅ X₄ X₃ X₂ X₁ X₀
      generalize PM.del s₁₃.heap.get? L = P₁₃ at *
      refine wpAny_execs_cons ?_
      iterate 4 walk1
      have hc2 : (j : Int) + 1 = ((j + 1 : Nat) : Int) := by push_cast; rfl
      rw [hc2]
      refine stLx (F₁₃.toks _ (Nat.le_succ_of_le (Nat.le_succ _))) fun s₁₄ m₁₄ k₁₄ n4' F₁₄ T₁₄ => ?_
      have O₁₄ := F₁₄.toOk
      replace n1 := k₁₄ _ _ (by decide) n1
      replace n2 := k₁₄ _ _ (by decide) n2
      replace n3' := k₁₄ _ _ (by decide) n3'
      replace n5 := k₁₄ _ _ (by decide) n5
      replace n6 := k₁₄ _ _ (by decide) n6
      replace n8 := k₁₄ _ _ (by decide) n8
      have e1 : pre.length + j + 1 = pre.length + ys.length := by omega
      have S₁₄ : Sl s₀ s outer a b (pre ++ ys ++ post) ys L M U (pre.length + ys.length) ys.length (strValues pre) m₁₄ P₁₃ s₁₄ := { F₁₄ with
        n1 := n1
        n2 := n2
        n3 := ⟨_, by rw [← e1]; exact n3'⟩
        n4 := ⟨_, by rw [← hje]; exact n4'⟩
        n5 := n5
        n6 := n6
        ha := ha₁₃
        hb := hb₁₃
        hM := hM₁₃
        hU := hU₁₃
        MU := K.MU
        Ma := K.Ma
        Mb := K.Mb
        bM := K.bM
        bU := K.bU
        gM := K.gM
        gU := K.gU
        old := old₁₃
        above := K.above }
      walk1
      refine while0 ?_
      iterate 4 walk1
      refine item_out (vs := strValues ys) (hb₁₃.mono O₁₄.keep) (by unfold strValues; rw [List.length_map]; omega) (by omega) (fun α msg Q' => raise_words_held (cls := "IndexError") (hd := ev) plainExc_IndexError rfl (O₁₄.keep _ _ hPe) hde hcx fun v => ?_)
      have Y₀ := F₁₄.fly1 (env := envAt w 134 L) (cls := "IndexError") (hd := .ref ev) (old₁₃.ff O₁₄ hff) rfl (by show ScopeKind.function ≠ ScopeKind.module; decide) v
      have hfrm : ((A.deeper (envAt w 134 L)).mark (some (.ref ev))).frames = some (envAt w 134 L :: outer) := hfr'
      refine note hfrm rfl Y₀ fun s₁₅ Y₁ => came Y₁ fun s₁₆ Y₂ => ?_
      refine note hfrm rfl Y₂ fun s₁₇ Y₃ => came Y₃ fun s₁₈ Y₄ => ?_
      exact hX _ _ _ _ _ _ S₁₄ Y₄
end Mine
end

section
open PySem PySem.W PyProof.Rows PySem.Calls
set_option Elab.async false
set_option maxRecDepth 100000
namespace Mine
abbrev nA : Str := ⟨#[97]⟩
abbrev nAB : Str := ⟨#[97, 98]⟩
abbrev nB : Str := ⟨#[98]⟩
def allRows : List (List Str) := [[nA], [nA, nA], [nA, nA, nA], [nA, nA, nAB], [nA, nA, nB], [nA, nAB], [nA, nAB, nA], [nA, nAB, nAB], [nA, nAB, nB], [nA, nB], [nA, nB, nA], [nA, nB, nAB], [nA, nB, nB], [nAB], [nAB, nA], [nAB, nA, nA], [nAB, nA, nAB], [nAB, nA, nB], [nAB, nAB], [nAB, nAB, nA], [nAB, nAB, nAB], [nAB, nAB, nB], [nAB, nB], [nAB, nB, nA], [nAB, nB, nAB], [nAB, nB, nB], [nB], [nB, nA], [nB, nA, nA], [nB, nA, nAB], [nB, nA, nB], [nB, nAB], [nB, nAB, nA], [nB, nAB, nAB], [nB, nAB, nB], [nB, nB], [nB, nB, nA], [nB, nB, nAB], [nB, nB, nB]]
def fronts : List (List Str) := [[nA], [nA, nAB], [nAB], [nB, nB], []]
def rank (r : List Str) : Nat := allRows.idxOf r
def slash : Str := ⟨#[47]⟩
def dot : Str := ⟨#[46]⟩
theorem slash_eq : Str.ofString "/" = slash := by decide +kernel
theorem nA_eq : Str.ofString "a" = nA := by decide +kernel
theorem nAB_eq : Str.ofString "ab" = nAB := by decide +kernel
theorem nB_eq : Str.ofString "b" = nB := by decide +kernel
/-- a row's path -/
def pathOf (r : List Str) : Str := Txt.join slash r
def loOf (f : List Str) : Nat := [0, 5, 13, 35, 0].getD (fronts.idxOf f) 0
def hiOf (f : List Str) : Nat := [13, 9, 26, 39, 39].getD (fronts.idxOf f) 0
def preB (f r : List Str) : Bool := r.take f.length == f
theorem rank_lt : ∀ x ∈ allRows, ∀ y ∈ allRows, ltL x y = decide (rank x < rank y) := by decide +kernel
theorem path_lt : ∀ x ∈ allRows, ∀ y ∈ allRows, rank x < rank y → ltS (pathOf x) (pathOf y) = true := by decide +kernel
theorem rank_inj : ∀ x ∈ allRows, ∀ y ∈ allRows, rank x = rank y → x = y := by decide +kernel
theorem stretch : ∀ f ∈ fronts, ∀ r ∈ allRows, preB f r = (decide (loOf f ≤ rank r) && decide (rank r < hiOf f)) := by decide +kernel
def PTb (x : Str) (row : List Str) : Bool := decide (x.length ≤ 1000) && decide ((Builtin.Str.partsBetween x (Builtin.Str.occurrences x slash 0 x.length (x.length + 1)) 1).length ≤ 1000) &&
  (Txt.split x slash).all (fun c => decide (c.length ≤ 1000)) && (Txt.startswith x slash == false) && ((Txt.split x slash).filter (fun c => c != ⟨#[]⟩ && c != dot) == row)
theorem pt_rows : ∀ r ∈ allRows, PTb (pathOf r) r = true := by decide +kernel
theorem pt_fronts : ∀ r ∈ fronts, PTb (pathOf r) r = true := by decide +kernel
noncomputable def CCb (rx ry : List Str) : Bool := let a := if ltL ry rx = true then ry else rx; let b := if ltL rx ry = true then ry else rx
  (List.range a.length).all (fun k => !(a.take k == b.take k) || decide (k < b.length)) && JoinOk slash (comOf rx ry)
theorem cc_all : ∀ f ∈ fronts, ∀ r ∈ allRows, CCb f r = true := by decide +kernel
theorem com_all : ∀ f ∈ fronts, ∀ r ∈ allRows, (Txt.join slash (comOf f r) == pathOf f) = preB f r := by decide +kernel
theorem empty_eq : Str.ofString "" = ⟨#[]⟩ := by decide +kernel
theorem dot_eq : Str.ofString "." = dot := by decide +kernel
theorem PT.of {x : Str} {row : List Str} (h : PTb x row = true) : PT x row := by
  unfold PTb at h
  simp only [Bool.and_eq_true, decide_eq_true_eq, List.all_eq_true, beq_iff_eq] at h
  obtain ⟨⟨⟨⟨h1, h2⟩, h3⟩, h4⟩, h5⟩ := h
  refine ⟨h1, by rw [slash_eq]; exact h2, by rw [slash_eq]; exact h3, by rw [slash_eq]; exact h4, by rw [slash_eq, empty_eq, dot_eq]; exact h5⟩
theorem CC.of {rx ry : List Str} (h : CCb rx ry = true) : CC rx ry := by
  unfold CCb at h
  simp only [Bool.and_eq_true, List.all_eq_true, List.mem_range, Bool.or_eq_true, Bool.not_eq_true', decide_eq_true_eq] at h
  obtain ⟨h1, h2⟩ := h
  refine ⟨fun k hk e => ?_, by rw [slash_eq]; exact h2⟩
  rcases h1 k hk with h | h
  · rw [e] at h; simp at h
  · exact h
end Mine
end

section
open PySem PySem.W PyProof.Rows PySem.Calls
set_option Elab.async false
set_option maxRecDepth 100000
set_option linter.unusedVariables false
namespace Mine
variable {prog : Program} {w : World} {A : Around} {E : Value → Shared → Prop} {s₀ s : Shared} {P : PM} {p : Program} {loose : List Str}

local macro_rules | `(tactic| walk_at "tk") => `(tactic| first | omega | (dsimp only; omega))
local macro_rules | `(tactic| walk_at "lk") => `(tactic| first | rfl | assumption | exact put_self _ _ _ | exact put_of (by decide) (by first | assumption | exact put_self _ _ _ | exact put_of (by decide) (by assumption)))
local macro_rules | `(tactic| walk_at "eval Name") => `(tactic| first
  | refine nmL (by first | assumption | exact Fn.toks (by assumption) _ (by walk_at "tk")) (by walk_at "lk") ?_
  | refine nmG (by first | assumption | exact Ok.toks (by assumption) _ (by walk_at "tk")) (by assumption) rfl ?_
  | refine nmB (by first | assumption | exact Ok.toks (by assumption) _ (by walk_at "tk")) (by assumption) rfl (by boot_by_name) ?_)
local macro_rules | `(tactic| walk_at "loadName") => `(tactic| refine ldL (by first | assumption | exact Fn.toks (by assumption) _ (by walk_at "tk")) (by walk_at "lk") ?_)
local macro_rules | `(tactic| walk_at "storeName") => `(tactic| (refine stLt (by first | assumption | exact Fn.toks (by assumption) _ (by walk_at "tk")) ?_; intro s' F' T'))

/-- what is known ahead of _law_listing's for -/
structure LsA (s₀ s : Shared) (a : Addr) (iz : List (Int × Tok)) (L N R : Addr) (nl : List (Str × Tok)) (m : Str → Option Value) (P : PM) (s₂ : Shared) : Prop extends Fn s₀ L m P s₂ where
  n1 : m "script" = some (.ref a)
  n2 : m "rows" = some (.ref R)
  ha : IsL P a (iz.map fun q => .int q.1 q.2)
  cN : ∃ o, P (L + 1) = some o ∧ o.data = .cell (some (.ref N))
  hN : IsL P N (strValues nl)
  tN : nl.map (·.1) = [nA, nAB, nB]
  kN : ∀ q ∈ nl, 0 < q.2 ∧ q.2 < s₂.toks
  hR : IsL P R []
  bR : s₀.heap.get? R = none
  gR : s.heap.objs.size ≤ R
  old : PM.le s.heap.get? P
  above : s.heap.objs.size = L
set_option maxHeartbeats 1000000 in
theorem lst_A {a : Addr} {iz : List (Int × Tok)} {Q : Value → Shared → Prop} (O : Ok s₀ P s) (T : Text (KT w) p loose s₀.heap) (hd : A.depth + 10 < recursionLimit) (hu : A.units + 100 < cLine) (hh : A.handled = none)
    (ha : IsL P a (iz.map fun q => .int q.1 q.2)) (hn : iz.length ≤ 6)
    (hrest : ∀ L N R nl m P s₂, LsA s₀ s a iz L N R nl m P s₂ → wpAny (model prog w) (A.deeper (envAt w 139 L)) (execs ((bodyAt w 139).drop 2) (envAt w 139 L)) (fun f s' => ∃ v, f = .ret v ∧ (s.toks ≤ s'.toks → Q v s')) (fun _ _ => False) s₂) :
    wpAny (model prog w) A (call (.ref 139) [.ref a]) Q E s := by
  refine enter (fd := fdAt w 139) (body := bodyAt w 139) (binds := [(Str.ofString "script", .ref a)]) (m := put mt "script" (.ref a)) (cm := mt) O T (by omega) (f := 139) rfl rfl rfl rfl (by kernel_rfl) rfl (by kernel_rfl) (fun _ => by kernel_rfl) (fun _ => by kernel_rfl) ?_
  intro L P₁ s₁ C
  have F := C.toFn
  have O₁ := F.toOk
  have k := PM.le_trans O.keep C.old
  have c1 := C.cell "names" (L + 1) rfl
  refine wpAny_mono (E := fun _ _ => False) ?_ (fun _ _ x => x) fun _ _ x => x.elim
  refine wpAny_execs_cons ?_
  iterate 9 walk1
  refine mkList ?_ (by show 3 ≤ sizeLine; decide)
  have F₂ := F.push (lobj (strValues [(Str.ofString "a", s₁.toks), (Str.ofString "ab", s₁.toks + 1), (Str.ofString "b", s₁.toks + 1 + 1)])) (t := s₁.toks + 1 + 1 + 1) rfl (by omega)
  obtain ⟨b1, -, o1, p1, d1⟩ := c1
  have hle : P₁.le _ := PM.le_set (o := lobj (strValues [(Str.ofString "a", s₁.toks), (Str.ofString "ab", s₁.toks + 1), (Str.ofString "b", s₁.toks + 1 + 1)])) (F.fresh (Nat.le_refl _))
  have p1' := hle _ _ p1
  have hN : (P₁.set s₁.heap.objs.size (lobj (strValues [(Str.ofString "a", s₁.toks), (Str.ofString "ab", s₁.toks + 1), (Str.ofString "b", s₁.toks + 1 + 1)]))) s₁.heap.objs.size = some (lobj (strValues [(Str.ofString "a", s₁.toks), (Str.ofString "ab", s₁.toks + 1), (Str.ofString "b", s₁.toks + 1 + 1)])) := PM.set_self _ _ _
  refine stCt F₂ p1' rfl d1 b1 fun s₃ o1' F₃ d1' T₃ => ?_
  replace d1' : o1'.data = .cell (some (.ref s₁.heap.objs.size)) := d1'
  have hNL : s₁.heap.objs.size ≠ L + 1 := Nat.ne_of_gt (O₁.lt p1)
  have ha₁ : IsL P₁ a (iz.map fun q => .int q.1 q.2) := ha.mono k
  have haL : a ≠ L + 1 := fun q => by
    obtain ⟨n, e⟩ := ha₁
    rw [q, p1] at e
    injection e with e
    rw [e] at d1
    cases d1
  have ha₃ := (ha₁.mono hle).set (o := o1') haL
  have hN₃ := (PM.set_ne (o := o1') hNL).trans hN
  have old₃ := PM.le_trans (PM.le_trans C.old hle) (PM.le_refl _)
  have p3 := PM.set_self (P₁.set s₁.heap.objs.size (lobj (strValues [(Str.ofString "a", s₁.toks), (Str.ofString "ab", s₁.toks + 1), (Str.ofString "b", s₁.toks + 1 + 1)]))) (L + 1) o1'
  have hLs := C.above
  have oldP : PM.le s.heap.get? ((P₁.set s₁.heap.objs.size (lobj (strValues [(Str.ofString "a", s₁.toks), (Str.ofString "ab", s₁.toks + 1), (Str.ofString "b", s₁.toks + 1 + 1)]))).set (L + 1) o1') := fun b o e => by
    have hb : b < L := by rw [← hLs]; exact Heap.lt_size e
    rw [PM.set_ne (Nat.ne_of_lt (Nat.lt_succ_of_lt hb))]
    exact old₃ b o e
  have k1 : 0 < s₁.toks := O₁.tok
  generalize (P₁.set s₁.heap.objs.size (lobj (strValues [(Str.ofString "a", s₁.toks), (Str.ofString "ab", s₁.toks + 1), (Str.ofString "b", s₁.toks + 1 + 1)]))).set (L + 1) o1' = P₃ at *
  generalize s₁.heap.objs.size = N at *
  iterate 4 walk1
  refine mkList ?_ (by decide)
  have F₄ := F₃.push (lobj []) (t := s₃.toks)
  have z3 : P₃ s₃.heap.objs.size = none := F₃.fresh (Nat.le_refl _)
  have b3 : s₀.heap.get? s₃.heap.objs.size = none := F₃.notBase (Nat.le_refl _)
  have g3 : s.heap.objs.size < s₃.heap.objs.size := by rw [hLs]; exact F₃.lt
  have up := PM.le_set (o := lobj []) z3
  refine stLt F₄ fun s₅ F₅ T₅ => ?_
  generalize s₃.heap.objs.size = R at *
  have tN : (⟨[(Str.ofString "a", s₁.toks), (Str.ofString "ab", s₁.toks + 1), (Str.ofString "b", s₁.toks + 1 + 1)], rfl⟩ : { l : List (Str × Tok) // l = [(Str.ofString "a", s₁.toks), (Str.ofString "ab", s₁.toks + 1), (Str.ofString "b", s₁.toks + 1 + 1)] }).1.map (·.1) = [nA, nAB, nB] := by
    show [Str.ofString "a", Str.ofString "ab", Str.ofString "b"] = _
    rw [nA_eq, nAB_eq, nB_eq]
  have kN : ∀ q ∈ [(Str.ofString "a", s₁.toks), (Str.ofString "ab", s₁.toks + 1), (Str.ofString "b", s₁.toks + 1 + 1)], 0 < q.2 ∧ q.2 < s₅.toks := fun q hq => by
    simp only [List.mem_cons, List.not_mem_nil, or_false] at hq
    rcases hq with rfl | rfl | rfl
    · exact ⟨k1, by show s₁.toks < _; dsimp only at T₃ T₅; omega⟩
    · exact ⟨Nat.succ_pos _, by show s₁.toks + 1 < _; dsimp only at T₃ T₅; omega⟩
    · exact ⟨Nat.succ_pos _, by show s₁.toks + 1 + 1 < _; dsimp only at T₃ T₅; omega⟩
  dsimp only at tN
  generalize [(Str.ofString "a", s₁.toks), (Str.ofString "ab", s₁.toks + 1), (Str.ofString "b", s₁.toks + 1 + 1)] = nl at *
  have B : LsA s₀ s a iz L N R nl _ _ s₅ := { F₅ with
    n1 := put_of (by decide) (put_self _ _ _)
    n2 := put_self _ _ _
    ha := ha₃.mono up
    cN := ⟨_, up _ _ p3, d1'⟩
    hN := ⟨_, up _ _ hN₃⟩
    tN := tN
    kN := kN
    hR := ⟨0, PM.set_self _ _ _⟩
    bR := b3
    gR := Nat.le_of_lt g3
    old := PM.le_trans oldP up
    above := hLs }
  refine @wpAny_mono _ _ _ _ _ _ _ _ _ (@hrest L N R nl _ _ s₅ B) (fun f s' h => ?_) (fun _ _ e => e.elim)
  obtain ⟨v, rfl, h⟩ := h
  exact h
end Mine
end

section
open PySem PySem.W PyProof.Rows PySem.Calls PySem.SeqAt
set_option Elab.async false
set_option maxRecDepth 100000
namespace Mine
section
variable {prog : Program} {w : World} {A : Around} {E : Value → Shared → Prop} {s₀ s : Shared} {P : PM} {m : Str → Option Value} {env : Env}

/-- a for over a list that stays, while the object G may change: J is what holds of the frame and the heap between the turns -/
theorem loop_g {K : PM} {G : Addr} {R : Result → Shared → Prop} {x : Str} {px : Pos} {body orelse : List Stmt} {l : Addr} {vs : List Value} (F : Fn s₀ env.locals m P s) (hh : A.handled = none) (hK : K.le P) (hKG : K G = none) (hG : G < s.heap.objs.size) (hl : IsL K l vs)
    (J : Nat → (Str → Option Value) → PM → Prop) (h0 : J 0 m P)
    (stab : ∀ k m Q Q', J k m Q → (∀ b o, b ≠ s.heap.objs.size → Q b = some o → Q' b = some o) → J k m Q')
    (turn : ∀ k v m' Q s', vs[k]? = some v → J k m' Q → K.le Q → Fn s₀ env.locals (put m' x v) Q s' →
      wpAny (model prog w) A (execs body env) (fun f s₃ => match f with
        | .next | .cont => ∃ m'' Q'', J (k + 1) m'' Q'' ∧ (∀ b o, b ≠ G → Q b = some o → Q'' b = some o) ∧ Fn s₀ env.locals m'' Q'' s₃
        | .brk => R (.ok .next) s₃
        | .ret v => R (.ok (.ret v)) s₃) (notedBy (model prog w) A env fun e s' => R (.error e) s') s')
    (done : ∀ m' Q s', J vs.length m' Q → K.le Q → Fn s₀ env.locals m' Q s' →
      wpAny (model prog w) A (execs orelse env) (fun f s₃ => R (.ok f) s₃) (notedBy (model prog w) A env fun e s' => R (.error e) s') s')
    (hk : env.scope.kind = .function := by rfl) (hx : env.kindOf x = some .local := by rfl) :
    wpAny (model prog w) A (pyIter (.ref l)) (fun it s₂ => codeAny (model prog w) A (.forLoop (.Name x px) it body orelse env) R s₂) E s := by
  refine wpAny_pyIter_list ((hl.mono hK).isList F.toOk) ?_
  have hP : P s.heap.objs.size = none := F.fresh (Nat.le_refl _)
  have hB : s₀.heap.get? s.heap.objs.size = none := F.notBase (Nat.le_refl _)
  have F₁ := F.push { cls := .type "list_iterator", data := .fields #[.ref l, .int 0 0] } (t := s.toks)
  generalize hj : s.heap.objs.size = j at hP hB F₁ hG stab ⊢
  have hKj : K j = none := by
    cases e : K j with
    | none => rfl
    | some o => exact (nomatch hP.symm.trans (hK _ _ e))
  refine codeAny_forLoop (fun n s' => ∃ k m' Q, n = vs.length + 1 - k ∧ k ≤ vs.length ∧ J k m' Q ∧ K.le Q ∧ Fn s₀ env.locals m' Q s' ∧ ∃ o, Q j = some o ∧ o.cls = .type "list_iterator" ∧ o.data = .fields #[.ref l, .int (k : Nat) 0]) ?_ (vs.length + 1)
    ⟨0, m, _, rfl, Nat.zero_le _, stab _ _ _ _ h0 (fun b o hb e => (PM.set_ne hb).trans e), PM.le_trans hK (PM.le_set hP), F₁, _, PM.set_self _ _ _, rfl, rfl⟩
  rintro n s' ⟨k, m', Q, rfl, hk', hJ, hPQ, F', o, ho, hc, hd⟩
  have hit : s'.heap.IsListIter j l k := ⟨o, F'.keep _ _ ho, hc, hd⟩
  have hlist := (hl.mono hPQ).isList F'.toOk
  cases hv : vs[k]? with
  | none =>
    have hkl : k = vs.length := by have := List.getElem?_eq_none_iff.mp hv; omega
    refine wpAny_pyNext_list_end hh hit hlist (by simpa using hv) fun h' he => ?_
    have F'' : Fn s₀ env.locals m' (Q.del j) { s' with heap := h' } := by
      obtain ⟨h₁, tk₁, rfl⟩ := F'.same
      have hne : env.locals ≠ j := fun q => by have := F'.hL; rw [q, ho] at this; cases this
      refine ⟨⟨⟨h', tk₁, rfl⟩, fun a x e => ?_, fun a x e => ?_, F'.tok⟩, F'.ns.extBut he hne, ?_⟩
      · by_cases ha : a = j
        · rw [ha, PM.del_self] at e; cases e
        · rw [PM.del_ne ha] at e; exact he a x ha (F'.keep a x e)
      · have ha : a ≠ j := fun q => by rw [q, hB] at e; cases e
        rw [PM.del_ne ha]; exact F'.base a x e
      · rw [PM.del_ne hne]; exact F'.hL
    refine done m' (Q.del j) _ (stab _ _ _ _ (hkl ▸ hJ) fun b o hb e => (PM.del_ne hb).trans e) (fun a x e => ?_) F''
    have ha : a ≠ j := fun q => by rw [q, hKj] at e; cases e
    rw [PM.del_ne ha]; exact hPQ a x e
  | some v =>
    have hlt : k < vs.length := (List.getElem?_eq_some_iff.mp hv).1
    refine wpAny_pyNext_list_item hit hlist (by simpa using hv) fun h' hit' hs => ?_
    obtain ⟨o', ho', hc', hd'⟩ := hit'
    have F₂ := F'.setAt (t := s'.toks) ho hB ho' hs
    refine wpAny_assign_Name (stL F₂ (fun s₃ F₃ => ?_) hk hx)
    have hPQ' : K.le (Q.set j o') := fun a x e => by
      have ha : a ≠ j := fun q => by rw [q, hKj] at e; cases e
      rw [PM.set_ne ha]; exact hPQ a x e
    refine wpAny_mono (turn k v m' _ s₃ hv (stab _ _ _ _ hJ fun b o hb e => (PM.set_ne hb).trans e) hPQ' F₃) (fun f s₄ hf => ?_) fun _ _ e => e
    have nx : (∃ m'' Q'', J (k + 1) m'' Q'' ∧ (∀ b o, b ≠ G → (Q.set j o') b = some o → Q'' b = some o) ∧ Fn s₀ env.locals m'' Q'' s₄) → ∃ n', n' < vs.length + 1 - k ∧ ∃ k m' Q, n' = vs.length + 1 - k ∧ k ≤ vs.length ∧ J k m' Q ∧ K.le Q ∧ Fn s₀ env.locals m' Q s₄ ∧ ∃ o, Q j = some o ∧ o.cls = .type "list_iterator" ∧ o.data = .fields #[.ref l, .int (k : Nat) 0] := by
      rintro ⟨m'', Q'', hJ', hQ', F₄⟩
      exact ⟨vs.length + 1 - (k + 1), by omega, k + 1, m'', Q'', rfl, hlt, hJ', fun b o e => hQ' b o (fun q => by rw [q, hKG] at e; cases e) (hPQ' b o e), F₄, o', hQ' _ _ (Nat.ne_of_gt hG) (PM.set_self _ _ _), hc', hd'⟩
    cases f with
    | next => exact nx hf
    | cont => exact nx hf
    | brk => exact hf
    | ret v => exact hf
end
end Mine
end

section
open PySem PySem.W PyProof.Rows PySem.Calls PySem.SeqAt
set_option Elab.async false
set_option maxRecDepth 100000
namespace Mine
section
variable {prog : Program} {w : World} {A : Around} {E : Value → Shared → Prop} {s₀ s : Shared} {P : PM}

theorem strValues_texts {xs ys : List (Str × Tok)} (h : strValues xs = strValues ys) : xs = ys := by
  induction xs generalizing ys with
  | nil => cases ys with | nil => rfl | cons => cases h
  | cons x xs ih => cases ys with
    | nil => cases h
    | cons y ys =>
      simp only [strValues, List.map_cons, List.cons.injEq, Value.str.injEq] at h
      rw [ih h.2, show x = y from Prod.ext h.1.1 h.1.2]
theorem IsL.texts {a : Addr} {xs ys : List (Str × Tok)} (h : IsL P a (strValues xs)) (h' : IsL P a (strValues ys)) : xs = ys := by
  obtain ⟨n, e⟩ := h
  obtain ⟨n', e'⟩ := h'
  rw [e] at e'
  injection e' with e'
  simp only [lobj, Obj.mk.injEq, Data.seq.injEq, true_and, and_true] at e'
  exact strValues_texts (List.toArray_inj e'.1)

theorem all_range_eq : ∀ (xs ys : List Str), xs.length = ys.length → ((List.range xs.length).all fun j => (xs.getD j default == ys.getD j default)) = (xs == ys)
  | [], [], _ => rfl
  | x :: xs, y :: ys, h => by
    have ih := all_range_eq xs ys (Nat.succ.inj h)
    show (List.range (xs.length + 1)).all _ = ((x == y) && (xs == ys))
    rw [List.range_succ_eq_map, List.all_cons, List.all_map, ← ih]
    rfl

theorem eq_row {x y : Addr} {xs ys : List (Str × Tok)} (O : Ok s₀ P s) (hx : IsL P x (strValues xs)) (hy : IsL P y (strValues ys)) (hu : A.units < cLine) :
    EqAt A s (.ref y) (.ref x) (ys.map (·.1) == xs.map (·.1)) := by
  by_cases hne : y = x
  · subst hne
    rw [hx.texts hy, beq_self_eq_true]
    exact EqAt.same _
  · refine EqAt.of_refs hne ?_
    by_cases hl : ys.length = xs.length
    · have h := RcAt.lists (A := A) (e := fun j => (ys.map (·.1)).getD j default == (xs.map (·.1)).getD j default) (hy.isList O) (hx.isList O) (by simpa [strValues] using hl) hu (fun j h1 h2 => by
        have j1 : j < ys.length := by simpa [strValues] using h1
        have j2 : j < xs.length := by simpa [strValues] using h2
        have e1 : (strValues ys).toArray[j] = .str ys[j].1 ys[j].2 := by simp [strValues]
        have e2 : (strValues xs).toArray[j] = .str xs[j].1 xs[j].2 := by simp [strValues]
        have e3 : (ys.map (·.1)).getD j default = ys[j].1 := by simp [List.getD, j1]
        have e4 : (xs.map (·.1)).getD j default = xs[j].1 := by simp [List.getD, j2]
        rw [e1, e2, e3, e4]
        exact EqAt.str_str _ _ _ _)
      have e := all_range_eq (ys.map (·.1)) (xs.map (·.1)) (by simpa using hl)
      have e5 : (strValues ys).toArray.size = (ys.map (·.1)).length := by simp [strValues]
      rw [e5, e] at h
      exact h
    · have h := RcAt.lists_lengths (A := A) (hy.isList O) (hx.isList O) (by simpa [strValues] using hl) hu
      have e : (ys.map (·.1) == xs.map (·.1)) = false := by
        rw [beq_eq_false_iff_ne]
        intro q
        exact hl (by simpa using congrArg List.length q)
      rw [e]
      exact h

/-- row not in rows -/
theorem notIn_rows {l x : Addr} {zs : List RowAt} {xs : List (Str × Tok)} {Q : Value → Shared → Prop} (O : Ok s₀ P s) (hl : IsL P l (refsOf zs)) (hz : ∀ z ∈ zs, IsL P z.1 (strValues z.2)) (hx : IsL P x (strValues xs)) (hu : A.units + 1 < cLine)
    (h : Q (.bool (!zs.any fun z => z.2.map (·.1) == xs.map (·.1))) s) : wpAny (model prog w) A (compareOp .NotIn (.ref x) (.ref l)) Q E s := by
  classical
  have key : ∀ z ∈ zs, decide (∃ z' ∈ zs, Value.ref z.1 = .ref z'.1 ∧ z'.2.map (·.1) = xs.map (·.1)) = (z.2.map (·.1) == xs.map (·.1)) := fun z hzm => by
    rw [Bool.eq_iff_iff, decide_eq_true_iff, beq_iff_eq]
    constructor
    · rintro ⟨z', hz', e, t⟩
      injection e with e
      have h1 := hz z hzm
      rw [e] at h1
      rw [h1.texts (hz z' hz'), t]
    · exact fun t => ⟨z, hzm, rfl, t⟩
  refine notIn_listAt (fun v => decide (∃ z' ∈ zs, v = .ref z'.1 ∧ z'.2.map (·.1) = xs.map (·.1))) (hl.isList O) (fun y hy => ?_) ?_
  · have hy' : y ∈ refsOf zs := by simpa using hy
    obtain ⟨z, hzm, rfl⟩ := List.mem_map.mp hy'
    rw [key z hzm]
    exact eq_row O hx (hz z hzm) hu
  · have e : (refsOf zs).toArray.any (fun v => decide (∃ z' ∈ zs, v = .ref z'.1 ∧ z'.2.map (·.1) = xs.map (·.1))) = zs.any fun z => z.2.map (·.1) == xs.map (·.1) := by
      rw [List.any_toArray]
      show (zs.map _).any _ = _
      rw [List.any_map, Bool.eq_iff_iff, List.any_eq_true, List.any_eq_true]
      constructor
      · rintro ⟨z, hzm, q⟩
        exact ⟨z, hzm, (key z hzm).symm.trans q⟩
      · rintro ⟨z, hzm, q⟩
        exact ⟨z, hzm, (key z hzm).trans q⟩
    rw [e]
    exact h
end
end Mine
end

section
open PySem PySem.W PyProof.Rows PySem.Calls PySem.SeqAt
set_option Elab.async false
set_option maxRecDepth 100000
namespace Mine
section
variable {prog : Program} {w : World} {A : Around} {E : Value → Shared → Prop} {s₀ s : Shared} {P : PM} {m : Str → Option Value} {L : Addr}

/-- a list display behind its items: the state behind it left abstract -/
theorem mkL {vs : List Value} {t : Nat} {Q : Value → Shared → Prop} (F : Fn s₀ L m P s) (ht : s.toks ≤ t) (hsz : vs.length ≤ 1000)
    (h : ∀ a s' P', P.le P' → IsL P' a vs → s.heap.objs.size ≤ a → s₀.heap.get? a = none → Fn s₀ L m P' s' → t ≤ s'.toks → s.heap.objs.size < s'.heap.objs.size → Grew s s' → Q (.ref a) s') :
    wpAny (model prog w) A (newList vs) Q E { s with toks := t } := by
  refine mkList ?_ (Nat.le_trans hsz (by decide))
  exact h s.heap.objs.size _ (P.set s.heap.objs.size (lobj vs)) (PM.le_set (F.fresh (Nat.le_refl _))) ⟨0, PM.set_self _ _ _⟩ (Nat.le_refl _) (F.notBase (Nat.le_refl _)) (F.push (lobj vs) (t := t) rfl ht) (Nat.le_refl _)
    (by show _ < (s.heap.push (lobj vs)).objs.size; rw [Heap.size_push]; exact Nat.lt_succ_self _) (Grew.push s _ t ht)
end
end Mine
end

section
open PySem PySem.W PyProof.Rows PySem.Calls
set_option Elab.async false
set_option maxRecDepth 100000
set_option linter.unusedVariables false
namespace Mine
variable {prog : Program} {w : World} {A : Around} {E : Value → Shared → Prop} {s₀ s : Shared} {P : PM} {p : Program} {loose : List Str}

local macro_rules | `(tactic| walk_at "tk") => `(tactic| first | omega | (dsimp only; omega))
local macro_rules | `(tactic| walk_at "lk") => `(tactic| first | rfl | assumption | exact put_self _ _ _ | exact put_of (by decide) (by first | assumption | exact put_self _ _ _ | exact put_of (by decide) (by assumption)))
local macro_rules | `(tactic| walk_at "eval Name") => `(tactic| first
  | refine nmL (by first | assumption | exact Fn.toks (by assumption) _ (by walk_at "tk")) (by walk_at "lk") ?_
  | refine nmG (by first | assumption | exact Ok.toks (by assumption) _ (by walk_at "tk")) (by assumption) rfl ?_
  | refine nmB (by first | assumption | exact Ok.toks (by assumption) _ (by walk_at "tk")) (by assumption) rfl (by boot_by_name) ?_)
local macro_rules | `(tactic| walk_at "loadName") => `(tactic| refine ldL (by first | assumption | exact Fn.toks (by assumption) _ (by walk_at "tk")) (by walk_at "lk") ?_)
local macro_rules | `(tactic| walk_at "storeName") => `(tactic| (refine stLt (by first | assumption | exact Fn.toks (by assumption) _ (by walk_at "tk")) ?_; intro s' F' T'))

theorem fmod3 (n : Int) : ∃ j : Nat, j < 3 ∧ n.fmod 3 = j := by
  rw [Int.fmod_eq_emod_of_nonneg n (by decide)]
  exact ⟨(n % 3).toNat, by omega, by omega⟩
theorem name_at {nl : List (Str × Tok)} (h : nl.map (·.1) = [nA, nAB, nB]) {j : Nat} (hj : j < 3) : ∃ q, q ∈ nl ∧ (strValues nl)[j]? = some (.str q.1 q.2) := by
  have hl : j < nl.length := by have := congrArg List.length h; rw [List.length_map] at this; rw [this]; exact hj
  refine ⟨nl[j], List.getElem_mem hl, ?_⟩
  unfold strValues
  rw [List.getElem?_map, List.getElem?_eq_getElem hl]
  rfl
set_option maxHeartbeats 400000 in
/-- names[n // k % 3] -/
theorem pick_n {env : Env} {m : Str → Option Value} {nl : List (Str × Tok)} {N c : Addr} {o : Obj} {n : Int} {u : Tok} {kk : Int} {p1 p2 p3 p4 p5 p6 p7 : Pos} {Q : Value → Shared → Prop} (F : Fn s₀ env.locals m P s)
    (hk : env.scope.kind = .function) (hc : env.kindOf "names" = some .cell) (hcl : env.cells.lookup (Str.ofString "names") = some c) (hl : env.kindOf "n" = some .local)
    (hm : m "n" = some (.int n u)) (hp : P c = some o) (ho : o.data = .cell (some (.ref N))) (hN : IsL P N (strValues nl)) (tN : nl.map (·.1) = [nA, nAB, nB]) (hkk : kk ≠ 0) (hkl : kk.natAbs.log2 < 9000)
    (h : ∀ q s', q ∈ nl → Fn s₀ env.locals m P s' → s.toks ≤ s'.toks → Grew s s' → s'.heap = s.heap → Q (.str q.1 q.2) s') :
    wpAny (model prog w) A (eval (.Subscript (.Name "names" p1) (.BinOp (.BinOp (.Name "n" p2) .FloorDiv (.Constant (.int kk) 0 p3) p4) .Mod (.Constant (.int 3) 0 p5) p6) p7) env) Q E s := by
  iterate 1 walk1
  refine nmC F.toOk hp hcl ho ?_ hk hc
  iterate 2 walk1
  refine nmL F hm ?_ hk hl
  iterate 1 walk1
  refine floordiv_int hkk ?_ (Or.inl (PyProof.noPylong_of_log2 hkl))
  iterate 2 walk1
  obtain ⟨j, lj, ej⟩ := fmod3 (n.fdiv kk)
  rw [ej]
  obtain ⟨q, mq, iq⟩ := name_at tN lj
  refine itemLi (hN.mono F.keep) (Nat.lt_trans lj (by decide)) iq ?_
  exact h q _ mq (F.toks _ (by dsimp only; omega)) (by dsimp only; omega) (Grew.toks s _ (by dsimp only; omega)) rfl
end Mine
end

section
open PySem PySem.W PyProof.Rows PySem.Calls
set_option Elab.async false
set_option maxRecDepth 100000
set_option linter.unusedVariables false
namespace Mine
variable {prog : Program} {w : World} {A : Around} {E : Value → Shared → Prop} {s₀ s : Shared} {P : PM}

/-- what rows holds behind k turns -/
structure Kept (zs : List RowAt) (k : Nat) (out : List RowAt) : Prop where
  mem : ∀ z ∈ out, z ∈ zs
  nd : (out.map textsOf).Nodup
  all : ∀ z ∈ zs.take k, textsOf z ∈ out.map textsOf
  len : out.length ≤ k
theorem Kept.nil (zs : List RowAt) : Kept zs 0 [] := ⟨nofun, List.nodup_nil, by simp, Nat.le_refl _⟩
theorem Kept.skip {zs out : List RowAt} {k : Nat} {z : RowAt} (h : Kept zs k out) (hz : zs[k]? = some z) (hin : textsOf z ∈ out.map textsOf) : Kept zs (k + 1) out := by
  refine ⟨h.mem, h.nd, fun y hy => ?_, Nat.le_succ_of_le h.len⟩
  rw [List.take_add_one, hz] at hy
  rcases List.mem_append.mp hy with hy | hy
  · exact h.all y hy
  · rw [show y = z by simpa using hy]; exact hin
theorem Kept.add {zs out : List RowAt} {k : Nat} {z : RowAt} (h : Kept zs k out) (hz : zs[k]? = some z) (hin : textsOf z ∉ out.map textsOf) : Kept zs (k + 1) (out ++ [z]) := by
  refine ⟨fun y hy => ?_, ?_, fun y hy => ?_, by rw [List.length_append]; exact Nat.succ_le_succ h.len⟩
  · rcases List.mem_append.mp hy with hy | hy
    · exact h.mem y hy
    · rw [show y = z by simpa using hy]; exact List.mem_of_getElem? hz
  · rw [List.map_append, List.nodup_append]
    refine ⟨h.nd, by simp, fun a ha b hb q => ?_⟩
    have hb : b = textsOf z := by simpa using hb
    rw [q, hb] at ha
    exact hin ha
  · rw [List.map_append, List.mem_append]
    rw [List.take_add_one, hz] at hy
    rcases List.mem_append.mp hy with hy | hy
    · exact .inl (h.all y hy)
    · rw [show y = z by simpa using hy]; exact .inr (by simp)
end Mine
end

section
open PySem PySem.W PyProof.Rows PySem.Calls
set_option Elab.async false
set_option maxRecDepth 100000
set_option linter.unusedVariables false
namespace Mine
variable {prog : Program} {w : World} {A : Around} {E : Value → Shared → Prop} {s₀ s : Shared} {P : PM} {p : Program} {loose : List Str}

local macro_rules | `(tactic| walk_at "tk") => `(tactic| first | omega | (dsimp only; omega))
local macro_rules | `(tactic| walk_at "lk") => `(tactic| first | rfl | assumption | exact put_self _ _ _ | exact put_of (by decide) (by first | assumption | exact put_self _ _ _ | exact put_of (by decide) (by assumption)))
local macro_rules | `(tactic| walk_at "eval Name") => `(tactic| first
  | refine nmL (by first | assumption | exact Fn.toks (by assumption) _ (by walk_at "tk")) (by walk_at "lk") ?_
  | refine nmG (by first | assumption | exact Ok.toks (by assumption) _ (by walk_at "tk")) (by assumption) rfl ?_
  | refine nmB (by first | assumption | exact Ok.toks (by assumption) _ (by walk_at "tk")) (by assumption) rfl (by boot_by_name) ?_)
local macro_rules | `(tactic| walk_at "loadName") => `(tactic| refine ldL (by first | assumption | exact Fn.toks (by assumption) _ (by walk_at "tk")) (by walk_at "lk") ?_)
local macro_rules | `(tactic| walk_at "storeName") => `(tactic| (refine stLt (by first | assumption | exact Fn.toks (by assumption) _ (by walk_at "tk")) ?_; intro s' F' T'))

set_option maxHeartbeats 400000 in
/-- for row in l: if row not in rows: rows.append(row) -/
theorem grow_l {m : Str → Option Value} {K : PM} {L l G : Addr} {zs : List RowAt} {R : Result → Shared → Prop} (F : Fn s₀ (envAt w 139 L).locals m P s) (hh : A.handled = none) (hu : A.units + 10 < cLine)
    (hK : K.le P) (hKG : K G = none) (hG : G < s.heap.objs.size) (hG0 : s₀.heap.get? G = none) (hl : IsL K l (refsOf zs)) (hz : ∀ z ∈ zs, IsL K z.1 (strValues z.2)) (hGr : IsL P G []) (hn : m "rows" = some (.ref G)) (hlen : zs.length ≤ 100)
    (done : ∀ out m' Q s', Kept zs zs.length out → IsL Q G (refsOf out) → K.le Q → m' "rows" = some (.ref G) → Fn s₀ (envAt w 139 L).locals m' Q s' → s.toks ≤ s'.toks → R (.ok .next) s') :
    wpAny (model prog w) A (pyIter (.ref l)) (fun it s₂ => codeAny (model prog w) A (.forLoop (.Name "row" ⟨148, 8, 148, 11⟩) it [.If (.Compare (.Name "row" ⟨149, 11, 149, 14⟩) [.NotIn] [.Name "rows" ⟨149, 22, 149, 26⟩] ⟨149, 11, 149, 26⟩) [.Expr (.Call (.Attribute (.Name "rows" ⟨150, 12, 150, 16⟩) "append" ⟨150, 12, 150, 23⟩) [.Name "row" ⟨150, 24, 150, 27⟩] [] ⟨150, 12, 150, 28⟩) ⟨150, 12, 150, 28⟩] [] ⟨149, 8, 150, 28⟩] [] (envAt w 139 L)) R s₂) E s := by
  refine wpAny_with_toks (Nat.le_refl _) (wpAny_mono ?_ (fun _ _ h hn => codeAny_with_toks hn h) fun _ _ e _ => e)
  refine loop_g F hh hK hKG hG hl (fun k m' Q => m' "rows" = some (.ref G) ∧ ∃ out, Kept zs k out ∧ IsL Q G (refsOf out)) ⟨hn, [], Kept.nil zs, hGr⟩ ?_ ?_ ?_
  · rintro k m' Q Q' ⟨h1, out, h2, n, h3⟩ h
    exact ⟨h1, out, h2, n, h _ _ (Nat.ne_of_lt hG) h3⟩
  · rintro k v m' Q s' hv ⟨hn', out, hout, hGo⟩ hKQ F₃
    have hv' : ∃ z, zs[k]? = some z ∧ v = .ref z.1 := by
      unfold refsOf at hv
      rw [List.getElem?_map] at hv
      cases e : zs[k]? with
      | none => rw [e] at hv; cases hv
      | some q => rw [e] at hv; cases hv; exact ⟨q, rfl, rfl⟩
    obtain ⟨z, hzk, rfl⟩ := hv'
    have hzm : z ∈ zs := List.mem_of_getElem? hzk
    have O₃ := F₃.toOk
    have n1 : (put m' "row" (.ref z.1)) "row" = some (.ref z.1) := put_self _ _ _
    have n2 : (put m' "row" (.ref z.1)) "rows" = some (.ref G) := put_of (by decide) hn'
    refine wpAny_execs_cons (wpAny_If (wpAny_mono (Q := fun c s₄ => s₄ = s' ∧ c = !(out.any fun y => y.2.map (·.1) == z.2.map (·.1))) (E := fun _ _ => False) ?_ ?_ (fun _ _ e => e.elim)))
    · iterate 1 walk1
      refine nmL F₃ n1 ?_
      refine nmL F₃ n2 ?_
      refine notIn_rows O₃ hGo (fun y hy => (hz y (hout.mem y hy)).mono hKQ) ((hz z hzm).mono hKQ) (by omega) ?_
      refine wpAny_truthy_bool ?_
      exact ⟨rfl, rfl⟩
    · rintro c s₄ ⟨rfl, rfl⟩
      have hkey : (out.any fun y => y.2.map (·.1) == z.2.map (·.1)) = true ↔ textsOf z ∈ out.map textsOf := by
        rw [List.any_eq_true, List.mem_map]
        exact ⟨fun ⟨y, hy, q⟩ => ⟨y, hy, eq_of_beq q⟩, fun ⟨y, hy, q⟩ => ⟨y, hy, beq_iff_eq.mpr q⟩⟩
      cases e : out.any fun y => y.2.map (·.1) == z.2.map (·.1)
      · rw [e] at hkey
        refine ite_pos rfl ?_
        iterate 4 walk1
        obtain ⟨c, hGo'⟩ := hGo
        refine getm_append (O₃.keep _ _ hGo') ?_
        iterate 4 walk1
        refine call_append (O₃.keep _ _ hGo') (by show (out.map _).length < _; rw [List.length_map]; exact Nat.lt_of_le_of_lt (Nat.le_trans hout.len (Nat.le_trans (Nat.le_of_lt (List.getElem?_eq_some_iff.mp hzk).1) hlen)) (by decide)) fun h₅ n₅ hM₅ hs₅ => ?_
        have F₅ := F₃.setAt (t := s₄.toks) hGo' hG0 hM₅ hs₅
        iterate 2 walk1
        exact ⟨_, _, ⟨n2, out ++ [z], hout.add hzk (fun q => Bool.noConfusion (hkey.mpr q)), n₅, by rw [PM.set_self]; unfold refsOf; rw [List.map_append]; rfl⟩, fun b o hb e => (PM.set_ne hb).trans e, F₅⟩
      · rw [e] at hkey
        refine ite_neg (by decide) ?_
        iterate 2 walk1
        exact ⟨_, _, ⟨n2, out, hout.skip hzk (hkey.mp rfl), hGo⟩, fun _ _ _ e => e, F₃⟩
  · intro m' Q s' hJ hKQ F'
    obtain ⟨h1, out, h2, h3⟩ := hJ
    have e : (refsOf zs).length = zs.length := List.length_map _
    rw [e] at h2
    iterate 1 walk1
    exact done out m' Q s' h2 h3 hKQ h1 F'
end Mine
end

section
open PySem PySem.W PyProof.Rows PySem.Calls
set_option Elab.async false
set_option maxRecDepth 100000
set_option linter.unusedVariables false
namespace Mine
variable {prog : Program} {w : World} {A : Around} {E : Value → Shared → Prop} {s₀ s : Shared} {P : PM} {p : Program} {loose : List Str}

local macro_rules | `(tactic| walk_at "tk") => `(tactic| first | omega | (dsimp only; omega))
local macro_rules | `(tactic| walk_at "lk") => `(tactic| first | rfl | assumption | exact put_self _ _ _ | exact put_of (by decide) (by first | assumption | exact put_self _ _ _ | exact put_of (by decide) (by assumption)))
local macro_rules | `(tactic| walk_at "eval Name") => `(tactic| first
  | refine nmL (by first | assumption | exact Fn.toks (by assumption) _ (by walk_at "tk")) (by walk_at "lk") ?_
  | refine nmG (by first | assumption | exact Ok.toks (by assumption) _ (by walk_at "tk")) (by assumption) rfl ?_
  | refine nmB (by first | assumption | exact Ok.toks (by assumption) _ (by walk_at "tk")) (by assumption) rfl (by boot_by_name) ?_)
local macro_rules | `(tactic| walk_at "loadName") => `(tactic| refine ldL (by first | assumption | exact Fn.toks (by assumption) _ (by walk_at "tk")) (by walk_at "lk") ?_)
local macro_rules | `(tactic| walk_at "storeName") => `(tactic| (refine stLt (by first | assumption | exact Fn.toks (by assumption) _ (by walk_at "tk")) ?_; intro s' F' T'))

set_option maxHeartbeats 400000 in
/-- return sorted(rows) -/
theorem lst_C {L R : Addr} {m : Str → Option Value} {P₁ : PM} {out : List RowAt} {Q : Value → Shared → Prop} (F : Fn s₀ (envAt w 139 L).locals m P₁ s) (T : Text (KT w) p loose s₀.heap) (hu : A.units + 100 < cLine) (hn : m "rows" = some (.ref R))
    (hR : IsL P₁ R (refsOf out)) (hz : ∀ z ∈ out, IsL P₁ z.1 (strValues z.2)) (ht : ∀ z ∈ out, textsOf z ∈ allRows) (hnd : (out.map textsOf).Nodup) (h2 : 2 ≤ out.length) (h64 : out.length < 64)
    (h : ∀ D out' s' P', out'.Perm out → out'.Pairwise (fun x y => rank (textsOf x) < rank (textsOf y)) → P₁.le P' → IsL P' D (refsOf out') → R < D → Fn s₀ (envAt w 139 L).locals m P' s' → s.toks ≤ s'.toks → Q (.ref D) s') :
    wpAny (model prog w) (A.deeper (envAt w 139 L)) (execs ((bodyAt w 139).drop 3) (envAt w 139 L)) (fun f s' => ∃ v, f = .ret v ∧ Q v s') (fun _ _ => False) s := by
  have O := F.toOk
  refine wpAny_execs_cons ?_
  iterate 4 walk1
  iterate 3 walk1
  refine sorted_r F (by show A.units + 3 + 10 < cLine; omega) hR hz h2 h64 (fun x hx y hy => rank_lt _ (ht x hx) _ (ht y hy)) ?_ ?_
  · have e : (out.map fun z => rank (textsOf z)) = (out.map textsOf).map rank := by rw [List.map_map]; rfl
    rw [e, List.nodup_iff_pairwise_ne, List.pairwise_map]
    have pw := List.nodup_iff_pairwise_ne.mp hnd
    refine List.Pairwise.imp_of_mem (fun {a b} ha hb hne q => ?_) pw
    obtain ⟨za, ma, rfl⟩ := List.mem_map.mp ha
    obtain ⟨zb, mb, rfl⟩ := List.mem_map.mp hb
    exact hne (rank_inj _ (ht za ma) _ (ht zb mb) q)
  · intro D out' s' P' h1 h2 h3 h4 h5 h6 h7
    exact ⟨_, rfl, h D out' s' P' h1 h2 h3 h4 h5 h6 h7⟩
end Mine
end

section
open PySem PySem.W PyProof.Rows PySem.Calls
set_option Elab.async false
set_option maxRecDepth 100000
set_option linter.unusedVariables false
namespace Mine
variable {prog : Program} {w : World} {A : Around} {E : Value → Shared → Prop} {s₀ s : Shared} {P : PM} {p : Program} {loose : List Str}

local macro_rules | `(tactic| walk_at "tk") => `(tactic| first | omega | (dsimp only; omega))
local macro_rules | `(tactic| walk_at "lk") => `(tactic| first | rfl | assumption | exact put_self _ _ _ | exact put_of (by decide) (by first | assumption | exact put_self _ _ _ | exact put_of (by decide) (by assumption)))
local macro_rules | `(tactic| walk_at "eval Name") => `(tactic| first
  | refine nmL (by first | assumption | exact Fn.toks (by assumption) _ (by walk_at "tk")) (by walk_at "lk") ?_
  | refine nmG (by first | assumption | exact Ok.toks (by assumption) _ (by walk_at "tk")) (by assumption) rfl ?_
  | refine nmB (by first | assumption | exact Ok.toks (by assumption) _ (by walk_at "tk")) (by assumption) rfl (by boot_by_name) ?_)
local macro_rules | `(tactic| walk_at "loadName") => `(tactic| refine ldL (by first | assumption | exact Fn.toks (by assumption) _ (by walk_at "tk")) (by walk_at "lk") ?_)
local macro_rules | `(tactic| walk_at "storeName") => `(tactic| (refine stLt (by first | assumption | exact Fn.toks (by assumption) _ (by walk_at "tk")) ?_; intro s' F' T'))

/-- a row that _law_listing draws -/
def Drawn (N : Nat) (z : Int × Tok) (v : Value) (s : Shared) : Prop :=
  ∃ a l, v = .ref a ∧ N ≤ a ∧ IsL s.heap.get? a (strValues l) ∧ l.map (·.1) ∈ allRows ∧ ∀ q ∈ l, 0 < q.2 ∧ q.2 < s.toks
theorem Drawn.later {N : Nat} {z : Int × Tok} {v : Value} {s s' : Shared} (h : Drawn N z v s) (L : Later N s s') : Drawn N z v s' := by
  obtain ⟨a, l, rfl, hN, ⟨n, hl⟩, ht, hq⟩ := h
  exact ⟨a, l, rfl, hN, ⟨n, (Since.ge (L.le _ _ (Since.of hN hl))).2⟩, ht, fun q h => ⟨(hq q h).1, Nat.lt_of_lt_of_le (hq q h).2 L.tok⟩⟩
theorem drawn_rows {N : Nat} {s : Shared} : ∀ {zs : List (Int × Tok)} {ys : List Value}, All2 (fun z v => Drawn N z v s) zs ys → ∃ rs : List RowAt, ys = refsOf rs ∧ rs.length = zs.length ∧ ∀ r ∈ rs, N ≤ r.1 ∧ IsL s.heap.get? r.1 (strValues r.2) ∧ textsOf r ∈ allRows ∧ ∀ q ∈ r.2, 0 < q.2 ∧ q.2 < s.toks
  | [], _, .nil => ⟨[], rfl, rfl, nofun⟩
  | _ :: _, _, .cons h t => by
    obtain ⟨rs, rfl, hl, hr⟩ := drawn_rows t
    obtain ⟨a, l, rfl, h1, h2, h3, h4⟩ := h
    refine ⟨(a, l) :: rs, rfl, by rw [List.length_cons, List.length_cons, hl], fun r hrm => ?_⟩
    rcases List.mem_cons.mp hrm with rfl | hrm
    · exact ⟨h1, h2, h3, h4⟩
    · exact hr r hrm
/-- what _law_listing gives back -/
structure Lst (h : Heap) (N tk : Nat) (D : Addr) (out : List RowAt) : Prop where
  isD : IsL h.get? D (refsOf out)
  rows : ∀ z ∈ out, IsL h.get? z.1 (strValues z.2)
  txt : ∀ z ∈ out, textsOf z ∈ allRows
  tok : ∀ z ∈ out, ∀ q ∈ z.2, 0 < q.2 ∧ q.2 < tk
  asc : out.Pairwise fun x y => rank (textsOf x) < rank (textsOf y)
  len : out.length ≤ 10
  geD : N ≤ D
  ge : ∀ z ∈ out, N ≤ z.1
theorem two_le {α : Type} {l : List α} {x y : α} (hx : x ∈ l) (hy : y ∈ l) (h : x ≠ y) : 2 ≤ l.length := by
  match l, hx, hy with
  | [], hx, _ => cases hx
  | [a], hx, hy => rw [List.mem_singleton] at hx hy; exact absurd (hx.trans hy.symm) h
  | _ :: _ :: _, _, _ => simp
theorem drawn_in : ∀ x ∈ [nA, nAB, nB], ∀ y ∈ [nA, nAB, nB], ∀ z ∈ [nA, nAB, nB], ∀ j ∈ [0, 1, 2], [x, y, z].take (j + 1) ∈ allRows := by decide +kernel
set_option maxHeartbeats 400000 in
theorem lst_B {a : Addr} {iz : List (Int × Tok)} {Q : Value → Shared → Prop} {L N R : Addr} {nl : List (Str × Tok)} {m : Str → Option Value} {s₂ : Shared} (K : LsA s₀ s a iz L N R nl m P s₂) (T : Text (KT w) p loose s₀.heap) (hd : A.depth + 10 < recursionLimit) (hu : A.units + 100 < cLine) (hh : A.handled = none) (hn : iz.length ≤ 6)
    (h : ∀ D out s' m' P', Fn s₀ (envAt w 139 L).locals m' P' s' → PM.le s.heap.get? P' → Lst s'.heap s.heap.objs.size s'.toks D out → Q (.ref D) s') :
    wpAny (model prog w) (A.deeper (envAt w 139 L)) (execs ((bodyAt w 139).drop 2) (envAt w 139 L)) (fun f s' => ∃ v, f = .ret v ∧ Q v s') (fun _ _ => False) s₂ := by
  have F := K.toFn
  refine wpAny_execs_cons ?_
  refine wpAny_For ?_
  iterate 3 walk1
  repeat (fail_if_success refine mkList ?_ (by decide)); walk1
  refine mkL (vs := strValues [(Str.ofString "a", s₂.toks), (Str.ofString "ab", s₂.toks + 1), (Str.ofString "b", s₂.toks + 1 + 1)]) F (Nat.le_add_right _ 3) (by show 3 ≤ 1000; decide) fun r1 s₃ P₃ up₃ hr1 g1 b1 F₃ t₃ z₃ G₃ => ?_
  repeat (fail_if_success refine mkList ?_ (by decide)); walk1
  refine mkL (vs := strValues [(Str.ofString "a", s₃.toks)]) F₃ (Nat.le_add_right _ 1) (by show 1 ≤ 1000; decide) fun r2 s₄ P₄ up₄ hr2 g2 b2 F₄ t₄ z₄ G₄ => ?_
  repeat (fail_if_success refine mkList ?_ (by decide)); walk1
  refine mkL (vs := strValues [(Str.ofString "ab", s₄.toks), (Str.ofString "a", s₄.toks + 1)]) F₄ (Nat.le_add_right _ 2) (by show 2 ≤ 1000; decide) fun r3 s₅ P₅ up₅ hr3 g3 b3 F₅ t₅ z₅ G₅ => ?_
  repeat (fail_if_success refine mkList ?_ (by decide)); walk1
  refine mkL (vs := strValues [(Str.ofString "b", s₅.toks), (Str.ofString "a", s₅.toks + 1)]) F₅ (Nat.le_add_right _ 2) (by show 2 ≤ 1000; decide) fun r4 s₆ P₆ up₆ hr4 g4 b4 F₆ t₆ z₆ G₆ => ?_
  repeat (fail_if_success refine mkList ?_ (by decide)); walk1
  refine mkL (vs := [.ref r1, .ref r2, .ref r3, .ref r4]) F₆ (Nat.le_refl _) (by show 4 ≤ 1000; decide) fun D s₇ P₇ up₇ hD g5 b5 F₇ t₇ z₇ G₇ => ?_
  obtain ⟨o1, p1, d1⟩ := K.cN
  have up := PM.le_trans (PM.le_trans (PM.le_trans (PM.le_trans up₃ up₄) up₅) up₆) up₇
  refine comp_E (α := Int × Tok) (cl := [(Str.ofString "names", L + 1)]) (s₀ := s₀) hh (by rfl) (by decide) rfl (by decide) rfl ?_
  refine nmL F₇ K.n1 ?_
  refine ⟨a, m, P₇, iz, (fun z => .int z.1 z.2), (fun _ => true), Drawn (s₇.heap.objs.size + 3), rfl, F₇, (K.ha.mono up).lt, Nat.le_trans hn (show 6 ≤ sizeLine by decide), fun _ _ _ _ h L => h.later L, ?_, ?_⟩
  · intro k z C m' s₈ E' hz F₈ hm hN ht
    refine tests_nil ⟨Grew.refl _, rfl, fun _ => ?_⟩
    have q1 := up _ _ p1
    iterate 3 walk1
    refine pick_n (c := L + 1) F₈ rfl rfl rfl rfl hm q1 d1 (K.hN.mono up) K.tN (by decide) (by decide) fun c1 s₉ mc1 F₉ t₉ G₉ e₉ => ?_
    iterate 1 walk1
    refine pick_n (c := L + 1) F₉ rfl rfl rfl rfl hm q1 d1 (K.hN.mono up) K.tN (by decide) (by decide) fun c2 s₁₀ mc2 F₁₀ t₁₀ G₁₀ e₁₀ => ?_
    iterate 1 walk1
    refine pick_n (c := L + 1) F₁₀ rfl rfl rfl rfl hm q1 d1 (K.hN.mono up) K.tN (by decide) (by decide) fun c3 s₁₁ mc3 F₁₁ t₁₁ G₁₁ e₁₁ => ?_
    repeat (fail_if_success refine mkList ?_ (by decide)); walk1
    refine mkL (vs := strValues [c1, c2, c3]) (t := s₁₁.toks) F₁₁ (Nat.le_refl _) (by show 3 ≤ 1000; decide) fun r s₁₂ P₁₂ up₁₂ hr gr br F₁₂ t₁₂ z₁₂ G₁₂ => ?_
    replace hm : m' (Str.ofString "n") = some (.int z.1 z.2) := hm
    iterate 8 walk1
    obtain ⟨j, lj, ej⟩ := fmod3 z.1
    rw [ej]
    iterate 3 walk1
    rw [show ((j : Int) + 1) = ((j + 1 : Nat) : Int) from rfl]
    refine kba_turn (value' := .Name "x" { line := 0, col := 0, endLine := 0, endCol := 0 }) (fun _ => rfl) ?_
    refine slice_Lu (s := { s₁₂ with toks := s₁₂.toks + 1 + 1 + 1 + 1 }) (vs := strValues [c1, c2, c3]) (b := j + 1) (hr.mono F₁₂.keep) (by show 3 ≤ sizeLine; decide) ?_
    obtain ⟨P₁₃, up₁₃, new₁₃, F₁₃⟩ := F₁₂.sliced .none (.int (j + 1 : Nat) (s₁₂.toks + 1 + 1 + 1)) ((strValues [c1, c2, c3]).take (j + 1)) (s₁₂.toks + 1 + 1 + 1 + 1) (by omega)
    have et : (strValues [c1, c2, c3]).take (j + 1) = strValues ([c1, c2, c3].take (j + 1)) := by unfold strValues; rw [List.map_take]
    have nlm : ∀ q ∈ nl, q.1 ∈ [nA, nAB, nB] := fun q hq => by rw [← K.tN]; exact List.mem_map_of_mem hq
    refine ⟨?_, s₁₂.heap.objs.size + 1, [c1, c2, c3].take (j + 1), rfl, ?_, ?_, ?_, ?_⟩
    · exact (((G₉.trans G₁₀).trans G₁₁).trans G₁₂).trans (((Grew.toks s₁₂ (s₁₂.toks + 1 + 1 + 1 + 1) (by omega)).trans (Grew.push _ (slobj .none (.int (j + 1 : Nat) (s₁₂.toks + 1 + 1 + 1))) _ (Nat.le_refl _))).trans (Grew.push _ (lobj ((strValues [c1, c2, c3]).take (j + 1))) _ (Nat.le_refl _)))
    · exact Nat.le_trans hN (Nat.le_trans G₉.size (Nat.le_trans G₁₀.size (Nat.le_trans G₁₁.size (Nat.le_trans G₁₂.size (Nat.le_succ _)))))
    · rw [← et]; exact new₁₃.mono F₁₃.keep
    · have := drawn_in _ (nlm _ mc1) _ (nlm _ mc2) _ (nlm _ mc3) j (by rcases j with _ | _ | _ | j <;> first | decide | omega)
      rw [List.map_take]; exact this
    · intro q hq
      have hq := List.mem_of_mem_take hq
      have tt : s₂.toks ≤ s₁₂.toks + 1 + 1 + 1 + 1 := by omega
      simp only [List.mem_cons, List.not_mem_nil, or_false] at hq
      rcases hq with rfl | rfl | rfl
      · exact ⟨(K.kN _ mc1).1, Nat.lt_of_lt_of_le (K.kN _ mc1).2 tt⟩
      · exact ⟨(K.kN _ mc2).1, Nat.lt_of_lt_of_le (K.kN _ mc2).2 tt⟩
      · exact ⟨(K.kN _ mc3).1, Nat.lt_of_lt_of_le (K.kN _ mc3).2 tt⟩
  intro D2 ys s₈ G₈ hD2 hA
  obtain ⟨rs, rfl, hrl, hrs⟩ := drawn_rows hA
  replace hrl : rs.length ≤ 6 := by rw [hrl]; exact Nat.le_trans (List.length_filter_le _ _) hn
  have F₈ := F₇.call G₈
  have upl := PM.le_join_left P₇ (New s₇.heap s₈.heap)
  have k₈ : (New s₇.heap s₈.heap).le (P₇.join (New s₇.heap s₈.heap)) := F₇.toOk.new_le s₈
  have hD' := hD.mono upl
  have hD2' := hD2.mono k₈
  have hrow : ∀ r ∈ rs, IsL (P₇.join (New s₇.heap s₈.heap)) r.1 (strValues r.2) := fun r hr => by
    obtain ⟨h1, ⟨n, h2⟩, -, -⟩ := hrs r hr
    exact ⟨n, k₈ _ _ (by unfold New; rw [if_neg (Nat.not_lt.mpr (Nat.le_trans (Nat.le_add_right _ 3) h1))]; exact h2)⟩
  refine add_l F₈.toOk hD' hD2' (by show 4 + (refsOf rs).length ≤ _; rw [List.length_map]; exact Nat.le_trans (Nat.add_le_add_left hrl 4) (by decide)) ?_
  have F₉ := F₈.push (lobj ([.ref r1, .ref r2, .ref r3, .ref r4] ++ refsOf rs)) (t := s₈.toks)
  have z8 := F₈.fresh (Nat.le_refl _)
  have up₉ := PM.le_set (o := lobj ([.ref r1, .ref r2, .ref r3, .ref r4] ++ refsOf rs)) z8
  have hl9 : IsL ((P₇.join (New s₇.heap s₈.heap)).set s₈.heap.objs.size (lobj ([.ref r1, .ref r2, .ref r3, .ref r4] ++ refsOf rs))) s₈.heap.objs.size ([.ref r1, .ref r2, .ref r3, .ref r4] ++ refsOf rs) := ⟨0, PM.set_self _ _ _⟩
  have hR8 : IsL (P₇.join (New s₇.heap s₈.heap)) R [] := (K.hR.mono up).mono upl
  have hRl := F₈.toOk.lt hR8.choose_spec
  obtain ⟨ZS, hZS⟩ : ∃ ZS : List RowAt, ZS = [(r1, [(Str.ofString "a", s₂.toks), (Str.ofString "ab", s₂.toks + 1), (Str.ofString "b", s₂.toks + 1 + 1)]), (r2, [(Str.ofString "a", s₃.toks)]), (r3, [(Str.ofString "ab", s₄.toks), (Str.ofString "a", s₄.toks + 1)]), (r4, [(Str.ofString "b", s₅.toks), (Str.ofString "a", s₅.toks + 1)])] ++ rs := ⟨_, rfl⟩
  have hrf : [.ref r1, .ref r2, .ref r3, .ref r4] ++ refsOf rs = refsOf ZS := by rw [hZS]; unfold refsOf; rw [List.map_append]; rfl
  have hlen : ZS.length ≤ 10 := by rw [hZS, List.length_append]; show 4 + rs.length ≤ 10; omega
  have hR2 := F.toOk.lt K.hR.choose_spec
  have hLR : s.heap.objs.size ≤ s₂.heap.objs.size := by rw [K.above]; exact Nat.le_of_lt F.lt
  have hz2 : ∀ z ∈ ZS, s₂.heap.objs.size ≤ z.1 ∧ IsL (P₇.join (New s₇.heap s₈.heap)) z.1 (strValues z.2) ∧ textsOf z ∈ allRows ∧ ∀ q ∈ z.2, 0 < q.2 ∧ q.2 < s₈.toks := by
    have k2 : 0 < s₂.toks := F.tok
    have e8 : s₇.toks ≤ s₈.toks := G₈.tok
    have c2 : s₂.toks + 1 + 1 < s₈.toks := by omega
    have c3 : s₃.toks < s₈.toks := by omega
    have c4 : s₄.toks + 1 < s₈.toks := by omega
    have c5 : s₅.toks + 1 < s₈.toks := by omega
    have k3 : 0 < s₃.toks := by omega
    have k4 : 0 < s₄.toks := by omega
    have k5 : 0 < s₅.toks := by omega
    have m4 : s₂.heap.objs.size < s₄.heap.objs.size := Nat.lt_trans z₃ z₄
    have m5 := Nat.lt_trans m4 z₅
    have m7 := Nat.lt_trans (Nat.lt_trans m5 z₆) z₇
    have b1 : [Str.ofString "a", Str.ofString "ab", Str.ofString "b"] ∈ allRows := by rw [nA_eq, nAB_eq, nB_eq]; decide +kernel
    have b2 : [Str.ofString "a"] ∈ allRows := by rw [nA_eq]; decide +kernel
    have b3 : [Str.ofString "ab", Str.ofString "a"] ∈ allRows := by rw [nA_eq, nAB_eq]; decide +kernel
    have b4 : [Str.ofString "b", Str.ofString "a"] ∈ allRows := by rw [nA_eq, nB_eq]; decide +kernel
    intro z hzm
    rw [hZS] at hzm
    rcases List.mem_append.mp hzm with hzm | hzm
    · simp only [List.mem_cons, List.not_mem_nil, or_false] at hzm
      rcases hzm with rfl | rfl | rfl | rfl
      · exact ⟨g1, ((((hr1.mono up₄).mono up₅).mono up₆).mono up₇).mono upl, b1, by simp only [List.forall_mem_cons]; exact ⟨⟨k2, Nat.lt_of_succ_lt (Nat.lt_of_succ_lt c2)⟩, ⟨Nat.succ_pos _, Nat.lt_of_succ_lt c2⟩, ⟨Nat.succ_pos _, c2⟩, nofun⟩⟩
      · exact ⟨Nat.le_trans (Nat.le_of_lt z₃) g2, (((hr2.mono up₅).mono up₆).mono up₇).mono upl, b2, by simp only [List.forall_mem_cons]; exact ⟨⟨k3, c3⟩, nofun⟩⟩
      · exact ⟨Nat.le_trans (Nat.le_of_lt m4) g3, ((hr3.mono up₆).mono up₇).mono upl, b3, by simp only [List.forall_mem_cons]; exact ⟨⟨k4, Nat.lt_of_succ_lt c4⟩, ⟨Nat.succ_pos _, c4⟩, nofun⟩⟩
      · exact ⟨Nat.le_trans (Nat.le_of_lt m5) g4, (hr4.mono up₇).mono upl, b4, by simp only [List.forall_mem_cons]; exact ⟨⟨k5, Nat.lt_of_succ_lt c5⟩, ⟨Nat.succ_pos _, c5⟩, nofun⟩⟩
    · obtain ⟨h1, -, h3, h4⟩ := hrs z hzm
      exact ⟨Nat.le_trans (Nat.le_of_lt m7) (Nat.le_trans (Nat.le_add_right _ 3) h1), hrow z hzm, h3, h4⟩
  have h2o : ∀ out : List RowAt, Kept ZS ZS.length out → 2 ≤ out.length := fun out ho => by
    have a1 := ho.all (r1, [(Str.ofString "a", s₂.toks), (Str.ofString "ab", s₂.toks + 1), (Str.ofString "b", s₂.toks + 1 + 1)]) (by rw [List.take_length, hZS]; exact List.mem_cons_self)
    have a2 := ho.all (r2, [(Str.ofString "a", s₃.toks)]) (by rw [List.take_length, hZS]; exact List.mem_cons_of_mem _ List.mem_cons_self)
    have := two_le a1 a2 (fun q => by have := congrArg List.length q; simp [textsOf] at this)
    rwa [List.length_map] at this
  rw [hrf] at F₉ up₉ hl9 ⊢
  have oldQ : PM.le s.heap.get? (PM.del ((P₇.join (New s₇.heap s₈.heap)).set s₈.heap.objs.size (lobj (refsOf ZS))) R) := fun b o e => by
    have hb : b < R := Nat.lt_of_lt_of_le (Heap.lt_size e) K.gR
    rw [PM.del_ne (Nat.ne_of_lt hb)]
    exact up₉ _ _ (upl _ _ (up _ _ (K.old b o e)))
  have hzK : ∀ z ∈ ZS, IsL (PM.del ((P₇.join (New s₇.heap s₈.heap)).set s₈.heap.objs.size (lobj (refsOf ZS))) R) z.1 (strValues z.2) := fun z hz => by
    obtain ⟨h1, h2, -, -⟩ := hz2 z hz
    obtain ⟨n, h2⟩ := h2.mono up₉
    exact ⟨n, (PM.del_ne (Nat.ne_of_gt (Nat.lt_of_lt_of_le hR2 h1))).trans h2⟩
  have hDK : IsL (PM.del ((P₇.join (New s₇.heap s₈.heap)).set s₈.heap.objs.size (lobj (refsOf ZS))) R) s₈.heap.objs.size (refsOf ZS) := ⟨0, (PM.del_ne (Nat.ne_of_gt hRl)).trans (PM.set_self _ _ _)⟩
  have hRsz : R < (s₈.heap.push (lobj (refsOf ZS))).objs.size := by rw [Heap.size_push]; exact Nat.lt_succ_of_lt hRl
  have hR9 := hR8.mono up₉
  clear hZS hrf
  generalize hPK : PM.del ((P₇.join (New s₇.heap s₈.heap)).set s₈.heap.objs.size (lobj (refsOf ZS))) R = PK at hzK hDK oldQ
  refine grow_l (K := PK) (G := R) (zs := ZS) F₉ hh (by show A.units + 3 + 10 < cLine; omega) (by rw [← hPK]; exact PM.del_le _ _) (by rw [← hPK]; exact PM.del_self _ _) hRsz K.bR hDK hzK hR9 K.n2 (Nat.le_trans hlen (by decide)) ?_
  intro out m' Q' s₁₀ hout hGo hKQ hrows F₁₀ t₁₀
  have hos : out.length ≤ 10 := Nat.le_trans hout.len hlen
  refine wpAny_mono (@lst_C prog w A s₀ s₁₀ p loose L R m' Q' out Q F₁₀ T hu hrows hGo (fun z hz => (hzK z (hout.mem z hz)).mono hKQ) (fun z hz => (hz2 z (hout.mem z hz)).2.2.1) hout.nd (h2o out hout) (Nat.lt_of_le_of_lt hos (by decide))
    fun D out' s' P' hp hasc hQP hD hRD F' ht' => ?_) (fun f s' q => q) fun _ _ e => e
  have mem : ∀ z ∈ out', z ∈ ZS := fun z hz => hout.mem z (hp.mem_iff.mp hz)
  refine h D out' s' m' P' F' (PM.le_trans oldQ (PM.le_trans hKQ hQP)) ⟨hD.mono F'.keep, fun z hz => (((hzK z (mem z hz)).mono hKQ).mono hQP).mono F'.keep, fun z hz => (hz2 z (mem z hz)).2.2.1, fun z hz q hq => ?_, hasc, by rw [hp.length_eq]; exact hos, Nat.le_trans K.gR (Nat.le_of_lt hRD), fun z hz => Nat.le_trans hLR (hz2 z (mem z hz)).1⟩
  obtain ⟨q1, q2⟩ := (hz2 z (mem z hz)).2.2.2 q hq
  exact ⟨q1, Nat.lt_of_lt_of_le q2 (Nat.le_trans t₁₀ ht')⟩
end Mine
end

section
open PySem PySem.W PyProof.Rows PySem.Calls
set_option Elab.async false
set_option maxRecDepth 100000
set_option linter.unusedVariables false
namespace Mine
variable {prog : Program} {w : World} {A : Around} {E : Value → Shared → Prop} {s₀ s : Shared} {P : PM} {p : Program} {loose : List Str}


/-- _law_listing -/
theorem listing_ok {a : Addr} {iz : List (Int × Tok)} {Q : Value → Shared → Prop} (O : Ok s₀ P s) (T : Text (KT w) p loose s₀.heap) (hd : A.depth + 10 < recursionLimit) (hu : A.units + 100 < cLine) (hh : A.handled = none)
    (ha : IsL P a (iz.map fun q => .int q.1 q.2)) (hn : iz.length ≤ 6) (h : ∀ D out s', Grew s s' → Lst s'.heap s.heap.objs.size s'.toks D out → Q (.ref D) s') :
    wpAny (model prog w) A (call (.ref 139) [.ref a]) Q E s :=
  @lst_A prog w A E s₀ s P p loose a iz Q O T hd hu hh ha hn fun L N R nl m P₂ s₂ K =>
    @lst_B prog w A s₀ s P₂ p loose a iz (fun v s' => s.toks ≤ s'.toks → Q v s') L N R nl m s₂ K T hd hu hh hn fun D out s' m' P' F' old' hl htk => h D out s' (F'.leave O old' K.above htk) hl
end Mine
end

section
open PySem PySem.W PyProof.Rows PySem.Calls
set_option Elab.async false
set_option maxRecDepth 100000
set_option linter.unusedVariables false
namespace Mine
variable {prog : Program} {w : World} {A : Around} {E : Value → Shared → Prop} {s₀ s : Shared} {P : PM} {p : Program} {loose : List Str}


theorem Ok.fn {f : Addr} {o : Obj} (O : Ok s₀ P s) (T : Text (KT w) p loose s₀.heap) (ho : (KT w).lookup f = some o) : s.heap.get? f = some o := O.keep _ _ (O.base _ _ (T.X _ _ ho))
/-- a def of the text is called: its arguments first -/
theorem callF (w : World) {M : Model} {env : Env} {pos : Pos} {f : Addr} {o : Obj} {e : Expr} {rest : List Expr} {Q : Value → Shared → Prop} (ho : (KT w).lookup f = some o) (hdat : o.data = .func (fdAt w f))
    (h : wpAny M A (spliced (backTo pos (starEach (e :: rest) env))) (fun vs s₁ => (∀ o, (KT w).lookup f = some o → s₁.heap.get? f = some o) ∧ wpAny M A (call (.ref f) vs) Q E s₁) E s)
    (he : starEach (e :: rest) env = (false, eval e env) :: starEach rest env := by rfl) :
    wpAny M A (callWith pos (.ref f) [] (backTo pos (starEach (e :: rest) env)) []) Q E s :=
  callWith_def hdat (wpAny_mono h (fun _ _ h => ⟨h.1 _ ho, h.2⟩) fun _ _ e => e) he
end Mine
end

section
open PySem PySem.W PyProof.Rows PySem.Calls
set_option Elab.async false
set_option maxRecDepth 100000
set_option linter.unusedVariables false
namespace Mine
variable {prog : Program} {w : World} {A : Around} {E : Value → Shared → Prop} {s₀ s : Shared} {P : PM} {p : Program} {loose : List Str}

local macro_rules | `(tactic| walk_at "tk") => `(tactic| first | omega | (dsimp only; omega))
local macro_rules | `(tactic| walk_at "lk") => `(tactic| first | rfl | assumption | exact put_self _ _ _ | exact put_of (by decide) (by first | assumption | exact put_self _ _ _ | exact put_of (by decide) (by assumption)))
local macro_rules | `(tactic| walk_at "eval Name") => `(tactic| first
  | refine nmL (by first | assumption | exact Fn.toks (by assumption) _ (by walk_at "tk")) (by walk_at "lk") ?_
  | refine nmG (by first | assumption | exact Ok.toks (by assumption) _ (by walk_at "tk")) (by assumption) rfl ?_
  | refine nmB (by first | assumption | exact Ok.toks (by assumption) _ (by walk_at "tk")) (by assumption) rfl (by boot_by_name) ?_)
local macro_rules | `(tactic| walk_at "loadName") => `(tactic| refine ldL (by first | assumption | exact Fn.toks (by assumption) _ (by walk_at "tk")) (by walk_at "lk") ?_)
local macro_rules | `(tactic| walk_at "storeName") => `(tactic| (refine stLt (by first | assumption | exact Fn.toks (by assumption) _ (by walk_at "tk")) ?_; intro s' F' T'))

/-- the texts that a comprehension gave -/
theorem strs_of {α : Type} {g : α → Str} {φ : Str → Tok → Prop} {s : Shared} : ∀ {xs : List α} {ys : List Value}, All2 (fun z v => ∃ c, v = .str (g z) c ∧ φ (g z) c) xs ys → ∃ cs : List (Str × Tok), ys = strValues cs ∧ cs.map (·.1) = xs.map g ∧ ∀ q ∈ cs, φ q.1 q.2
  | [], _, .nil => ⟨[], rfl, rfl, nofun⟩
  | _ :: _, _, .cons h t => by
    obtain ⟨cs, rfl, h1, h2⟩ := strs_of (s := s) t
    obtain ⟨c, rfl, h3⟩ := h
    exact ⟨(_, c) :: cs, rfl, by rw [List.map_cons, List.map_cons, h1], fun q hq => by
      rcases List.mem_cons.mp hq with rfl | hq
      · exact h3
      · exact h2 q hq⟩
/-- a listing's paths -/
abbrev pathsOf (zs : List (List Str × Tok)) : List (Str × Tok) := zs.map fun z => (pathOf z.1, z.2)
/-- _law_told behind its comprehension -/
structure TdA (s₀ s : Shared) (a : Addr) (zs : List (List Str × Tok)) (fr : List Str) (t : Tok) (L D : Addr) (cs : List (Str × Tok)) (m : Str → Option Value) (P : PM) (s₂ : Shared) : Prop extends Fn s₀ L m P s₂ where
  n1 : m "listing" = some (.ref a)
  n2 : m "commons" = some (.ref D)
  cF : ∃ o, P (L + 1) = some o ∧ o.data = .cell (some (.str (pathOf fr) t))
  ha : IsL P a (strValues (pathsOf zs))
  hD : IsL P D (strValues cs)
  tx : cs.map (·.1) = zs.map fun z => Txt.join slash (comOf fr z.1)
  tk : ∀ q ∈ cs, 0 < q.2 ∧ (q.2 = t → q.1 = pathOf fr)
  old : PM.le s.heap.get? P
  above : s.heap.objs.size = L
  toks : s.toks ≤ s₂.toks
set_option maxHeartbeats 400000 in


theorem told_A {a : Addr} {zs : List (List Str × Tok)} {fr : List Str} {t : Tok} {Q : Value → Shared → Prop} (O : Ok s₀ P s) (T : Text (KT w) p loose s₀.heap) (hd : A.depth + 20 < recursionLimit) (hu : A.units + 120 < cLine) (hh : A.handled = none)
    (ha : IsL P a (strValues (pathsOf zs))) (hz : ∀ z ∈ zs, z.1 ∈ allRows ∧ 0 < z.2 ∧ (z.2 = t → pathOf z.1 = pathOf fr)) (hlen : zs.length ≤ 10) (hf : fr ∈ fronts) (ht : t < s.toks) (ht0 : 0 < t)
    (hrest : ∀ L D cs m P₂ s₂, TdA s₀ s a zs fr t L D cs m P₂ s₂ → wpAny (model prog w) (A.deeper (envAt w 144 L)) (execs ((bodyAt w 144).drop 1) (envAt w 144 L)) (fun f s' => s.toks ≤ s'.toks → Q (match f with | .ret v => v | _ => .none) s') (fun _ _ => False) s₂) :
    wpAny (model prog w) A (call (.ref 144) [.ref a, .str (pathOf fr) t]) Q E s := by
  refine enter (fd := fdAt w 144) (body := bodyAt w 144) (binds := [(Str.ofString "listing", .ref a), (Str.ofString "folder", .str (pathOf fr) t)]) (m := put mt "listing" (.ref a)) (cm := put mt "folder" (.str (pathOf fr) t)) O T (by omega) (f := 144) rfl rfl rfl rfl (by kernel_rfl) rfl (by kernel_rfl) (fun _ => by kernel_rfl) (fun _ => by kernel_rfl) ?_
  intro L P₁ s₁ C
  have F := C.toFn
  have O₁ := F.toOk
  have k := PM.le_trans O.keep C.old
  obtain ⟨b1, -, o1, p1, d1⟩ := C.cell "folder" (L + 1) rfl
  replace d1 : o1.data = .cell (some (.str (pathOf fr) t)) := d1
  refine wpAny_mono (E := fun _ _ => False) ?_ (fun _ _ x => x) fun _ _ x => x.elim
  refine wpAny_execs_cons ?_
  refine comp_A (α := List Str × Tok) (cl := [(Str.ofString "folder", L + 1)]) (s₀ := s₀) hh (by rfl) (by rfl) (by decide) rfl (by decide) rfl rfl rfl ?_
  walk1
  refine ⟨a, _, P₁, zs, (fun z => .str (pathOf z.1) z.2), (fun _ => true), (fun z v s => ∃ c, v = .str (Txt.join slash (comOf fr z.1)) c ∧ 0 < c ∧ (c = t → Txt.join slash (comOf fr z.1) = pathOf fr)), rfl, F, ?_, Nat.le_trans hlen (by decide), fun _ _ _ _ h _ => h, ?_, ?_⟩
  · have := (ha.mono k).lt
    unfold strValues at this
    rw [List.map_map] at this
    exact this
  · intro k z C' m' s₃ E' hzk F₃ hm hN ht'
    refine tests_nil ⟨Grew.refl _, rfl, fun _ => ?_⟩
    replace hm : m' (Str.ofString "path") = some (.str (pathOf z.1) z.2) := hm
    obtain ⟨z1, z2, z3⟩ := hz z (List.mem_of_getElem? hzk)
    iterate 1 walk1
    refine nmG (v := .ref 127) F₃.toOk T rfl ?_
    refine callF w rfl rfl ?_
    iterate 3 walk1
    refine nmC F₃.toOk p1 rfl d1 ?_
    iterate 1 walk1
    refine nmL F₃ hm ?_
    iterate 1 walk1
    refine mkL (t := s₃.toks) F₃ (Nat.le_refl _) (by show 2 ≤ 1000; decide) fun r s₄ P₄ up₄ hr g4 b4 F₄ t₄ z₄ G₄ => ?_
    iterate 1 walk1
    refine ⟨fun o ho => F₄.toOk.fn T ho, ?_⟩
    refine commonpath_ok (rx := fr) (ry := z.1) F₄.toOk T (by show A.depth + 1 + 10 < _; omega) (by show A.units + 3 + 100 < _; omega) hh hr (PT.of (pt_fronts _ hf)) (PT.of (pt_rows _ z1)) (CC.of (cc_all _ hf _ z1)) ?_ z3 ht0 z2 fun tj s₅ G₅ t5 e5 => ?_
    · exact Nat.lt_of_lt_of_le ht (Nat.le_trans C.toks (Nat.le_trans ht' t₄))
    · rw [slash_eq] at e5 ⊢
      exact ⟨G₄.trans G₅, tj, rfl, t5, e5⟩
  intro D ys K₁ s'' s₂ hA hS hD hge ht1 ht2 F₂
  obtain ⟨cs, rfl, hc1, hc2⟩ := strs_of (s := s'') (g := fun z : List Str × Tok => Txt.join slash (comOf fr z.1)) (φ := fun x c => 0 < c ∧ (c = t → x = pathOf fr)) (hA.imp fun _ _ q => q)
  rw [show zs.filter (fun _ => true) = zs from List.filter_eq_self.mpr fun _ _ => rfl] at hc1
  have kK : K₁.le (P₁.join K₁) := PM.le_join_right fun a o e => O₁.fresh (hge a o e)
  have kP := PM.le_join_left P₁ K₁
  exact @hrest L D cs _ _ s₂ { F₂ with
    n1 := put_of (by decide) (put_self _ _ _)
    n2 := put_self _ _ _
    cF := ⟨o1, kP _ _ p1, d1⟩
    ha := (ha.mono k).mono kP
    hD := hD.mono kK
    tx := hc1
    tk := hc2
    old := PM.le_trans C.old kP
    above := C.above
    toks := Nat.le_trans C.toks (Nat.le_trans ht2 ht1) }
end Mine
end

section
open PySem PySem.W PyProof.Rows PySem.Calls
set_option Elab.async false
set_option maxRecDepth 100000
set_option linter.unusedVariables false
namespace Mine
variable {prog : Program} {w : World} {A : Around} {E : Value → Shared → Prop} {s₀ s : Shared} {P : PM} {p : Program} {loose : List Str}

local macro_rules | `(tactic| walk_at "tk") => `(tactic| first | omega | (dsimp only; omega))
local macro_rules | `(tactic| walk_at "lk") => `(tactic| first | rfl | assumption | exact put_self _ _ _ | exact put_of (by decide) (by first | assumption | exact put_self _ _ _ | exact put_of (by decide) (by assumption)))
local macro_rules | `(tactic| walk_at "eval Name") => `(tactic| first
  | refine nmL (by first | assumption | exact Fn.toks (by assumption) _ (by walk_at "tk")) (by walk_at "lk") ?_
  | refine nmG (by first | assumption | exact Ok.toks (by assumption) _ (by walk_at "tk")) (by assumption) rfl ?_
  | refine nmB (by first | assumption | exact Ok.toks (by assumption) _ (by walk_at "tk")) (by assumption) rfl (by boot_by_name) ?_)
local macro_rules | `(tactic| walk_at "loadName") => `(tactic| refine ldL (by first | assumption | exact Fn.toks (by assumption) _ (by walk_at "tk")) (by walk_at "lk") ?_)
local macro_rules | `(tactic| walk_at "storeName") => `(tactic| (refine stLt (by first | assumption | exact Fn.toks (by assumption) _ (by walk_at "tk")) ?_; intro s' F' T'))

theorem sub_ve_be : isSubtype (.type "ValueError") (.type "BaseException") = pure true := by rw [isSubtype_type]; kernel_rfl
theorem sub_ve_ve : isSubtype (.type "ValueError") (.type "ValueError") = pure true := by rw [isSubtype_type]; kernel_rfl
theorem sub_ve_mt : isSubtype (.type ((Manifest.find? "ValueError").elim "type" fun x => x.metatype)) (.type "tuple") = pure false := by
  have e : ((Manifest.find? "ValueError").elim "type" fun x => x.metatype) = "type" := by decide +kernel
  rw [e, isSubtype_type]; kernel_rfl
theorem Fn.ffs {L : Addr} {m : Str → Option Value} {env : Env} {outer : List Env} (F : Fn s₀ L m P s) (hff : s.heap.FunFrames {} outer) (hf : env.frame = some L) (hk : env.scope.kind ≠ .module) : s.heap.FunFrames {} (env :: outer) := by
  obtain ⟨oL, es, ep, hoL, hdL, r⟩ := F.ns
  exact ⟨hk, ⟨L, oL, hf, rfl, hoL, fun vs q => by rw [hdL] at q; cases q⟩, hff⟩
set_option maxHeartbeats 400000 in
theorem told_B {a L D : Addr} {zs : List (List Str × Tok)} {fr : List Str} {t : Tok} {cs : List (Str × Tok)} {m : Str → Option Value} {P₀ : PM} {s₂ : Shared} {outer : List Env} {Q : Value → Shared → Prop} (O : Ok s₀ P₀ s) (K : TdA s₀ s a zs fr t L D cs m P s₂) (T : Text (KT w) p loose s₀.heap)
    (hd : A.depth + 20 < recursionLimit) (hu : A.units + 120 < cLine) (hh : A.handled = none) (ht0 : 0 < t) (hfr : A.frames = some outer) (hff : s.heap.FunFrames {} outer) (hfb : ∀ f ∈ framesOf outer, s₀.heap.get? f = none)
    (hnone : cs.findIdx? (fun q => q.1 == pathOf fr) = none → ∀ s', GrewF (framesOf outer) s s' → Q .none s')
    (hsome : ∀ i u m' P' s', cs.findIdx? (fun q => q.1 == pathOf fr) = some i → TdA s₀ s a zs fr t L D cs m' P' s' → m' "start" = some (.int (i : Nat) u) → wpAny (model prog w) (A.deeper (envAt w 144 L)) (execs ((bodyAt w 144).drop 2) (envAt w 144 L)) (fun f s' => s.toks ≤ s'.toks → Q (match f with | .ret v => v | _ => .none) s') (fun _ _ => False) s') :
    wpAny (model prog w) (A.deeper (envAt w 144 L)) (execs ((bodyAt w 144).drop 1) (envAt w 144 L)) (fun f s' => s.toks ≤ s'.toks → Q (match f with | .ret v => v | _ => .none) s') (fun _ _ => False) s₂ := by
  have F := K.toFn
  have O₂ := F.toOk
  have n2 := K.n2
  obtain ⟨o1, p1, d1⟩ := K.cF
  have hff₂ : s₂.heap.FunFrames {} outer := hff.of_keeps fun b o e _ => ⟨o, F.keep _ _ (K.old b o e), rfl⟩
  have hffe : s₂.heap.FunFrames {} (envAt w 144 L :: outer) := F.ffs hff₂ rfl (by show ScopeKind.function ≠ ScopeKind.module; decide)
  have hfr' : (A.deeper (envAt w 144 L)).frames = some (envAt w 144 L :: outer) := Around.frames_deeper hfr
  refine wpAny_execs_cons ?_
  refine wpAny_Try_except ?_
  refine wpAny_execs_cons ?_
  iterate 2 walk1
  refine nmG (v := .ref 42) O₂ T rfl ?_
  refine callF w rfl rfl ?_
  iterate 3 walk1
  refine nmC O₂ p1 rfl d1 ?_
  iterate 1 walk1
  refine ⟨fun o ho => O₂.fn T ho, ?_⟩
  refine indexOf_ok O₂ T (by show A.depth + 1 < _; omega) hh K.hD ht0 K.tk hfr' hffe (fun i u s₃ hi hu0 G => ?_) fun hi v s₃ X => ?_
  · have F₃ := F.call G
    have up := PM.le_join_left P (New s₂.heap s₃.heap)
    refine stLx F₃ fun s₄ m₄ k₄ n3 F₄ T₄ => ?_
    iterate 2 walk1
    exact @hsome i u m₄ _ s₄ hi { F₄ with
      n1 := k₄ _ _ (by decide) K.n1
      n2 := k₄ _ _ (by decide) n2
      cF := ⟨o1, up _ _ p1, d1⟩
      ha := K.ha.mono up
      hD := K.hD.mono up
      tx := K.tx
      tk := K.tk
      old := PM.le_trans K.old up
      above := K.above
      toks := Nat.le_trans K.toks (Nat.le_trans G.tok T₄) } n3
  · refine note hfr' rfl X fun s₄ X₄ => flight X₄ fun s₅ X₅ => ?_
    obtain ⟨F₅, hle⟩ : Fn s₀ (envAt w 144 L).locals m (PM.del s₅.heap.get? L) s₅ ∧ (P.wo (framesOf outer)).le (PM.del s₅.heap.get? L) := X₅.again F rfl hfb
    obtain ⟨ev, oe, vs, rfl, hne, hee, hce, -⟩ := X₅.exc
    refine wpAny_handleBy_builtin (X := "ValueError") (T := "ValueError") (b := true) sub_ve_be sub_ve_mt sub_ve_ve ?_
    refine nmB F₅.toOk T rfl (by boot_by_name) ?_
    refine ⟨rfl, ⟨oe, hee, hce⟩, ?_⟩
    rw [if_pos rfl]
    refine flight X₅ fun s₆ X₆ => ?_
    obtain ⟨F₆, hle₆⟩ : Fn s₀ (envAt w 144 L).locals m (PM.del s₆.heap.get? L) s₆ ∧ (P.wo (framesOf outer)).le (PM.del s₆.heap.get? L) := X₆.again F rfl hfb
    have old : OldF (framesOf outer) s.heap (PM.del s₆.heap.get? L) := (OldF.of K.old (framesOf outer)).fly X₆ F rfl (by rw [← K.above]; exact Heap.get?_none_of_le (Nat.le_refl _))
    refine wpAny_execs_cons ?_
    iterate 2 walk1
    intro htk
    exact hnone hi _ (F₆.leaveF O old K.above htk)
end Mine
end

section
open PySem PySem.W PyProof.Rows PySem.Calls
set_option Elab.async false
set_option maxRecDepth 100000
set_option linter.unusedVariables false
namespace Mine
variable {prog : Program} {w : World} {A : Around} {E : Value → Shared → Prop} {s₀ s : Shared} {P : PM} {p : Program} {loose : List Str}


section
variable {L : Addr} {m : Str → Option Value} {value slice : Expr}
theorem Fn.sliceQ {a b : Value} {vs : List Value} {Q : Value → Shared → Prop} (F : Fn s₀ L m P s)
    (h : ∀ d s' P', P.le P' → IsL P' d vs → s.heap.objs.size ≤ d → Fn s₀ L m P' s' → Grew s s' → Q (.ref d) s') :
    Q (.ref (s.heap.objs.size + 1)) { s with heap := (s.heap.push (slobj a b)).push (lobj vs) } := by
  obtain ⟨P', up, new, F'⟩ := F.sliced a b vs s.toks (Nat.le_refl _)
  exact h _ _ P' up new (Nat.le_succ _) F' ((Grew.push s (slobj a b) s.toks).trans (Grew.push { s with heap := s.heap.push (slobj a b) } (lobj vs) s.toks))
/-- l[:b] in a frame -/
theorem sl_u {l : Addr} {vs : List Value} {b : Nat} {ub : Tok} {Q : Value → Shared → Prop} (F : Fn s₀ L m P s) (hl : IsL P l vs) (hsz : vs.length ≤ 1000)
    (h : ∀ d s' P', P.le P' → IsL P' d (vs.take b) → s.heap.objs.size ≤ d → Fn s₀ L m P' s' → Grew s s' → Q (.ref d) s')
    (hs : subscripted slice false (.ref l) (.ref s.heap.objs.size) = operate [.ref s.heap.objs.size, .ref l] (getItem (.ref l) (.ref s.heap.objs.size)) := by with_unfolding_all rfl)
    (ht : ∀ r, letTemporaryGo value (.ref l) r = pure () := by intro _; with_unfolding_all rfl) :
    wpAny (model prog w) A (subscriptTail value slice (.ref l) (.ref s.heap.objs.size)) Q E { s with heap := s.heap.push (slobj .none (.int b ub)) } :=
  slice_Lu (hl.mono F.keep) (Nat.le_trans hsz (by decide)) (F.sliceQ h) hs ht
/-- l[a:] in a frame -/
theorem sl_f {l : Addr} {vs : List Value} {a : Nat} {ua : Tok} {Q : Value → Shared → Prop} (F : Fn s₀ L m P s) (hl : IsL P l vs) (hsz : vs.length ≤ 1000)
    (h : ∀ d s' P', P.le P' → IsL P' d (vs.drop a) → s.heap.objs.size ≤ d → Fn s₀ L m P' s' → Grew s s' → Q (.ref d) s')
    (hs : subscripted slice false (.ref l) (.ref s.heap.objs.size) = operate [.ref s.heap.objs.size, .ref l] (getItem (.ref l) (.ref s.heap.objs.size)) := by with_unfolding_all rfl)
    (ht : ∀ r, letTemporaryGo value (.ref l) r = pure () := by intro _; with_unfolding_all rfl) :
    wpAny (model prog w) A (subscriptTail value slice (.ref l) (.ref s.heap.objs.size)) Q E { s with heap := s.heap.push (slobj (.int a ua) .none) } :=
  slice_Lf (hl.mono F.keep) (Nat.le_trans hsz (by decide)) (F.sliceQ h) hs ht
/-- l[a:b] in a frame -/
theorem sl_ab {l : Addr} {vs : List Value} {a b : Nat} {ua ub : Tok} {Q : Value → Shared → Prop} (F : Fn s₀ L m P s) (hl : IsL P l vs) (hsz : vs.length ≤ 1000) (hab : a ≤ b) (hb : b ≤ vs.length)
    (h : ∀ d s' P', P.le P' → IsL P' d ((vs.drop a).take (b - a)) → s.heap.objs.size ≤ d → Fn s₀ L m P' s' → Grew s s' → Q (.ref d) s')
    (hs : subscripted slice false (.ref l) (.ref s.heap.objs.size) = operate [.ref s.heap.objs.size, .ref l] (getItem (.ref l) (.ref s.heap.objs.size)) := by with_unfolding_all rfl)
    (ht : ∀ r, letTemporaryGo value (.ref l) r = pure () := by intro _; with_unfolding_all rfl) :
    wpAny (model prog w) A (subscriptTail value slice (.ref l) (.ref s.heap.objs.size)) Q E { s with heap := s.heap.push (slobj (.int a ua) (.int b ub)) } :=
  slice_Lab (hl.mono F.keep) (Nat.le_trans hsz (by decide)) hab hb (F.sliceQ h) hs ht
end

/-- a stretch of a rising list -/
theorem split2 {α : Type} {key : α → Nat} {hi : Nat} : ∀ {l : List α}, l.Pairwise (fun x y => key x < key y) → ∃ ys post, l = ys ++ post ∧ (∀ x ∈ ys, key x < hi) ∧ ∀ x ∈ post, hi ≤ key x
  | [], _ => ⟨[], [], rfl, nofun, nofun⟩
  | x :: r, h => by
    obtain ⟨h1, h2⟩ := List.pairwise_cons.mp h
    by_cases hx : key x < hi
    · obtain ⟨ys, post, rfl, a, b⟩ := split2 (hi := hi) h2
      exact ⟨x :: ys, post, rfl, List.forall_mem_cons.mpr ⟨hx, a⟩, b⟩
    · exact ⟨[], x :: r, rfl, nofun, List.forall_mem_cons.mpr ⟨Nat.le_of_not_lt hx, fun y hy => Nat.le_trans (Nat.le_of_not_lt hx) (Nat.le_of_lt (h1 y hy))⟩⟩
theorem split3 {α : Type} {key : α → Nat} {lo hi : Nat} : ∀ {l : List α}, l.Pairwise (fun x y => key x < key y) → ∃ pre ys post, l = pre ++ ys ++ post ∧ (∀ x ∈ pre, key x < lo) ∧ (∀ x ∈ ys, lo ≤ key x ∧ key x < hi) ∧ ∀ x ∈ post, hi ≤ key x
  | [], _ => ⟨[], [], [], rfl, nofun, nofun, nofun⟩
  | x :: r, h => by
    obtain ⟨h1, h2⟩ := List.pairwise_cons.mp h
    by_cases hx : key x < lo
    · obtain ⟨pre, ys, post, rfl, a, b, c⟩ := split3 (lo := lo) (hi := hi) h2
      exact ⟨x :: pre, ys, post, rfl, List.forall_mem_cons.mpr ⟨hx, a⟩, b, c⟩
    · have hall : ∀ y ∈ x :: r, lo ≤ key y := List.forall_mem_cons.mpr ⟨Nat.le_of_not_lt hx, fun y hy => Nat.le_trans (Nat.le_of_not_lt hx) (Nat.le_of_lt (h1 y hy))⟩
      obtain ⟨ys, post, e, a, b⟩ := split2 (hi := hi) h
      refine ⟨[], ys, post, e, nofun, fun y hy => ⟨hall y ?_, a y hy⟩, b⟩
      rw [e]
      exact List.mem_append_left _ hy
/-- a listing: what lies within the folder is one stretch -/
structure Cut (fr : List Str) (zs pre ys post : List (List Str × Tok)) : Prop where
  eq : zs = pre ++ ys ++ post
  pre : ∀ z ∈ pre, preB fr z.1 = false
  ys : ∀ z ∈ ys, preB fr z.1 = true
  post : ∀ z ∈ post, preB fr z.1 = false
theorem cut_of {fr : List Str} {zs : List (List Str × Tok)} (hf : fr ∈ fronts) (hz : ∀ z ∈ zs, z.1 ∈ allRows) (hasc : zs.Pairwise fun x y => rank x.1 < rank y.1) : ∃ pre ys post, Cut fr zs pre ys post := by
  obtain ⟨pre, ys, post, rfl, a, b, c⟩ := split3 (lo := loOf fr) (hi := hiOf fr) hasc
  have st : ∀ z ∈ pre ++ ys ++ post, preB fr z.1 = (decide (loOf fr ≤ rank z.1) && decide (rank z.1 < hiOf fr)) := fun z h => stretch _ hf _ (hz z h)
  refine ⟨pre, ys, post, rfl, fun z h => ?_, fun z h => ?_, fun z h => ?_⟩
  · rw [st z (List.mem_append_left _ (List.mem_append_left _ h)), decide_eq_false (Nat.not_le.mpr (a z h)), Bool.false_and]
  · rw [st z (List.mem_append_left _ (List.mem_append_right _ h)), decide_eq_true (b z h).1, decide_eq_true (b z h).2, Bool.true_and]
  · rw [st z (List.mem_append_right _ h), decide_eq_false (Nat.not_lt.mpr (c z h)), Bool.and_false]
section
variable {fr : List Str} {zs pre ys post : List (List Str × Tok)} {cs : List (Str × Tok)}
theorem Cut.within (C : Cut fr zs pre ys post) : (zs.map (·.1)).filter (preB fr) = ys.map (·.1) := by
  have h0 : ∀ l : List (List Str × Tok), (∀ z ∈ l, preB fr z.1 = false) → (l.map (·.1)).filter (preB fr) = [] := fun l h => List.filter_eq_nil_iff.mpr fun r hr => by
    obtain ⟨z, hz, rfl⟩ := List.mem_map.mp hr
    rw [h z hz]; exact Bool.false_ne_true
  have h1 : (ys.map (·.1)).filter (preB fr) = ys.map (·.1) := List.filter_eq_self.mpr fun r hr => by
    obtain ⟨z, hz, rfl⟩ := List.mem_map.mp hr
    exact C.ys z hz
  rw [C.eq, List.map_append, List.map_append, List.filter_append, List.filter_append, h0 pre C.pre, h0 post C.post, h1, List.nil_append, List.append_nil]
theorem Cut.others (C : Cut fr zs pre ys post) : (zs.map (·.1)).filter (fun r => !preB fr r) = (pre ++ post).map (·.1) := by
  have h0 : ∀ l : List (List Str × Tok), (∀ z ∈ l, preB fr z.1 = false) → (l.map (·.1)).filter (fun r => !preB fr r) = l.map (·.1) := fun l h => List.filter_eq_self.mpr fun r hr => by
    obtain ⟨z, hz, rfl⟩ := List.mem_map.mp hr
    rw [h z hz]; rfl
  have h1 : (ys.map (·.1)).filter (fun r => !preB fr r) = [] := List.filter_eq_nil_iff.mpr fun r hr => by
    obtain ⟨z, hz, rfl⟩ := List.mem_map.mp hr
    rw [C.ys z hz]; exact Bool.false_ne_true
  rw [C.eq, List.map_append, List.map_append, List.filter_append, List.filter_append, h0 pre C.pre, h0 post C.post, h1, List.append_nil, List.map_append]
/-- what indexOf and countOf tell of the commons -/
theorem Cut.told (C : Cut fr zs pre ys post) (hf : fr ∈ fronts) (hz : ∀ z ∈ zs, z.1 ∈ allRows) (tx : cs.map (·.1) = zs.map fun z => Txt.join slash (comOf fr z.1)) :
    cs.findIdx? (fun q => q.1 == pathOf fr) = (if ys = [] then none else some pre.length) ∧ cs.countP (fun q => q.1 == pathOf fr) = ys.length := by
  have com : ∀ z ∈ zs, (Txt.join slash (comOf fr z.1) == pathOf fr) = preB fr z.1 := fun z h => com_all _ hf _ (hz z h)
  have e1 : cs.findIdx? (fun q => q.1 == pathOf fr) = zs.findIdx? (fun z => preB fr z.1) := by
    have a : cs.findIdx? (fun q => q.1 == pathOf fr) = (cs.map (·.1)).findIdx? (fun x => x == pathOf fr) := by rw [List.findIdx?_map]; rfl
    rw [a, tx, List.findIdx?_map]
    clear a tx
    clear C hz
    induction zs with
    | nil => rfl
    | cons z r ih =>
      rw [List.findIdx?_cons, List.findIdx?_cons, ih fun z h => com z (List.mem_cons_of_mem _ h)]
      show (if (Txt.join slash (comOf fr z.1) == pathOf fr) = true then _ else _) = _
      rw [com z List.mem_cons_self]
  have e2 : cs.countP (fun q => q.1 == pathOf fr) = zs.countP (fun z => preB fr z.1) := by
    have a : cs.countP (fun q => q.1 == pathOf fr) = (cs.map (·.1)).countP (fun x => x == pathOf fr) := by rw [List.countP_map]; rfl
    rw [a, tx, List.countP_map]
    exact List.countP_congr fun z h => by show (Txt.join slash (comOf fr z.1) == pathOf fr) = true ↔ _; rw [com z h]
  have f0 : ∀ l : List (List Str × Tok), (∀ z ∈ l, preB fr z.1 = false) → l.findIdx? (fun z => preB fr z.1) = none := fun l h => List.findIdx?_eq_none_iff.mpr h
  have c0 : ∀ l : List (List Str × Tok), (∀ z ∈ l, preB fr z.1 = false) → l.countP (fun z => preB fr z.1) = 0 := fun l h => List.countP_eq_zero.mpr fun z hz => by rw [h z hz]; exact Bool.false_ne_true
  have c1 : ys.countP (fun z => preB fr z.1) = ys.length := List.countP_eq_length.mpr C.ys
  refine ⟨?_, ?_⟩
  · rw [e1, C.eq, List.append_assoc, List.findIdx?_append, f0 pre C.pre]
    cases hy : ys with
    | nil => rw [List.nil_append, f0 post C.post]; rfl
    | cons y r =>
      rw [List.cons_append, List.findIdx?_cons, C.ys y (by rw [hy]; exact List.mem_cons_self), if_pos rfl, if_neg (List.cons_ne_nil _ _)]
      show some (0 + pre.length) = _
      rw [Nat.zero_add]
  · rw [e2, C.eq, List.countP_append, List.countP_append, c0 pre C.pre, c0 post C.post, c1, Nat.zero_add, Nat.add_zero]
end
end Mine
end

section
open PySem PySem.W PyProof.Rows PySem.Calls
set_option Elab.async false
set_option maxRecDepth 100000
set_option linter.unusedVariables false
namespace Mine
variable {prog : Program} {w : World} {A : Around} {E : Value → Shared → Prop} {s₀ s : Shared} {P : PM} {p : Program} {loose : List Str}

local macro_rules | `(tactic| walk_at "tk") => `(tactic| first | omega | (dsimp only; omega))
local macro_rules | `(tactic| walk_at "lk") => `(tactic| first | rfl | assumption | exact put_self _ _ _ | exact put_of (by decide) (by first | assumption | exact put_self _ _ _ | exact put_of (by decide) (by assumption)))
local macro_rules | `(tactic| walk_at "eval Name") => `(tactic| first
  | refine nmL (by first | assumption | exact Fn.toks (by assumption) _ (by walk_at "tk")) (by walk_at "lk") ?_
  | refine nmG (by first | assumption | exact Ok.toks (by assumption) _ (by walk_at "tk")) (by assumption) rfl ?_
  | refine nmB (by first | assumption | exact Ok.toks (by assumption) _ (by walk_at "tk")) (by assumption) rfl (by boot_by_name) ?_)
local macro_rules | `(tactic| walk_at "loadName") => `(tactic| refine ldL (by first | assumption | exact Fn.toks (by assumption) _ (by walk_at "tk")) (by walk_at "lk") ?_)
local macro_rules | `(tactic| walk_at "storeName") => `(tactic| (refine stLt (by first | assumption | exact Fn.toks (by assumption) _ (by walk_at "tk")) ?_; intro s' F' T'))

set_option maxHeartbeats 400000 in
theorem told_C {a L D : Addr} {zs pre ys post : List (List Str × Tok)} {fr : List Str} {t u : Tok} {cs : List (Str × Tok)} {m : Str → Option Value} {s₂ : Shared} {R : Flow → Shared → Prop} (K : TdA s₀ s a zs fr t L D cs m P s₂) (T : Text (KT w) p loose s₀.heap)
    (hd : A.depth + 20 < recursionLimit) (hu : A.units + 120 < cLine) (hh : A.handled = none) (ht0 : 0 < t) (C : Cut fr zs pre ys post) (hn : cs.countP (fun q => q.1 == pathOf fr) = ys.length) (hlen : zs.length ≤ 10) (n3 : m "start" = some (.int (pre.length : Nat) u))
    (hrest : ∀ W u u' m' P' s', TdA s₀ s a zs fr t L D cs m' P' s' → m' "start" = some (.int (pre.length : Nat) u) → m' "end" = some (.int ((pre.length + ys.length : Nat) : Int) u') → m' "others" = some (.ref W) → IsL P' W (strValues (pathsOf (pre ++ post))) → s.heap.objs.size ≤ W →
      wpAny (model prog w) (A.deeper (envAt w 144 L)) (execs ((bodyAt w 144).drop 4) (envAt w 144 L)) R (fun _ _ => False) s') :
    wpAny (model prog w) (A.deeper (envAt w 144 L)) (execs ((bodyAt w 144).drop 2) (envAt w 144 L)) R (fun _ _ => False) s₂ := by
  have F := K.toFn
  have O₂ := F.toOk
  have n1 := K.n1
  have n2 := K.n2
  obtain ⟨o1, p1, d1⟩ := K.cF
  refine wpAny_execs_cons ?_
  iterate 4 walk1
  refine nmG (v := .ref 35) O₂ T rfl ?_
  refine callF w rfl rfl ?_
  iterate 3 walk1
  refine nmC O₂ p1 rfl d1 ?_
  iterate 1 walk1
  refine ⟨fun o ho => O₂.fn T ho, ?_⟩
  refine countOf_ok O₂ T (by show A.depth + 1 < _; omega) hh K.hD ht0 K.tk fun u₂ s₃ G => ?_
  rw [hn]
  iterate 1 walk1
  have F₃ := F.call G
  have up := PM.le_join_left P (New s₂.heap s₃.heap)
  refine stLx (F₃.toks (s₃.toks + 1)) fun s₄ m₄ k₄ n4 F₄ T₄ => ?_
  have up₄ := up
  replace n1 := k₄ _ _ (by decide) n1
  replace n2 := k₄ _ _ (by decide) n2
  replace n3 := k₄ _ _ (by decide) n3
  replace n4 : m₄ "end" = some (.int ((pre.length + ys.length : Nat) : Int) s₃.toks) := n4
  have ha₄ := K.ha.mono up
  have hD₄ := K.hD.mono up
  have old₄ := PM.le_trans K.old up
  have tk₄ : s.toks ≤ s₄.toks := Nat.le_trans K.toks (Nat.le_trans G.tok (Nat.le_of_succ_le T₄))
  replace p1 := up _ _ p1
  generalize P.join (New s₂.heap s₃.heap) = P₄ at *
  have O₄ := F₄.toOk
  have hl : (pathsOf zs).length ≤ 10 := by rw [List.length_map]; exact hlen
  have sv : ∀ l : List (Str × Tok), (strValues l).length = l.length := fun l => List.length_map _
  iterate 3 walk1
  refine nmG (v := .ref 28) O₄ T rfl ?_
  refine callF w rfl rfl ?_
  iterate 8 walk1
  refine sl_u F₄ (vs := strValues (pathsOf zs)) (b := pre.length) ha₄ (by rw [sv]; exact Nat.le_trans hl (by decide)) fun a1 s₅ P₅ up₅ h1 g1 F₅ G₅ => ?_
  iterate 8 walk1
  refine sl_f F₅ (vs := strValues (pathsOf zs)) (a := pre.length + ys.length) (ha₄.mono up₅) (by rw [sv]; exact Nat.le_trans hl (by decide)) fun a2 s₆ P₆ up₆ h2 g2 F₆ G₆ => ?_
  iterate 1 walk1
  refine ⟨fun o ho => F₆.toOk.fn T ho, ?_⟩
  obtain ⟨na, h1'⟩ := h1.mono up₆
  have e1 : (strValues (pathsOf zs)).take pre.length = strValues (pathsOf pre) := by
    rw [C.eq, List.append_assoc]; unfold strValues pathsOf
    rw [List.map_append, List.map_append, List.take_left' (by rw [List.length_map, List.length_map])]
  have e2 : (strValues (pathsOf zs)).drop (pre.length + ys.length) = strValues (pathsOf post) := by
    rw [C.eq]; unfold strValues pathsOf
    rw [List.map_append, List.map_append, List.drop_left' (by rw [List.length_map, List.length_map, List.length_append])]
  rw [e1] at h1'
  rw [e2] at h2
  have hpl : pre.length + post.length ≤ 10 := by
    have := hlen; rw [C.eq, List.length_append, List.length_append] at this; omega
  refine concat_ok F₆.toOk T (by show A.depth + 1 < _; omega) h1' h2 (by rw [sv, sv, List.length_map, List.length_map]; exact Nat.le_trans hpl (by decide)) fun W s₇ G₇ hW => ?_
  have F₇ := F₆.call G₇
  have up₇ := PM.le_join_left P₆ (New s₆.heap s₇.heap)
  have k₇ := F₆.toOk.new_le s₇
  have hgW : s.heap.objs.size ≤ W := by
    obtain ⟨_, e⟩ := hW
    have a1 : s.heap.objs.size < s₄.heap.objs.size := by rw [K.above]; exact F₄.lt
    exact Nat.le_trans (Nat.le_of_lt a1) (Nat.le_trans G₅.size (Nat.le_trans G₆.size (New.ge e).1))
  have e3 : strValues (pathsOf pre) ++ strValues (pathsOf post) = strValues (pathsOf (pre ++ post)) := by unfold strValues pathsOf; rw [List.map_append, List.map_append]
  rw [e3] at hW
  refine stLx F₇ fun s₈ m₈ k₈ n5 F₈ T₈ => ?_
  have upz := PM.le_trans (PM.le_trans up₅ up₆) up₇
  exact @hrest W u s₃.toks m₈ _ s₈ { F₈ with
    n1 := k₈ _ _ (by decide) n1
    n2 := k₈ _ _ (by decide) n2
    cF := ⟨o1, upz _ _ p1, d1⟩
    ha := ha₄.mono upz
    hD := hD₄.mono upz
    tx := K.tx
    tk := K.tk
    old := PM.le_trans old₄ upz
    above := K.above
    toks := Nat.le_trans tk₄ (Nat.le_trans G₅.tok (Nat.le_trans G₆.tok (Nat.le_trans G₇.tok T₈))) } (k₈ _ _ (by decide) n3) (k₈ _ _ (by decide) n4) n5 (hW.mono k₇) hgW
end Mine
end

section
open PySem PySem.W PyProof.Rows PySem.Calls
set_option Elab.async false
set_option maxRecDepth 100000
set_option linter.unusedVariables false
namespace Mine
variable {prog : Program} {w : World} {A : Around} {E : Value → Shared → Prop} {s₀ s : Shared} {P : PM} {p : Program} {loose : List Str}


open PySem.SeqAt
theorem IsL.list {a : Addr} {vs : List Value} (h : IsL s.heap.get? a vs) : s.heap.IsList a vs.toArray := let ⟨n, e⟩ := h; ⟨_, e, rfl, n, rfl⟩
theorem eqLists {x y : Addr} {vs ws : List Value} (hx : IsL s.heap.get? x vs) (hy : IsL s.heap.get? y ws) (hu : A.units < cLine) (hl : vs.length = ws.length) (he : ∀ (j : Nat) (v z : Value), vs[j]? = some v → ws[j]? = some z → EqAt A.in1 s v z true) :
    RcAt A s (.ref x) (.ref y) true ∧ EqAt A s (.ref x) (.ref y) true := by
  have h := RcAt.lists (A := A) (e := fun _ => true) hx.list hy.list (by simpa using hl) hu (fun j h1 h2 => he j _ _ (by simp) (by simp))
  have e : ((List.range vs.toArray.size).all fun _ => true) = true := List.all_eq_true.mpr fun _ _ => rfl
  rw [e] at h
  refine ⟨h, ?_⟩
  by_cases hne : x = y
  · rw [hne]; exact EqAt.same _
  · exact EqAt.of_refs hne h
theorem eqTexts {x y : Addr} {xs ys : List (Str × Tok)} (hx : IsL s.heap.get? x (strValues xs)) (hy : IsL s.heap.get? y (strValues ys)) (hu : A.units < cLine) (h : xs.map (·.1) = ys.map (·.1)) : EqAt A s (.ref x) (.ref y) true := by
  refine (eqLists hx hy hu (by simpa [strValues] using congrArg List.length h) fun j v z hv hz => ?_).2
  obtain ⟨q, hq, rfl⟩ := strAt hv
  obtain ⟨r, hr, rfl⟩ := strAt hz
  have e : q.1 = r.1 := by
    have h1 : (xs.map (·.1))[j]? = some q.1 := by rw [List.getElem?_map, hq]; rfl
    have h2 : (ys.map (·.1))[j]? = some r.1 := by rw [List.getElem?_map, hr]; rfl
    rw [h, h2] at h1
    injection h1 with h1
    exact h1.symm
  have := EqAt.str_str (A := A.in1) (s := s) q.1 q.2 r.1 r.2
  rw [e, beq_self_eq_true] at this
  rw [e]
  exact this
/-- what is told, and due, of a folder -/
def Ans (fr : List Str) (rows : List (List Str)) (N : Nat) (v : Value) (h : Heap) : Prop :=
  (rows.filter (preB fr) = [] ∧ v = .none) ∨ (rows.filter (preB fr) ≠ [] ∧ ∃ D W Z ws zs, v = .ref D ∧ N ≤ D ∧ N ≤ W ∧ N ≤ Z ∧ IsL h.get? D [.ref W, .ref Z, .bool true] ∧ IsL h.get? W (strValues ws) ∧ IsL h.get? Z (strValues zs) ∧
    ws.map (·.1) = (rows.filter (preB fr)).map pathOf ∧ zs.map (·.1) = (rows.filter fun r => !preB fr r).map pathOf)
theorem Ans.keep {fr : List Str} {rows : List (List Str)} {N M : Nat} {v : Value} {h h' : Heap} (hN : M ≤ N) (k : ∀ a o, N ≤ a → h.get? a = some o → h'.get? a = some o) (x : Ans fr rows N v h) : Ans fr rows M v h' := by
  have up : ∀ {a : Addr} {vs : List Value}, N ≤ a → IsL h.get? a vs → IsL h'.get? a vs := fun ha ⟨n, e⟩ => ⟨n, k _ _ ha e⟩
  rcases x with x | ⟨h1, D, W, Z, ws, zs, h2, h3, h4, h5, h6, h7, h8, h9, h10⟩
  · exact .inl x
  · exact .inr ⟨h1, D, W, Z, ws, zs, h2, Nat.le_trans hN h3, Nat.le_trans hN h4, Nat.le_trans hN h5, up h3 h6, up h4 h7, up h5 h8, h9, h10⟩
theorem Ans.later {fr : List Str} {rows : List (List Str)} {N : Nat} {v : Value} {s s' : Shared} (x : Ans fr rows N v s.heap) (L : Later N s s') : Ans fr rows N v s'.heap :=
  x.keep (Nat.le_refl _) fun _ _ ha e => (Since.ge (L.le _ _ (Since.of ha e))).2
theorem Ans.eq {fr : List Str} {rows : List (List Str)} {N M : Nat} {v z : Value} (x : Ans fr rows N v s.heap) (y : Ans fr rows M z s.heap) (hu : A.units + 2 < cLine) : EqAt A s v z true := by
  rcases x with ⟨h1, rfl⟩ | ⟨h1, D, W, Z, ws, zs, rfl, -, -, -, h6, h7, h8, h9, h10⟩
  · rcases y with ⟨_, rfl⟩ | ⟨g1, _⟩
    · exact EqAt.same _
    · exact absurd h1 g1
  · rcases y with ⟨g1, _⟩ | ⟨g1, D', W', Z', ws', zs', rfl, -, -, -, g6, g7, g8, g9, g10⟩
    · exact absurd g1 h1
    · refine (eqLists h6 g6 (by omega) rfl fun j v z hv hz => ?_).2
      match j, hv, hz with
      | 0, hv, hz =>
        injection hv with hv; injection hz with hz; subst hv hz
        exact eqTexts h7 g7 (by show A.units + 1 < _; omega) (h9.trans g9.symm)
      | 1, hv, hz =>
        injection hv with hv; injection hz with hz; subst hv hz
        exact eqTexts h8 g8 (by show A.units + 1 < _; omega) (h10.trans g10.symm)
      | 2, hv, hz =>
        injection hv with hv; injection hz with hz; subst hv hz
        exact EqAt.same _
      | j + 3, hv, hz => exact (nomatch hv)
/-- a tuple display behind its items -/
theorem mkT {L : Addr} {m : Str → Option Value} {vs : List Value} {t : Nat} {Q : Value → Shared → Prop} (F : Fn s₀ L m P s) (ht : s.toks ≤ t) (hsz : vs.length ≤ 1000)
    (h : ∀ a s' P', P.le P' → P' a = some (tobj vs) → Fn s₀ L m P' s' → Grew s s' → Q (.ref a) s') :
    wpAny (model prog w) A (newTuple vs) Q E { s with toks := t } :=
  mkTup (h s.heap.objs.size _ (P.set s.heap.objs.size (tobj vs)) (PM.le_set (F.fresh (Nat.le_refl _))) (PM.set_self _ _ _) (F.push (tobj vs) (t := t) rfl ht) (Grew.push s _ t ht)) (Nat.le_trans hsz (by decide))
theorem eqPair {x y M U W Z : Addr} {ms ws : List (Str × Tok)} {Q : Value → Shared → Prop} (hx : s.heap.get? x = some (tobj [.ref M, .ref U])) (hy : s.heap.get? y = some (tobj [.ref W, .ref Z])) (hM : IsL s.heap.get? M (strValues ms)) (hU : IsL s.heap.get? U []) (hW : IsL s.heap.get? W (strValues ws)) (hZ : IsL s.heap.get? Z [])
    (he : ms.map (·.1) = ws.map (·.1)) (hu : A.units + 2 < cLine) (h : Q (.bool true) s) : wpAny (model prog w) A (compareOp .Eq (.ref x) (.ref y)) Q E s := by
  refine eq_tupleAt (e := fun _ => true) (items := [Value.ref M, .ref U].toArray) (items2 := [Value.ref W, .ref Z].toArray) ⟨_, hx, rfl, 0, rfl⟩ ⟨_, hy, rfl, 0, rfl⟩ (by omega) (fun j h1 h2 => ?_) h
  match j, h1, h2 with
  | 0, _, _ => exact eqTexts hM hW (by show A.units + 1 < _; omega) he
  | 1, _, _ => exact eqTexts (xs := []) (ys := []) hU hZ (by show A.units + 1 < _; omega) rfl
  | j + 2, h1, _ => exact absurd h1 (by simp)
theorem rise_of {zs : List (List Str × Tok)} (hz : ∀ z ∈ zs, z.1 ∈ allRows) (hasc : zs.Pairwise fun x y => rank x.1 < rank y.1) : Rise (pathsOf zs) := fun i j q r hij hq hr => by
  rw [List.getElem?_map] at hq hr
  cases eq : zs[i]? with
  | none => rw [eq] at hq; cases hq
  | some x =>
    cases er : zs[j]? with
    | none => rw [er] at hr; cases hr
    | some y =>
      rw [eq] at hq; rw [er] at hr
      injection hq with hq; injection hr with hr
      subst hq hr
      obtain ⟨hi, ei⟩ := List.getElem?_eq_some_iff.mp eq
      obtain ⟨hj, ej⟩ := List.getElem?_eq_some_iff.mp er
      have := List.pairwise_iff_getElem.mp hasc i j hi hj hij
      rw [ei, ej] at this
      exact path_lt _ (hz _ (List.mem_of_getElem? eq)) _ (hz _ (List.mem_of_getElem? er)) this
end Mine
end

section
open PySem PySem.W PyProof.Rows PySem.Calls
set_option Elab.async false
set_option maxRecDepth 100000
set_option linter.unusedVariables false
namespace Mine
variable {prog : Program} {w : World} {A : Around} {E : Value → Shared → Prop} {s₀ s : Shared} {P : PM} {p : Program} {loose : List Str}

local macro_rules | `(tactic| walk_at "tk") => `(tactic| first | omega | (dsimp only; omega))
local macro_rules | `(tactic| walk_at "lk") => `(tactic| first | rfl | assumption | exact put_self _ _ _ | exact put_of (by decide) (by first | assumption | exact put_self _ _ _ | exact put_of (by decide) (by assumption)))
local macro_rules | `(tactic| walk_at "eval Name") => `(tactic| first
  | refine nmL (by first | assumption | exact Fn.toks (by assumption) _ (by walk_at "tk")) (by walk_at "lk") ?_
  | refine nmG (by first | assumption | exact Ok.toks (by assumption) _ (by walk_at "tk")) (by assumption) rfl ?_
  | refine nmB (by first | assumption | exact Ok.toks (by assumption) _ (by walk_at "tk")) (by assumption) rfl (by boot_by_name) ?_)
local macro_rules | `(tactic| walk_at "loadName") => `(tactic| refine ldL (by first | assumption | exact Fn.toks (by assumption) _ (by walk_at "tk")) (by walk_at "lk") ?_)
local macro_rules | `(tactic| walk_at "storeName") => `(tactic| (refine stLt (by first | assumption | exact Fn.toks (by assumption) _ (by walk_at "tk")) ?_; intro s' F' T'))

theorem sub_ie_be : isSubtype (.type "IndexError") (.type "BaseException") = pure true := by rw [isSubtype_type]; kernel_rfl
theorem sub_ie_ie : isSubtype (.type "IndexError") (.type "IndexError") = pure true := by rw [isSubtype_type]; kernel_rfl
theorem sub_ie_mt : isSubtype (.type ((Manifest.find? "IndexError").elim "type" fun x => x.metatype)) (.type "tuple") = pure false := by
  have e : ((Manifest.find? "IndexError").elim "type" fun x => x.metatype) = "type" := by decide +kernel
  rw [e, isSubtype_type]; kernel_rfl
noncomputable def sldHs (w : World) : List ExceptHandler := match (bodyAt w 134).drop 3 with | .While _ [.Try _ hs _ _ _] _ _ :: _ => hs | _ => []
/-- sorted_list_difference's loop is left -/
structure SlE (s₀ s : Shared) (outer : List Env) (out : List (Str × Tok)) (L M U : Addr) (m : Str → Option Value) (P : PM) (s₂ : Shared) : Prop extends Fn s₀ L m P s₂ where
  n5 : m "missing" = some (.ref M)
  n6 : m "unexpected" = some (.ref U)
  hM : IsL P M (strValues out)
  hU : IsL P U []
  gM : s.heap.objs.size ≤ M
  gU : s.heap.objs.size ≤ U
  old : OldF (framesOf outer) s.heap P
  above : s.heap.objs.size = L

set_option maxHeartbeats 1000000 in
theorem sld_handle {a b L M U : Addr} {pre ys post : List (Str × Tok)} {outer : List Env} {m : Str → Option Value} {s_r s₃ : Shared} {v ctx : Value} {R : Flow → Shared → Prop} (K : Sl s₀ s outer a b (pre ++ ys ++ post) ys L M U (pre.length + ys.length) ys.length (strValues pre) m P s_r) (X : Fly s_r (envAt w 134 L :: outer) "IndexError" true v s₃ ctx)
    (T : Text (KT w) p loose s₀.heap) (hd : A.depth + 10 < recursionLimit) (hu : A.units + 100 < cLine) (hh : A.handled = none) (hsz : (pre ++ ys ++ post).length ≤ 1000) (hfr : A.frames = some outer) (hfb : ∀ f ∈ framesOf outer, s₀.heap.get? f = none)
    (haf : a ∉ framesOf outer) (hbf : b ∉ framesOf outer) (hMf : M ∉ framesOf outer) (hUf : U ∉ framesOf outer)
    (hR : ∀ m' P' s', SlE s₀ s outer (pre ++ post) L M U m' P' s' → R .brk s') :
    wpAny (model prog w) (A.deeper (envAt w 134 L)) (noteFrame v (envAt w 134 L)) (fun _ s₂ => wpAny (model prog w) (A.deeper (envAt w 134 L)) (setFlight v none) (fun _ s₃ => wpAny (model prog w) (A.deeper (envAt w 134 L)) (handleBy v (envAt w 134 L) (sldHs w)) R E s₃) E s₂) E s₃ := by
  have hfr' : (A.deeper (envAt w 134 L)).frames = some (envAt w 134 L :: outer) := Around.frames_deeper hfr
  refine note hfr' rfl X fun s₄ X₄ => flight X₄ fun s₅ X₅ => ?_
  obtain ⟨F₅, hle⟩ : Fn s₀ (envAt w 134 L).locals m (PM.del s₅.heap.get? L) s₅ ∧ (P.wo (framesOf outer)).le (PM.del s₅.heap.get? L) := X₅.again K.toFn rfl hfb
  obtain ⟨ev, oe, vs, rfl, hne, hee, hce, -⟩ := X₅.exc
  have O₅ := F₅.toOk
  refine wpAny_handleBy_builtin (X := "IndexError") (T := "IndexError") (b := true) sub_ie_be sub_ie_mt sub_ie_ie ?_
  refine nmB O₅ T rfl (by boot_by_name) ?_
  refine ⟨rfl, ⟨oe, hee, hce⟩, ?_⟩
  rw [if_pos rfl]
  refine flight X₅ fun s₆ X₆ => ?_
  obtain ⟨F, hle⟩ : Fn s₀ (envAt w 134 L).locals m (PM.del s₆.heap.get? L) s₆ ∧ (P.wo (framesOf outer)).le (PM.del s₆.heap.get? L) := X₆.again K.toFn rfl hfb
  have old : OldF (framesOf outer) s.heap (PM.del s₆.heap.get? L) := K.old.fly X₆ K.toFn rfl (by rw [← K.above]; exact Heap.get?_none_of_le (Nat.le_refl _))
  have ha := (K.ha.wo haf).mono hle
  have hb := (K.hb.wo hbf).mono hle
  have hM := (K.hM.wo hMf).mono hle
  have hU := (K.hU.wo hUf).mono hle
  clear hle X₆ X₅ X₄ X F₅ O₅ hee
  generalize PM.del s₆.heap.get? L = P₆ at *
  have O := F.toOk
  have n1 := K.n1
  have n2 := K.n2
  have n5 := K.n5
  have n6 := K.n6
  obtain ⟨ti, n3⟩ := K.n3
  obtain ⟨tj, n4⟩ := K.n4
  refine wpAny_execs_cons ?_
  iterate 3 walk1
  obtain ⟨c, hMo⟩ := hM
  refine getm_extend (O.keep _ _ hMo) ?_
  have sv : ∀ l : List (Str × Tok), (strValues l).length = l.length := fun l => List.length_map _
  have hl3 : pre.length + ys.length + post.length ≤ 1000 := by simpa [List.length_append, Nat.add_assoc] using hsz
  iterate 9 walk1
  refine slice_Lf (vs := strValues (pre ++ ys ++ post)) (a := pre.length + ys.length) (ha.mono O.keep) (by rw [sv]; exact Nat.le_trans hsz (by decide)) ?_
  obtain ⟨P₇, up₇, new₇, F₇⟩ := F.sliced (.int (pre.length + ys.length : Nat) ti) .none ((strValues (pre ++ ys ++ post)).drop (pre.length + ys.length)) s₆.toks (Nat.le_refl _)
  have ed : (strValues (pre ++ ys ++ post)).drop (pre.length + ys.length) = strValues post := by
    have e : pre.length + ys.length = (pre ++ ys).length := by rw [List.length_append]
    unfold strValues
    rw [← List.map_drop, e, List.drop_left]
  rw [ed] at new₇ F₇ ⊢
  obtain ⟨c7, new₇⟩ := new₇
  have O₇ := F₇.toOk
  iterate 1 walk1
  refine call_extend (O₇.keep _ _ (up₇ _ _ hMo)) (O₇.keep _ _ new₇) (by rw [sv, sv]; omega) fun h₈ n₈ hM₈ hs₈ => ?_
  have F₈ := F₇.setAt (t := s₆.toks) (up₇ _ _ hMo) K.bM hM₈ hs₈
  have e8 : strValues pre ++ strValues post = strValues (pre ++ post) := by unfold strValues; rw [List.map_append]
  rw [e8] at F₈ hM₈
  have hb₈ : IsL (P₇.set M (lobj (strValues (pre ++ post)) n₈)) b (strValues ys) := (hb.mono up₇).set (Ne.symm K.Mb)
  have hU₈ : IsL (P₇.set M (lobj (strValues (pre ++ post)) n₈)) U [] := (hU.mono up₇).set (Ne.symm K.MU)
  have hMp : (P₇.set M (lobj (strValues (pre ++ post)) n₈)) M = some (lobj (strValues (pre ++ post)) n₈) := PM.set_self _ _ _
  have old₈ : OldF (framesOf outer) s.heap (P₇.set M (lobj (strValues (pre ++ post)) n₈)) := (old.mono up₇).set K.gM
  generalize P₇.set M (lobj (strValues (pre ++ post)) n₈) = P₈ at *
  have O₈ := F₈.toOk
  dsimp only
  iterate 4 walk1
  obtain ⟨cu, hUo⟩ := hU₈
  refine getm_extend (O₈.keep _ _ hUo) ?_
  iterate 9 walk1
  refine slice_Lf (s := { s₆ with heap := h₈ }) (vs := strValues ys) (a := ys.length) (hb₈.mono O₈.keep) (by rw [sv]; exact Nat.le_trans (by omega) (show 1000 ≤ sizeLine by decide)) ?_
  obtain ⟨P₉, up₉, new₉, F₉⟩ := F₈.sliced (.int (ys.length : Nat) tj) .none ((strValues ys).drop ys.length) s₆.toks (Nat.le_refl _)
  have ed9 : (strValues ys).drop ys.length = [] := by rw [← sv ys]; exact List.drop_length
  rw [ed9] at new₉ F₉ ⊢
  obtain ⟨c9, new₉⟩ := new₉
  have O₉ := F₉.toOk
  iterate 1 walk1
  refine call_extend (O₉.keep _ _ (up₉ _ _ hUo)) (O₉.keep _ _ new₉) (by decide) fun h₁₀ n₁₀ hU₁₀ hs₁₀ => ?_
  have F₁₀ := F₉.setAt (t := s₆.toks) (up₉ _ _ hUo) K.bU hU₁₀ hs₁₀
  have hMq : (P₉.set U (lobj ([] ++ []) n₁₀)) M = some (lobj (strValues (pre ++ post)) n₈) := (PM.set_ne K.MU).trans (up₉ _ _ hMp)
  dsimp only
  iterate 2 walk1
  exact hR _ _ _ { F₁₀ with
    n5 := n5
    n6 := n6
    hM := ⟨_, hMq⟩
    hU := ⟨_, PM.set_self _ _ _⟩
    gM := K.gM
    gU := K.gU
    old := (old₈.mono up₉).set K.gU
    above := K.above }
end Mine
end

section
open PySem PySem.W PyProof.Rows PySem.Calls
set_option Elab.async false
set_option maxRecDepth 100000
set_option linter.unusedVariables false
namespace Mine
variable {prog : Program} {w : World} {A : Around} {E : Value → Shared → Prop} {s₀ s : Shared} {P : PM} {p : Program} {loose : List Str}

local macro_rules | `(tactic| walk_at "tk") => `(tactic| first | omega | (dsimp only; omega))
local macro_rules | `(tactic| walk_at "lk") => `(tactic| first | rfl | assumption | exact put_self _ _ _ | exact put_of (by decide) (by first | assumption | exact put_self _ _ _ | exact put_of (by decide) (by assumption)))
local macro_rules | `(tactic| walk_at "eval Name") => `(tactic| first
  | refine nmL (by first | assumption | exact Fn.toks (by assumption) _ (by walk_at "tk")) (by walk_at "lk") ?_
  | refine nmG (by first | assumption | exact Ok.toks (by assumption) _ (by walk_at "tk")) (by assumption) rfl ?_
  | refine nmB (by first | assumption | exact Ok.toks (by assumption) _ (by walk_at "tk")) (by assumption) rfl (by boot_by_name) ?_)
local macro_rules | `(tactic| walk_at "loadName") => `(tactic| refine ldL (by first | assumption | exact Fn.toks (by assumption) _ (by walk_at "tk")) (by walk_at "lk") ?_)
local macro_rules | `(tactic| walk_at "storeName") => `(tactic| (refine stLt (by first | assumption | exact Fn.toks (by assumption) _ (by walk_at "tk")) ?_; intro s' F' T'))

set_option maxHeartbeats 1000000 in
/-- sorted_list_difference of a list and a stretch of it -/
theorem sld_ok {a b : Addr} {pre ys post : List (Str × Tok)} {outer : List Env} {Q : Value → Shared → Prop} (O : Ok s₀ P s) (T : Text (KT w) p loose s₀.heap) (hd : A.depth + 10 < recursionLimit) (hu : A.units + 100 < cLine) (hh : A.handled = none)
    (ha : IsL P a (strValues (pre ++ ys ++ post))) (hb : IsL P b (strValues ys)) (hy : 0 < ys.length) (hsz : (pre ++ ys ++ post).length ≤ 1000) (hord : Rise (pre ++ ys ++ post))
    (hfr : A.frames = some outer) (hff : s.heap.FunFrames {} outer) (hfb : ∀ f ∈ framesOf outer, s₀.heap.get? f = none) (haf : a ∉ framesOf outer) (hbf : b ∉ framesOf outer)
    (hQ : ∀ D M U s', GrewF (framesOf outer) s s' → s'.heap.get? D = some (tobj [.ref M, .ref U]) → IsL s'.heap.get? M (strValues (pre ++ post)) → IsL s'.heap.get? U [] → s.heap.objs.size ≤ D → s.heap.objs.size ≤ M → s.heap.objs.size ≤ U → Q (.ref D) s') :
    wpAny (model prog w) A (call (.ref 134) [.ref a, .ref b]) Q E s := by
  refine @sld_A prog w A E s₀ s P p loose a b (pre ++ ys ++ post) ys outer Q O T hd hu hh ha hb fun L M U m P₂ s₂ K => ?_
  have hfz : ∀ f ∈ framesOf outer, f < s.heap.objs.size := fun f hf => let ⟨_, o, ho, _⟩ := hff.mem hf; Heap.lt_size ho
  have hMf : M ∉ framesOf outer := fun h => absurd (hfz M h) (Nat.not_lt.mpr K.gM)
  have hUf : U ∉ framesOf outer := fun h => absurd (hfz U h) (Nat.not_lt.mpr K.gU)
  refine wpAny_execs_cons ?_
  refine wpAny_While ?_
  have tail : ∀ m' P' s', SlE s₀ s outer (pre ++ post) L M U m' P' s' → wpAny (model prog w) (A.deeper (envAt w 134 L)) (execs ((bodyAt w 134).drop 4) (envAt w 134 L)) (fun f s' => ∃ v, f = .ret v ∧ (s.toks ≤ s'.toks → Q v s')) (fun _ _ => False) s' := by
    intro m' P' s' K'
    have F' := K'.toFn
    have O' := F'.toOk
    have n5 := K'.n5
    have n6 := K'.n6
    refine wpAny_execs_cons ?_
    iterate 7 walk1
    refine mkTup ?_ (by show 2 ≤ sizeLine; decide)
    refine ⟨_, rfl, fun htk => ?_⟩
    have F₂ := F'.push (tobj [.ref M, .ref U]) (t := s'.toks)
    have lL : s.heap.objs.size ≤ s'.heap.objs.size := by rw [K'.above]; exact Nat.le_of_lt F'.lt
    have up := PM.le_set (o := tobj [.ref M, .ref U]) (F'.fresh (Nat.le_refl _))
    exact hQ _ M U _ (F₂.leaveF O (K'.old.mono up) K'.above htk) (Heap.get?_push_size _ rfl) ((K'.hM.mono up).mono F₂.keep) ((K'.hU.mono up).mono F₂.keep) lL K'.gM K'.gU
  refine codeAny_whileLoop (fun n s' => ∃ i j ms m P', Sl s₀ s outer a b (pre ++ ys ++ post) ys L M U i j ms m P' s' ∧ Pl pre ys i j ms ∧ n = (pre ++ ys ++ post).length - i) ?_ _
    ⟨0, 0, [], m, P₂, K, ⟨.inl ⟨rfl, Nat.zero_le _⟩, hy, rfl⟩, rfl⟩
  rintro n s' ⟨i, j, ms, m', P', K', hp, rfl⟩
  iterate 4 walk1
  refine wpAny_execs_cons ?_
  refine wpAny_Try_except ?_
  refine wpAny_mono (@sld_body prog w A s₀ s P' p loose a b L M U pre ys post outer i j ms m' s' K' T hd hu hh hp hsz hord
    (fun s₃ => ∃ i' j' ms' m'' P'', i < i' ∧ Sl s₀ s outer a b (pre ++ ys ++ post) ys L M U i' j' ms' m'' P'' s₃ ∧ Pl pre ys i' j' ms') _ hfr hff hfb haf hbf hMf hUf ?_ ?_) ?_ fun _ _ e => e
  · exact fun v s_r s₃ m₁ P₁ ctx S X => @sld_handle prog w A _ s₀ s P₁ p loose a b L M U pre ys post outer m₁ s_r s₃ v ctx _ S X T hd hu hh hsz hfr hfb haf hbf hMf hUf fun m₂ P₂ s₂ KE => tail m₂ P₂ s₂ KE
  · exact fun i' j' ms' m₁ P₁ s₃ hlt S hp' => ⟨i', j', ms', m₁, P₁, hlt, S, hp'⟩
  · rintro f s₃ ⟨rfl, i', j', ms', m₁, P₁, hlt, S, hp'⟩
    refine wpAny_execs_nil ?_
    refine wpAny_execs_nil ?_
    have hb' : i' ≤ (pre ++ ys ++ post).length := by
      have := hp'.lt
      simp only [List.length_append]
      rcases hp'.at' with ⟨h, _⟩ | h <;> omega
    exact ⟨_, by omega, i', j', ms', m₁, P₁, S, hp', rfl⟩
end Mine
end

section
open PySem PySem.W PyProof.Rows PySem.Calls PySem.SeqAt
set_option Elab.async false
set_option maxRecDepth 100000
set_option linter.unusedVariables false
namespace Mine
section
variable {prog : Program} {w : World} {A : Around} {E : Value → Shared → Prop} {env : Env}
theorem comp_eF {fs : List Addr} {s₀ s : Shared} {elt iter : Expr} {x : Str} {px : Pos} {ifs : List Expr} {scope : Scope} {cl : List (Str × Addr)} {pos : Pos} {Q : Value → Shared → Prop}
    (hh : A.handled = none) (hclos : closureFor scope env = pure cl) (hcell : ∀ y ∈ scope.names, y.2 ≠ .cell) (hkind : scope.kind = .function)
    (hnames : ∀ y ∈ scope.names, y.2 = .local → scope.names.lookup y.1 = some .local) (hx : scope.names.lookup x = some .local)
    (h : wpAny (model prog w) A (eval iter env) (fun xv s₁ => ∃ l vs m P, ∃ J : Nat → List Value → Shared → Prop, xv = .ref l ∧ Fn s₀ env.locals m P s₁ ∧ IsLT P l vs ∧ vs.length ≤ sizeLine ∧ (∀ s, J 0 [] s) ∧ (∀ f ∈ fs, P f = none ∧ f < s₁.heap.objs.size) ∧
      (∀ k ys s s', J k ys s → Later (s₁.heap.objs.size + 3) s s' → J k ys s') ∧ TurnF fs prog w A s₀ s₁ (fun C => compEnvC scope cl C env) x ifs elt vs P J ∧
      (∀ D ys s', GrewF fs s₁ s' → IsL (New s₁.heap s'.heap) D ys → J vs.length ys s' → Q (.ref D) s')) E s)
    (hs : ∀ x, foldedSetIterable iter env x = pure x := by intro _; rfl) :
    wpAny (model prog w) A (eval (.ListComp elt [⟨.Name x px, iter, ifs, 0⟩] scope pos) env) Q E s := by
  rw [eval_ListComp]
  refine wpAny_comprehension_free (use := none) rfl hs hclos hkind hnames (wpAny_mono h (fun xv s₁ h₁ => ?_) fun _ _ e => e)
  obtain ⟨l, vs, m, P, J, rfl, F, hl, hsz, h0, hfs, mono, turn, done⟩ := h₁
  refine comp_blockF (fs := fs) (RR := fun acc C => compPost (model prog w) A E none Q acc C) hh F hl hsz hcell hkind hx h0 mono hfs turn ?_
  intro D C ys s' hD hDC hC hsame hns hpl hJ hk hl' ht
  obtain ⟨m', hn⟩ := hns
  refine ⟨m', hn, fun h'' hs'' => ?_⟩
  obtain ⟨hq, tq, rfl⟩ := hsame
  have hCz : C < h''.objs.size := by rw [hs''.1]; exact hn.lt
  have hkC : ∀ b o, s₁.heap.get? b = some o → b ≠ C := fun b o e => Nat.ne_of_lt (Nat.lt_of_lt_of_le (Heap.lt_size e) (Nat.le_of_lt (Nat.lt_of_le_of_lt hD hDC)))
  have G : GrewF fs s₁ { s₁ with heap := h'', toks := tq } := ⟨⟨h'', tq, rfl⟩, fun b o hb e => hs''.extBut b o (hkC b o e) (hk b o hb e), fun b o hb e => let ⟨sl, x⟩ := hl' b o hb e; ⟨sl, hs''.extBut b _ (hkC b o e) x⟩, Nat.le_of_lt (Nat.lt_of_le_of_lt hD (Nat.lt_trans hDC hCz)), ht⟩
  obtain ⟨n, hpl⟩ := hpl
  refine done D ys.toList _ G (IsL.new ⟨n, ?_⟩ hD) (mono _ _ _ _ hJ (.of (fun a o ha e => hs''.extBut a o (Nat.ne_of_gt (Nat.lt_of_lt_of_le hC ha)) e) (Nat.le_refl _)))
  have := hs''.extBut D _ (Nat.ne_of_lt hDC) hpl
  simpa using this


/-- one turn over the values of xs -/
abbrev OneF (fs : List Addr) (prog : Program) (w : World) (A : Around) (s₀ s₁ : Shared) (cenv : Addr → Env) (x : Str) (elt : Expr) {α : Type} (xs : List α) (val : α → Value) (P : PM) (R : α → Value → Shared → Prop) : Prop :=
  ∀ (k : Nat) (z : α) (C : Addr) (m' : Str → Option Value) (s₃ : Shared) (E' : Value → Shared → Prop), xs[k]? = some z → Fn s₀ C m' P s₃ → m' x = some (val z) → s₁.heap.objs.size + 3 ≤ s₃.heap.objs.size → s₁.toks ≤ s₃.toks → GrewF fs s₁ s₃ →
      wpAny (model prog w) A (eval elt (cenv C)) (fun y s₅ => GrewF fs s₃ s₅ ∧ R z y s₅) E' s₃
theorem turnF_of {fs : List Addr} {s₀ s₁ : Shared} {cenv : Addr → Env} {x : Str} {elt : Expr} {α : Type} {xs : List α} {val : α → Value} {P : PM} {R : α → Value → Shared → Prop} (hfs : ∀ f ∈ fs, f < s₁.heap.objs.size)
    (mono : ∀ z v s s', R z v s → Later (s₁.heap.objs.size + 3) s s' → R z v s') (one : OneF fs prog w A s₀ s₁ cenv x elt xs val P R) :
    TurnF fs prog w A s₀ s₁ cenv x [] elt (xs.map val) P (fun k ys s => All2 (fun z v => R z v s) (xs.take k) ys) := by
  intro k v C m' ys s₃ E' hv hJ F hm hz ht G
  rw [List.getElem?_map] at hv
  cases hx : xs[k]? with
  | none => rw [hx] at hv; cases hv
  | some z =>
    rw [hx] at hv
    injection hv with hv
    subst hv
    have ht' : xs.take (k + 1) = xs.take k ++ [z] := by rw [List.take_add_one, hx]; rfl
    refine tests_nil ⟨(Grew.refl _).f fs, ?_⟩
    rw [if_pos rfl]
    refine wpAny_mono (one k z C m' s₃ E' hx F hm hz ht G) (fun y s₅ h₅ => ⟨h₅.1, ?_⟩) fun _ _ e => e
    show All2 _ (xs.take (k + 1)) _
    rw [ht']
    exact (hJ.imp fun _ _ r => mono _ _ _ _ r (h₅.1.later fun f hf => Nat.lt_of_lt_of_le (hfs f hf) (Nat.le_add_right _ 3))).snoc h₅.2
theorem comp_EF {fs : List Addr} {s₀ : Shared} {α : Type} {s : Shared} {elt iter : Expr} {x : Str} {px : Pos} {scope : Scope} {cl : List (Str × Addr)} {pos : Pos} {Q : Value → Shared → Prop}
    (hh : A.handled = none) (hclos : closureFor scope env = pure cl) (hcell : ∀ y ∈ scope.names, y.2 ≠ .cell) (hkind : scope.kind = .function)
    (hnames : ∀ y ∈ scope.names, y.2 = .local → scope.names.lookup y.1 = some .local) (hx : scope.names.lookup x = some .local)
    (h : wpAny (model prog w) A (eval iter env) (fun xv s₁ => ∃ l m P, ∃ (xs : List α) (val : α → Value) (R : α → Value → Shared → Prop), xv = .ref l ∧ Fn s₀ env.locals m P s₁ ∧ IsLT P l (xs.map val) ∧ xs.length ≤ sizeLine ∧ (∀ f ∈ fs, P f = none ∧ f < s₁.heap.objs.size) ∧
      (∀ z v s s', R z v s → Later (s₁.heap.objs.size + 3) s s' → R z v s') ∧ OneF fs prog w A s₀ s₁ (fun C => compEnvC scope cl C env) x elt xs val P R ∧
      (∀ D ys s', GrewF fs s₁ s' → IsL (New s₁.heap s'.heap) D ys → All2 (fun z v => R z v s') xs ys → Q (.ref D) s')) E s)
    (hs : ∀ x, foldedSetIterable iter env x = pure x := by intro _; rfl) :
    wpAny (model prog w) A (eval (.ListComp elt [⟨.Name x px, iter, [], 0⟩] scope pos) env) Q E s := by
  refine comp_eF (fs := fs) (s₀ := s₀) hh hclos hcell hkind hnames hx (wpAny_mono h (fun xv s₁ h₁ => ?_) fun _ _ e => e) hs
  obtain ⟨l, m, P, xs, val, R, rfl, F, hl, hsz, hfs, mono, one, done⟩ := h₁
  refine ⟨l, xs.map val, m, P, (fun k ys s => All2 (fun z v => R z v s) (xs.take k) ys), rfl, F, hl, by rw [List.length_map]; exact hsz, ?_, hfs, ?_, turnF_of (fun f hf => (hfs f hf).2) mono one, fun D ys s' G hD hJ => done D ys s' G hD ?_⟩
  · intro s
    show All2 _ (xs.take 0) []
    rw [List.take_zero]
    exact .nil
  · exact fun k ys s s' hJ L => hJ.imp fun _ _ r => mono _ _ _ _ r L
  · rw [List.length_map, List.take_length] at hJ
    exact hJ
section
variable {s₀ s s' : Shared} {P : PM} {L : Addr} {m : Str → Option Value} {fs : List Addr}
theorem GrewF.any (a : GrewF fs s s') {b : Addr} {o : Obj} (e : s.heap.get? b = some o) : ∃ sl, s'.heap.get? b = some { o with slots := sl } := by
  by_cases h : b ∈ fs
  · exact a.slots b o h e
  · exact ⟨o.slots, a.keep b o h e⟩
theorem GrewF.ns (a : GrewF fs s s') {b : Addr} {m : Str → Option Value} (h : s.heap.Ns b m) : s'.heap.Ns b m := by
  obtain ⟨o, es, ep, ho, hd, r⟩ := h
  obtain ⟨sl, e⟩ := a.any ho
  exact ⟨_, es, ep, e, hd, r⟩
theorem GrewF.ff (a : GrewF fs s s') {l : List Env} (h : s.heap.FunFrames {} l) : s'.heap.FunFrames {} l :=
  h.of_keeps fun b o e _ => let ⟨_, e'⟩ := a.any e; ⟨_, e', rfl⟩
/-- a frame behind a call that changed slots of the frames fs -/
theorem Fn.callF (F : Fn s₀ L m P s) (G : GrewF fs s s') (hfs : ∀ f ∈ fs, P f = none) : Fn s₀ L m (P.join (New s.heap s'.heap)) s' ∧ (New s.heap s'.heap).le (P.join (New s.heap s'.heap)) := by
  obtain ⟨⟨h, tk, rfl⟩, k, l, z, t⟩ := id G
  obtain ⟨h₁, tk₁, rfl⟩ := id F.same
  refine ⟨⟨⟨⟨h, tk, rfl⟩, fun a o e => ?_, PM.le_trans F.base (PM.le_join_left _ _), Nat.lt_of_lt_of_le F.tok t⟩, G.ns F.ns, ?_⟩, F.toOk.new_le _⟩
  · unfold PM.join at e
    cases q : P a with
    | some x => rw [q] at e; cases e; exact k a _ (fun hf => by rw [hfs a hf] at q; cases q) (F.keep a _ q)
    | none => rw [q] at e; exact (New.ge e).2
  · unfold PM.join New
    rw [F.hL]
    exact if_pos F.lt
end
end
end Mine
end

section
open PySem PySem.W PyProof.Rows PySem.Calls
set_option Elab.async false
set_option maxRecDepth 100000
set_option linter.unusedVariables false
namespace Mine
variable {prog : Program} {w : World} {A : Around} {E : Value → Shared → Prop} {s₀ s : Shared} {P : PM} {p : Program} {loose : List Str}

local macro_rules | `(tactic| walk_at "tk") => `(tactic| first | omega | (dsimp only; omega))
local macro_rules | `(tactic| walk_at "lk") => `(tactic| first | rfl | assumption | exact put_self _ _ _ | exact put_of (by decide) (by first | assumption | exact put_self _ _ _ | exact put_of (by decide) (by assumption)))
local macro_rules | `(tactic| walk_at "eval Name") => `(tactic| first
  | refine nmL (by first | assumption | exact Fn.toks (by assumption) _ (by walk_at "tk")) (by walk_at "lk") ?_
  | refine nmG (by first | assumption | exact Ok.toks (by assumption) _ (by walk_at "tk")) (by assumption) rfl ?_
  | refine nmB (by first | assumption | exact Ok.toks (by assumption) _ (by walk_at "tk")) (by assumption) rfl (by boot_by_name) ?_)
local macro_rules | `(tactic| walk_at "loadName") => `(tactic| refine ldL (by first | assumption | exact Fn.toks (by assumption) _ (by walk_at "tk")) (by walk_at "lk") ?_)
local macro_rules | `(tactic| walk_at "storeName") => `(tactic| (refine stLt (by first | assumption | exact Fn.toks (by assumption) _ (by walk_at "tk")) ?_; intro s' F' T'))

set_option maxHeartbeats 400000 in
theorem told_D {a L D W : Addr} {zs pre ys post : List (List Str × Tok)} {fr : List Str} {t u u' : Tok} {cs : List (Str × Tok)} {m : Str → Option Value} {s₂ : Shared} {P₀ : PM} {outer : List Env} {Q : Value → Shared → Prop} (O : Ok s₀ P₀ s) (K : TdA s₀ s a zs fr t L D cs m P s₂) (T : Text (KT w) p loose s₀.heap)
    (hd : A.depth + 20 < recursionLimit) (hu : A.units + 120 < cLine) (hh : A.handled = none) (C : Cut fr zs pre ys post) (hy : ys ≠ []) (hlen : zs.length ≤ 10) (hz : ∀ z ∈ zs, z.1 ∈ allRows) (hasc : zs.Pairwise fun x y => rank x.1 < rank y.1)
    (hfr : A.frames = some outer) (hff : s.heap.FunFrames {} outer) (hfb : ∀ f ∈ framesOf outer, s₀.heap.get? f = none) (haf : a ∉ framesOf outer)
    (n3 : m "start" = some (.int (pre.length : Nat) u)) (n4 : m "end" = some (.int ((pre.length + ys.length : Nat) : Int) u')) (n5 : m "others" = some (.ref W)) (hW : IsL P W (strValues (pathsOf (pre ++ post)))) (gW : s.heap.objs.size ≤ W)
    (hQ : ∀ v s', GrewF (framesOf outer) s s' → Ans fr (zs.map (·.1)) s.heap.objs.size v s'.heap → Q v s') :
    wpAny (model prog w) (A.deeper (envAt w 144 L)) (execs ((bodyAt w 144).drop 4) (envAt w 144 L)) (fun f s' => s.toks ≤ s'.toks → Q (match f with | .ret v => v | _ => .none) s') (fun _ _ => False) s₂ := by
  have F := K.toFn
  have n1 := K.n1
  have hfr' : (A.deeper (envAt w 144 L)).frames = some (envAt w 144 L :: outer) := Around.frames_deeper hfr
  have hl : (pathsOf zs).length ≤ 10 := by rw [List.length_map]; exact hlen
  have sv : ∀ l : List (Str × Tok), (strValues l).length = l.length := fun l => List.length_map _
  have hcut : pre.length + ys.length ≤ (strValues (pathsOf zs)).length := by rw [sv, List.length_map, C.eq, List.length_append, List.length_append]; omega
  have ez : strValues (pathsOf zs) = strValues (pathsOf pre ++ pathsOf ys ++ pathsOf post) := by rw [C.eq]; unfold pathsOf; rw [List.map_append, List.map_append]
  have ey : ((strValues (pathsOf zs)).drop pre.length).take (pre.length + ys.length - pre.length) = strValues (pathsOf ys) := by
    rw [ez, Nat.add_sub_cancel_left, List.append_assoc]; unfold strValues pathsOf
    rw [List.map_append, List.drop_left' (by rw [List.length_map, List.length_map]), List.map_append, List.take_left' (by rw [List.length_map, List.length_map])]
  refine wpAny_execs_cons ?_
  iterate 11 walk1
  refine sl_ab F (vs := strValues (pathsOf zs)) (a := pre.length) (b := pre.length + ys.length) K.ha (by rw [sv]; exact Nat.le_trans hl (by decide)) (Nat.le_add_right _ _) hcut fun X s₃ P₃ up₃ hX gX F₃ G₃ => ?_
  rw [ey] at hX
  iterate 5 walk1
  refine nmG (v := .ref 134) F₃.toOk T rfl ?_
  refine callF w rfl rfl ?_
  iterate 11 walk1
  refine sl_ab F₃ (vs := strValues (pathsOf zs)) (a := pre.length) (b := pre.length + ys.length) (K.ha.mono up₃) (by rw [sv]; exact Nat.le_trans hl (by decide)) (Nat.le_add_right _ _) hcut fun Y s₄ P₄ up₄ hY gY F₄ G₄ => ?_
  rw [ey] at hY
  iterate 1 walk1
  refine ⟨fun o ho => F₄.toOk.fn T ho, ?_⟩
  have hf : (envAt w 144 L).frame = some L := rfl
  have ef : framesOf (envAt w 144 L :: outer) = L :: framesOf outer := by simp [framesOf, hf]
  have up := PM.le_trans up₃ up₄
  have old₄ := PM.le_trans K.old up
  have hff₄ : s₄.heap.FunFrames {} outer := hff.of_keeps fun b o e _ => ⟨o, F₄.keep _ _ (old₄ b o e), rfl⟩
  have hffe : s₄.heap.FunFrames {} (envAt w 144 L :: outer) := F₄.ffs hff₄ hf (by show ScopeKind.function ≠ ScopeKind.module; decide)
  have hLz : s.heap.objs.size ≤ L := Nat.le_of_eq K.above
  have hfb' : ∀ f ∈ framesOf (envAt w 144 L :: outer), s₀.heap.get? f = none := by
    rw [ef]; exact List.forall_mem_cons.mpr ⟨O.none_of_ge hLz, hfb⟩
  have hfz : ∀ f ∈ framesOf outer, f < s.heap.objs.size := fun f hf => let ⟨_, o, ho, _⟩ := hff.mem hf; Heap.lt_size ho
  have hge : ∀ b, s.heap.objs.size ≤ b → b ≠ L → b ∉ framesOf (envAt w 144 L :: outer) := fun b hb hbL h => by
    rw [ef] at h
    rcases List.mem_cons.mp h with h | h
    · exact hbL h
    · exact absurd (hfz b h) (Nat.not_lt.mpr hb)
  have haf' : a ∉ framesOf (envAt w 144 L :: outer) := fun h => by
    rw [ef] at h
    rcases List.mem_cons.mp h with h | h
    · exact K.ha.ne F.hL h
    · exact haf h
  have hLs : L < s₂.heap.objs.size := F.lt
  have hL3 : L < s₃.heap.objs.size := F₃.lt
  have ha₄ := K.ha.mono up
  rw [ez] at ha₄
  have hYz : 0 < (pathsOf ys).length := by rw [List.length_map]; exact List.length_pos_iff.mpr hy
  have e4 : pathsOf pre ++ pathsOf ys ++ pathsOf post = pathsOf zs := by rw [C.eq]; unfold pathsOf; rw [List.map_append, List.map_append]
  have hsz₄ : (pathsOf pre ++ pathsOf ys ++ pathsOf post).length ≤ 1000 := by rw [e4]; exact Nat.le_trans hl (by decide)
  have hord₄ : Rise (pathsOf pre ++ pathsOf ys ++ pathsOf post) := by rw [e4]; exact rise_of hz hasc
  refine sld_ok (pre := pathsOf pre) (ys := pathsOf ys) (post := pathsOf post) F₄.toOk T (by show A.depth + 1 + 10 < _; omega) (by show A.units + 3 + 100 < _; omega) hh ha₄ hY hYz hsz₄ hord₄ hfr' hffe hfb' haf' (hge Y (Nat.le_trans hLz (Nat.le_trans (Nat.le_of_lt hL3) gY)) (Nat.ne_of_gt (Nat.lt_of_lt_of_le hL3 gY))) fun Dt M U s₅ G₅ hDt hM hU g1 g2 g3 => ?_
  have keep : ∀ {b : Addr} {vs : List Value}, s.heap.objs.size ≤ b → IsL P₄ b vs → IsL s₅.heap.get? b vs ∧ b ≠ L := fun hb h => by
    have hbL := h.ne F₄.hL
    obtain ⟨n, e⟩ := h
    exact ⟨⟨n, G₅.keep _ _ (hge _ hb hbL) (F₄.keep _ _ e)⟩, hbL⟩
  have old₅ : OldF (framesOf outer) s.heap (PM.del s₅.heap.get? L) := fun b o e => by
    have hbL : b ≠ L := Nat.ne_of_lt (Nat.lt_of_lt_of_le (Heap.lt_size e) hLz)
    have e4 := F₄.keep _ _ (old₄ b o e)
    rw [PM.del_ne hbL]
    exact ⟨fun hn => G₅.keep b o (by rw [ef]; simp [hbL, hn]) e4, G₅.any e4⟩
  have F₅ := (((F₄.noframes hfb').callF G₅ fun f hf => PM.wo_mem hf).1).all
  have gXs : s.heap.objs.size ≤ X := Nat.le_trans hLz (Nat.le_trans (Nat.le_of_lt hLs) gX)
  obtain ⟨hX₅, hXL⟩ := keep gXs (hX.mono up₄)
  obtain ⟨hW₅, hWL⟩ := keep gW (hW.mono up)
  have d : ∀ {b : Addr} {vs : List Value}, b ≠ L → IsL s₅.heap.get? b vs → IsL (PM.del s₅.heap.get? L) b vs := fun hb ⟨n, e⟩ => ⟨n, (PM.del_ne hb).trans e⟩
  replace hX₅ := d hXL hX₅
  replace hW₅ := d hWL hW₅
  have l4 : L < s₄.heap.objs.size := F₄.lt
  replace hM := d (Nat.ne_of_gt (Nat.lt_of_lt_of_le l4 g2)) hM
  replace hU := d (Nat.ne_of_gt (Nat.lt_of_lt_of_le l4 g3)) hU
  replace hDt : (PM.del s₅.heap.get? L) Dt = some (tobj [.ref M, .ref U]) := (PM.del_ne (Nat.ne_of_gt (Nat.lt_of_lt_of_le l4 g1))).trans hDt
  clear keep d
  generalize PM.del s₅.heap.get? L = P₅ at *
  have sz₅ : s.heap.objs.size ≤ s₅.heap.objs.size := Nat.le_trans hLz (Nat.le_trans (Nat.le_of_lt l4) G₅.size)
  iterate 6 walk1
  refine mkL (vs := []) (t := s₅.toks) F₅ (Nat.le_refl _) (by decide) fun Z s₆ P₆ up₆ hZ gZ bZ F₆ t₆ z₆ G₆ => ?_
  iterate 1 walk1
  refine mkT (t := s₆.toks) F₆ (Nat.le_refl _) (by show 2 ≤ 1000; decide) fun tp s₇ P₇ up₇ htp F₇ G₇ => ?_
  have upx := PM.le_trans up₆ up₇
  have he : (pathsOf pre ++ pathsOf post).map (·.1) = (pathsOf (pre ++ post)).map (·.1) := by unfold pathsOf; rw [List.map_append (l₁ := pre)]
  refine eqPair (F₇.keep _ _ (upx _ _ hDt)) (F₇.keep _ _ htp) ((hM.mono upx).mono F₇.keep) ((hU.mono upx).mono F₇.keep) ((hW₅.mono upx).mono F₇.keep) ((hZ.mono up₇).mono F₇.keep) he (by show A.units + 3 + 2 < _; omega) ?_
  iterate 1 walk1
  refine mkL (vs := [.ref X, .ref W, .bool true]) (t := s₇.toks) F₇ (Nat.le_refl _) (by show 3 ≤ 1000; decide) fun R s₈ P₈ up₈ hR gR bR F₈ t₈ z₈ G₈ => ?_
  have upy := PM.le_trans upx up₈
  have pm : ∀ l : List (List Str × Tok), (pathsOf l).map (·.1) = (l.map (·.1)).map pathOf := fun l => by unfold pathsOf; rw [List.map_map, List.map_map]; rfl
  intro htk
  exact hQ _ _ (F₈.leaveF O (old₅.mono upy) K.above htk) (.inr ⟨by rw [C.within]; exact fun q => hy (List.map_eq_nil_iff.mp q), R, X, W, pathsOf ys, pathsOf (pre ++ post), rfl,
    Nat.le_trans sz₅ (Nat.le_trans G₆.size (Nat.le_trans G₇.size gR)), gXs, gW, hR.mono F₈.keep, (hX₅.mono upy).mono F₈.keep, (hW₅.mono upy).mono F₈.keep, by rw [C.within]; exact pm ys, by rw [C.others]; exact pm _⟩)
end Mine
end

section
open PySem PySem.W PyProof.Rows PySem.Calls
set_option Elab.async false
set_option maxRecDepth 100000
set_option linter.unusedVariables false
namespace Mine
variable {prog : Program} {w : World} {A : Around} {E : Value → Shared → Prop} {s₀ s : Shared} {P : PM} {p : Program} {loose : List Str}


/-- _law_told -/
theorem told_ok {a : Addr} {zs : List (List Str × Tok)} {fr : List Str} {t : Tok} {outer : List Env} {Q : Value → Shared → Prop} (O : Ok s₀ P s) (T : Text (KT w) p loose s₀.heap) (hd : A.depth + 20 < recursionLimit) (hu : A.units + 120 < cLine) (hh : A.handled = none)
    (ha : IsL P a (strValues (pathsOf zs))) (hz : ∀ z ∈ zs, z.1 ∈ allRows ∧ 0 < z.2 ∧ (z.2 = t → pathOf z.1 = pathOf fr)) (hasc : zs.Pairwise fun x y => rank x.1 < rank y.1) (hlen : zs.length ≤ 10) (hf : fr ∈ fronts) (ht : t < s.toks) (ht0 : 0 < t)
    (hfr : A.frames = some outer) (hff : s.heap.FunFrames {} outer) (hfb : ∀ f ∈ framesOf outer, s₀.heap.get? f = none) (haf : a ∉ framesOf outer)
    (hQ : ∀ v s', GrewF (framesOf outer) s s' → Ans fr (zs.map (·.1)) s.heap.objs.size v s'.heap → Q v s') :
    wpAny (model prog w) A (call (.ref 144) [.ref a, .str (pathOf fr) t]) Q E s := by
  refine @told_A prog w A E s₀ s P p loose a zs fr t Q O T hd hu hh ha hz hlen hf ht ht0 fun L D cs m P₂ s₂ K => ?_
  obtain ⟨pre, ys, post, C⟩ := cut_of hf (fun z h => (hz z h).1) hasc
  obtain ⟨hi, hn⟩ := C.told hf (fun z h => (hz z h).1) K.tx
  refine @told_B prog w A s₀ s P₂ p loose a L D zs fr t cs m P s₂ outer Q O K T hd hu hh ht0 hfr hff hfb (fun hno s' G => hQ _ _ G (.inl ⟨?_, rfl⟩)) fun i u m' P' s' his K' n3 => ?_
  · rw [hi] at hno
    by_cases hy : ys = []
    · rw [C.within, hy]; rfl
    · rw [if_neg hy] at hno; cases hno
  · rw [hi] at his
    by_cases hy : ys = []
    · rw [if_pos hy] at his; cases his
    rw [if_neg hy] at his
    injection his with his
    subst his
    refine @told_C prog w A s₀ s P' p loose a L D zs pre ys post fr t u cs m' s' _ K' T hd hu hh ht0 C hn hlen n3 fun W u u' m₃ P₃ s₃ K₃ n3 n4 n5 hW gW => ?_
    exact @told_D prog w A s₀ s P₃ p loose a L D W zs pre ys post fr t u u' cs m₃ s₃ P outer Q O K₃ T hd hu hh C hy hlen (fun z h => (hz z h).1) hasc hfr hff hfb haf n3 n4 n5 hW gW hQ
end Mine
end

section
open PySem PySem.W PyProof.Rows PySem.Calls
set_option Elab.async false
set_option maxRecDepth 100000
set_option linter.unusedVariables false
namespace Mine
variable {prog : Program} {w : World} {A : Around} {E : Value → Shared → Prop} {s₀ s : Shared} {P : PM} {p : Program} {loose : List Str}

local macro_rules | `(tactic| walk_at "tk") => `(tactic| first | omega | (dsimp only; omega))
local macro_rules | `(tactic| walk_at "lk") => `(tactic| first | rfl | assumption | exact put_self _ _ _ | exact put_of (by decide) (by first | assumption | exact put_self _ _ _ | exact put_of (by decide) (by assumption)))
local macro_rules | `(tactic| walk_at "eval Name") => `(tactic| first
  | refine nmL (by first | assumption | exact Fn.toks (by assumption) _ (by walk_at "tk")) (by walk_at "lk") ?_
  | refine nmG (by first | assumption | exact Ok.toks (by assumption) _ (by walk_at "tk")) (by assumption) rfl ?_
  | refine nmB (by first | assumption | exact Ok.toks (by assumption) _ (by walk_at "tk")) (by assumption) rfl (by boot_by_name) ?_)
local macro_rules | `(tactic| walk_at "loadName") => `(tactic| refine ldL (by first | assumption | exact Fn.toks (by assumption) _ (by walk_at "tk")) (by walk_at "lk") ?_)
local macro_rules | `(tactic| walk_at "storeName") => `(tactic| (refine stLt (by first | assumption | exact Fn.toks (by assumption) _ (by walk_at "tk")) ?_; intro s' F' T'))

theorem split_fronts : ∀ f ∈ fronts, ((Txt.split (pathOf f) slash).filter fun c => c != ⟨#[]⟩) = f := by decide +kernel
theorem slash_len : (slash.length == 0) = false := by decide +kernel
/-- _law_due behind its first comprehension -/
structure DuA (s₀ s : Shared) (a : Addr) (fr : List Str) (L G : Addr) (fl : List (Str × Tok)) (vs : List Value) (m : Str → Option Value) (P : PM) (s₂ : Shared) : Prop extends Fn s₀ L m P s₂ where
  n1 : m "rows" = some (.ref a)
  ha : IsL P a vs
  cG : ∃ o, P (L + 1) = some o ∧ o.data = .cell (some (.ref G))
  hG : IsL P G (strValues fl)
  tx : fl.map (·.1) = fr
  old : PM.le s.heap.get? P
  above : s.heap.objs.size = L
  toks : s.toks ≤ s₂.toks
set_option maxHeartbeats 400000 in
theorem due_A {a : Addr} {vs : List Value} {fr : List Str} {t : Tok} {Q : Value → Shared → Prop} (O : Ok s₀ P s) (T : Text (KT w) p loose s₀.heap) (hd : A.depth + 20 < recursionLimit) (hu : A.units + 120 < cLine) (hh : A.handled = none)
    (ha : IsL P a vs) (hf : fr ∈ fronts)
    (hrest : ∀ L G fl m P₂ s₂, DuA s₀ s a fr L G fl vs m P₂ s₂ → wpAny (model prog w) (A.deeper (envAt w 149 L)) (execs ((bodyAt w 149).drop 1) (envAt w 149 L)) (fun f s' => s.toks ≤ s'.toks → Q (match f with | .ret v => v | _ => .none) s') (fun _ _ => False) s₂) :
    wpAny (model prog w) A (call (.ref 149) [.ref a, .str (pathOf fr) t]) Q E s := by
  refine enter (fd := fdAt w 149) (body := bodyAt w 149) (binds := [(Str.ofString "rows", .ref a), (Str.ofString "folder", .str (pathOf fr) t)]) (m := put (put mt "rows" (.ref a)) "folder" (.str (pathOf fr) t)) (cm := mt) O T (by omega) (f := 149) rfl rfl rfl rfl (by kernel_rfl) rfl (by kernel_rfl) (fun _ => by kernel_rfl) (fun _ => by kernel_rfl) ?_
  intro L P₁ s₁ C
  have F := C.toFn
  have O₁ := F.toOk
  have k' := PM.le_trans O.keep C.old
  obtain ⟨b1, -, o1, p1, d1⟩ := C.cell "front" (L + 1) rfl
  refine wpAny_mono (E := fun _ _ => False) ?_ (fun _ _ x => x) fun _ _ x => x.elim
  refine wpAny_execs_cons ?_
  iterate 1 walk1
  refine comp_E (α := Str × Tok) (cl := []) (s₀ := s₀) hh (by rfl) (by decide) rfl (by decide) rfl ?_
  iterate 5 walk1
  iterate 2 walk1
  have hpt := PT.of (pt_fronts _ hf)
  refine split_r (by decide) (Nat.le_trans hpt.len (by decide)) (Nat.le_trans hpt.parts (by decide)) fun l k hl hq hk => ?_
  have hk' : s₁.toks ≤ k := Nat.le_of_succ_le hk
  have hll : l.length ≤ 1000 := by rw [← List.length_map (f := (·.1)), hl]; exact hpt.splitlen
  have F₂ := F.push (lobj (strValues l)) (t := k) rfl hk'
  have up₂ := PM.le_set (o := lobj (strValues l)) (F.fresh (Nat.le_refl _))
  have hl₂ : IsL (P₁.set s₁.heap.objs.size (lobj (strValues l))) s₁.heap.objs.size (strValues l) := ⟨0, PM.set_self _ _ _⟩
  have p2 := up₂ _ _ p1
  have ha₂ := (ha.mono k').mono up₂
  have old₂ := PM.le_trans C.old up₂
  have n1 : (put (put mt "rows" (.ref a)) "folder" (.str (pathOf fr) t)) "rows" = some (.ref a) := put_of (by decide) (put_self _ _ _)
  generalize P₁.set s₁.heap.objs.size (lobj (strValues l)) = P₂ at *
  refine ⟨_, _, P₂, l, (fun q => .str q.1 q.2), (fun q => q.1 != ⟨#[]⟩), (fun q v _ => v = .str q.1 q.2), rfl, F₂, hl₂.lt, Nat.le_trans hll (by decide), fun _ _ _ _ h _ => h, ?_, ?_⟩
  · intro k q C' m₄ s₄ E₄ hq F₄ hm₄ hN₄ ht₄
    refine wpAny_tests_one ?_
    replace hm₄ : m₄ (Str.ofString "name") = some (.str q.1 q.2) := hm₄
    iterate 3 walk1
    refine PyProof.Rows.ne_str ?_
    refine wpAny_truthy_bool ?_
    rw [empty_eq]
    refine ⟨Grew.toks _ _ (by omega), rfl, fun _ => ?_⟩
    refine nmL (F₄.toks (s₄.toks + 1)) hm₄ ?_
    exact ⟨Grew.refl _, rfl⟩
  intro D ys s₃ G₃ hD hA
  rw [all2_strs hA] at hD
  have F₃ := F₂.call G₃
  have up₃ := PM.le_join_left P₂ (New { s₁ with heap := s₁.heap.push (lobj (strValues l)), toks := k }.heap s₃.heap)
  have hD₃ := hD.mono (F₂.toOk.new_le s₃)
  have p3 := up₃ _ _ p2
  refine stCt F₃ p3 rfl d1 b1 fun s₄ o' F₄ d' T₄ => ?_
  have hDc : D ≠ L + 1 := fun q => by
    obtain ⟨n, e⟩ := hD
    have h1 := (New.ge e).1
    rw [q] at h1
    exact absurd (F₂.toOk.lt p2) (Nat.not_lt.mpr h1)
  have hac : a ≠ L + 1 := fun q => by
    obtain ⟨n, e⟩ := ha₂
    rw [q, p2] at e
    injection e with e
    rw [e] at d1
    cases d1
  exact @hrest L D _ _ _ s₄ { F₄ with
    n1 := n1
    ha := (ha₂.mono up₃).set hac
    cG := ⟨o', PM.set_self _ _ _, d'⟩
    hG := hD₃.set hDc
    tx := by
      have e := split_fronts _ hf
      rw [← slash_eq] at e
      rw [show (fun q : Str × Tok => q.1 != ⟨#[]⟩) = (fun c : Str => c != ⟨#[]⟩) ∘ (·.1) from rfl, ← List.filter_map, hl]
      exact e
    old := fun b o e => by
      have hb : b < L := by rw [← C.above]; exact Heap.lt_size e
      rw [PM.set_ne (Nat.ne_of_lt (Nat.lt_succ_of_lt hb))]
      exact up₃ _ _ (old₂ _ _ e)
    above := C.above
    toks := Nat.le_trans C.toks (Nat.le_trans hk' (Nat.le_trans G₃.tok T₄)) }
end Mine
end

section
open PySem PySem.W PyProof.Rows PySem.Calls
set_option Elab.async false
set_option maxRecDepth 100000
set_option linter.unusedVariables false
namespace Mine
variable {prog : Program} {w : World} {A : Around} {E : Value → Shared → Prop} {s₀ s : Shared} {P : PM} {p : Program} {loose : List Str}

local macro_rules | `(tactic| walk_at "tk") => `(tactic| first | omega | (dsimp only; omega))
local macro_rules | `(tactic| walk_at "lk") => `(tactic| first | rfl | assumption | exact put_self _ _ _ | exact put_of (by decide) (by first | assumption | exact put_self _ _ _ | exact put_of (by decide) (by assumption)))
local macro_rules | `(tactic| walk_at "eval Name") => `(tactic| first
  | refine nmL (by first | assumption | exact Fn.toks (by assumption) _ (by walk_at "tk")) (by walk_at "lk") ?_
  | refine nmG (by first | assumption | exact Ok.toks (by assumption) _ (by walk_at "tk")) (by assumption) rfl ?_
  | refine nmB (by first | assumption | exact Ok.toks (by assumption) _ (by walk_at "tk")) (by assumption) rfl (by boot_by_name) ?_)
local macro_rules | `(tactic| walk_at "loadName") => `(tactic| refine ldL (by first | assumption | exact Fn.toks (by assumption) _ (by walk_at "tk")) (by walk_at "lk") ?_)
local macro_rules | `(tactic| walk_at "storeName") => `(tactic| (refine stLt (by first | assumption | exact Fn.toks (by assumption) _ (by walk_at "tk")) ?_; intro s' F' T'))

open PySem.SeqAt in
theorem rc_texts {x y : Addr} {xs ys : List (Str × Tok)} (hy : IsL s.heap.get? y (strValues ys)) (hx : IsL s.heap.get? x (strValues xs)) (hu : A.units < cLine) :
    RcAt A s (.ref y) (.ref x) (ys.map (·.1) == xs.map (·.1)) ∧ RcNeAt A s (.ref y) (.ref x) (!(ys.map (·.1) == xs.map (·.1))) := by
  by_cases hl : ys.length = xs.length
  · have hj : ∀ j (h1 : j < (strValues ys).toArray.size) (h2 : j < (strValues xs).toArray.size), EqAt A.in1 s (strValues ys).toArray[j] (strValues xs).toArray[j] ((ys.map (·.1)).getD j default == (xs.map (·.1)).getD j default) := fun j h1 h2 => by
      have j1 : j < ys.length := by simpa [strValues] using h1
      have j2 : j < xs.length := by simpa [strValues] using h2
      have e1 : (strValues ys).toArray[j] = .str ys[j].1 ys[j].2 := by simp [strValues]
      have e2 : (strValues xs).toArray[j] = .str xs[j].1 xs[j].2 := by simp [strValues]
      have e3 : (ys.map (·.1)).getD j default = ys[j].1 := by simp [List.getD, j1]
      have e4 : (xs.map (·.1)).getD j default = xs[j].1 := by simp [List.getD, j2]
      rw [e1, e2, e3, e4]
      exact EqAt.str_str _ _ _ _
    have e := all_range_eq (ys.map (·.1)) (xs.map (·.1)) (by simpa using hl)
    have e5 : (strValues ys).toArray.size = (ys.map (·.1)).length := by simp [strValues]
    have h := RcAt.lists (A := A) hy.list hx.list (by simpa [strValues] using hl) hu hj
    have h' := RcNeAt.lists (A := A) hy.list hx.list (by simpa [strValues] using hl) hu hj
    rw [e5, e] at h h'
    exact ⟨h, h'⟩
  · have e : (ys.map (·.1) == xs.map (·.1)) = false := by
      rw [beq_eq_false_iff_ne]
      intro q
      exact hl (by simpa using congrArg List.length q)
    rw [e]
    exact ⟨RcAt.lists_lengths hy.list hx.list (by simpa [strValues] using hl) hu, RcNeAt.lists_lengths hy.list hx.list (by simpa [strValues] using hl) hu⟩
set_option maxHeartbeats 400000 in
/-- row[:len(front)] -/
theorem row_pre {env : Env} {m : Str → Option Value} {zl fl : List (Str × Tok)} {r G c : Addr} {o : Obj} {p1 p2 p3 p4 p5 p6 : Pos} {Q : Value → Shared → Prop} (F : Fn s₀ env.locals m P s) (T : Text (KT w) p loose s₀.heap)
    (hk : env.scope.kind = .function) (k1 : env.kindOf "row" = some .local) (k2 : env.kindOf "front" = some .cell) (k3 : env.kindOf "len" = some .globalImplicit) (hg : env.globals = mainGlobals) (hb : env.builtins = builtinsNs) (hcl : env.cells.lookup (Str.ofString "front") = some c)
    (hm : m "row" = some (.ref r)) (hp : P c = some o) (ho : o.data = .cell (some (.ref G))) (hr : IsL P r (strValues zl)) (hG : IsL P G (strValues fl)) (hzl : zl.length ≤ 1000) (hfl : fl.length ≤ 1000)
    (h : ∀ d s' P', P.le P' → IsL P' d (strValues (zl.take fl.length)) → Fn s₀ env.locals m P' s' → Grew s s' → Q (.ref d) s') :
    wpAny (model prog w) A (eval (.Subscript (.Name "row" p1) (.Slice none (some (.Call (.Name "len" p2) [.Name "front" p3] [] p4)) none p5) p6) env) Q E s := by
  have sv : ∀ l : List (Str × Tok), (strValues l).length = l.length := fun l => List.length_map _
  iterate 1 walk1
  refine nmL F hm ?_ hk k1
  iterate 4 walk1
  refine nmB F.toOk T rfl (by boot_by_name) ?_ (by decide) hk k3 hg hb
  iterate 2 walk1
  refine nmC F.toOk hp hcl ho ?_ hk k2
  iterate 1 walk1
  have hs : ((strValues fl).toArray.size : Int) = (fl.length : Nat) := by rw [List.size_toArray, sv]
  refine Calls.call_len_list (hG.isList F.toOk) (by rw [hs]; have : (fl.length : Int) ≤ 1000 := by exact_mod_cast hfl
                                                    omega) ?_
  rw [hs]
  iterate 1 walk1
  refine sl_u (s := { s with toks := s.toks + 1 + 1 }) (F.toks _ (by omega)) hr (by rw [sv]; exact hzl) fun d s' P' up hd gd F' G' => ?_
  have e : (strValues zl).take fl.length = strValues (zl.take fl.length) := by unfold strValues; rw [List.map_take]
  rw [e] at hd
  exact h d s' P' up hd F' ((Grew.toks s (s.toks + 1 + 1) (by omega)).trans G')
end Mine
end

section
open PySem PySem.W PyProof.Rows PySem.Calls
set_option Elab.async false
set_option maxRecDepth 100000
set_option linter.unusedVariables false
namespace Mine
variable {prog : Program} {w : World} {A : Around} {E : Value → Shared → Prop} {s₀ s : Shared} {P : PM} {p : Program} {loose : List Str}

local macro_rules | `(tactic| walk_at "tk") => `(tactic| first | omega | (dsimp only; omega))
local macro_rules | `(tactic| walk_at "lk") => `(tactic| first | rfl | assumption | exact put_self _ _ _ | exact put_of (by decide) (by first | assumption | exact put_self _ _ _ | exact put_of (by decide) (by assumption)))
local macro_rules | `(tactic| walk_at "eval Name") => `(tactic| first
  | refine nmL (by first | assumption | exact Fn.toks (by assumption) _ (by walk_at "tk")) (by walk_at "lk") ?_
  | refine nmG (by first | assumption | exact Ok.toks (by assumption) _ (by walk_at "tk")) (by assumption) rfl ?_
  | refine nmB (by first | assumption | exact Ok.toks (by assumption) _ (by walk_at "tk")) (by assumption) rfl (by boot_by_name) ?_)
local macro_rules | `(tactic| walk_at "loadName") => `(tactic| refine ldL (by first | assumption | exact Fn.toks (by assumption) _ (by walk_at "tk")) (by walk_at "lk") ?_)
local macro_rules | `(tactic| walk_at "storeName") => `(tactic| (refine stLt (by first | assumption | exact Fn.toks (by assumption) _ (by walk_at "tk")) ?_; intro s' F' T'))

theorem join_rows : ∀ r ∈ allRows, JoinOk slash r = true := by decide +kernel
theorem len_rows : ∀ r ∈ allRows, r.length ≤ 1000 := by decide +kernel
theorem len_fronts : ∀ r ∈ fronts, r.length ≤ 1000 := by decide +kernel
/-- a comprehension of _law_due is done -/
structure DuB (s₀ s : Shared) (a : Addr) (fr : List Str) (L G : Addr) (fl : List (Str × Tok)) (out : List RowAt) (x : Str) (p : List Str → Bool) (W : Addr) (ws : List (Str × Tok)) (m : Str → Option Value) (P : PM) (s₂ : Shared) : Prop extends DuA s₀ s a fr L G fl (refsOf out) m P s₂ where
  nx : m x = some (.ref W)
  hW : IsL P W (strValues ws)
  gW : s.heap.objs.size ≤ W
  wx : ws.map (·.1) = ((out.map textsOf).filter p).map pathOf
  hz : ∀ z ∈ out, IsL P z.1 (strValues z.2) ∧ textsOf z ∈ allRows
theorem filter_texts {out : List RowAt} {p : List Str → Bool} : (out.filter fun z => p (textsOf z)).map (fun z => pathOf (textsOf z)) = ((out.map textsOf).filter p).map pathOf := by
  rw [List.filter_map, List.map_map]; rfl
set_option maxHeartbeats 400000 in
theorem due_B {a L G : Addr} {out : List RowAt} {fr : List Str} {fl : List (Str × Tok)} {m : Str → Option Value} {s₂ : Shared} {R : Flow → Shared → Prop} (K : DuA s₀ s a fr L G fl (refsOf out) m P s₂) (T : Text (KT w) p loose s₀.heap)
    (hd : A.depth + 20 < recursionLimit) (hu : A.units + 120 < cLine) (hh : A.handled = none) (hf : fr ∈ fronts) (hz : ∀ z ∈ out, IsL P z.1 (strValues z.2) ∧ textsOf z ∈ allRows) (hlen : out.length ≤ 10)
    (hrest : ∀ W ws m' P' s', DuB s₀ s a fr L G fl out "within" (preB fr) W ws m' P' s' → wpAny (model prog w) (A.deeper (envAt w 149 L)) (execs ((bodyAt w 149).drop 2) (envAt w 149 L)) R (fun _ _ => False) s') :
    wpAny (model prog w) (A.deeper (envAt w 149 L)) (execs ((bodyAt w 149).drop 1) (envAt w 149 L)) R (fun _ _ => False) s₂ := by
  have F := K.toFn
  have hG := K.hG
  have hu₄ : (A.deeper (envAt w 149 L)).units < cLine := by show A.units + 3 < cLine; omega
  have flen : fl.length = fr.length := by rw [← K.tx, List.length_map]
  have hfl : fl.length ≤ 1000 := by rw [flen]; exact len_fronts _ hf
  have len3 : ∀ z : RowAt, textsOf z ∈ allRows → z.2.length ≤ 1000 := fun z h => by rw [← List.length_map (f := (·.1))]; exact len_rows _ h
  have key : ∀ z : RowAt, ((z.2.take fl.length).map (·.1) == fl.map (·.1)) = preB fr (textsOf z) := fun z => by rw [List.map_take, K.tx, flen]; rfl
  obtain ⟨o1, p1, d1⟩ := K.cG
  refine wpAny_execs_cons ?_
  refine comp_A (α := RowAt) (cl := [(Str.ofString "front", L + 1)]) (s₀ := s₀) hh (by rfl) (by rfl) (by decide) rfl (by decide) rfl rfl rfl ?_
  refine nmL F K.n1 ?_
  refine ⟨a, m, P, out, (fun z => .ref z.1), (fun z => preB fr (textsOf z)), (fun z v _ => ∃ c, v = .str (pathOf (textsOf z)) c ∧ True), rfl, F, K.ha.lt, Nat.le_trans hlen (by decide), fun _ _ _ _ h _ => h, ?_, ?_⟩
  · intro k z C m' s₃ E' hzk F₃ hm hN ht
    refine wpAny_tests_one ?_
    replace hm : m' (Str.ofString "row") = some (.ref z.1) := hm
    obtain ⟨z1, z2⟩ := hz z (List.mem_of_getElem? hzk)
    iterate 1 walk1
    refine row_pre (o := o1) (c := L + 1) F₃ T rfl rfl rfl rfl rfl rfl rfl hm p1 d1 z1 hG (len3 z z2) hfl fun d s₄ P₄ up₄ hd₄ F₄ G₄ => ?_
    refine nmC F₄.toOk (up₄ _ _ p1) rfl d1 ?_
    refine PySem.EqBoolInt.of_rc (rc_texts (hd₄.mono F₄.keep) ((hG.mono up₄).mono F₄.keep) hu₄).1 ?_
    refine wpAny_truthy_bool ?_
    refine ⟨G₄, key z, fun _ => ?_⟩
    iterate 5 walk1
    refine nmL (F₄.toks (s₄.toks + 1)) hm ?_
    iterate 1 walk1
    refine join_r ((z1.mono up₄).isList (F₄.toks (s₄.toks + 1)).toOk) (by rw [slash_eq]; exact join_rows _ z2) fun t' k _ hk => ?_
    rw [slash_eq]
    exact ⟨Grew.toks s₄ k (Nat.le_of_succ_le hk), t', rfl, trivial⟩
  intro D ys K₁ s'' s₄ hA hS hD hge ht1 ht2 F₄
  obtain ⟨ws, rfl, hw1, -⟩ := strs_of (s := s'') (g := fun z : RowAt => pathOf (textsOf z)) (φ := fun _ _ => True) hA
  have kK : K₁.le (P.join K₁) := PM.le_join_right fun b o e => F.toOk.fresh (hge b o e)
  have up := PM.le_join_left P K₁
  have gD : s.heap.objs.size ≤ D := by
    obtain ⟨_, e⟩ := hD
    rw [K.above]
    exact Nat.le_trans (Nat.le_of_lt F.lt) (hge _ _ e)
  rw [filter_texts (p := preB fr)] at hw1
  exact @hrest D ws _ _ s₄ { F₄ with
    n1 := put_of (by decide) K.n1
    ha := K.ha.mono up
    cG := ⟨o1, up _ _ p1, d1⟩
    hG := hG.mono up
    tx := K.tx
    old := PM.le_trans K.old up
    above := K.above
    toks := Nat.le_trans K.toks (Nat.le_trans ht2 ht1)
    nx := put_self _ _ _
    hW := hD.mono kK
    gW := gD
    wx := hw1
    hz := fun z h => ⟨(hz z h).1.mono up, (hz z h).2⟩ }
end Mine
end

section
open PySem PySem.W PyProof.Rows PySem.Calls
set_option Elab.async false
set_option maxRecDepth 100000
set_option linter.unusedVariables false
namespace Mine
variable {prog : Program} {w : World} {A : Around} {E : Value → Shared → Prop} {s₀ s : Shared} {P : PM} {p : Program} {loose : List Str}

local macro_rules | `(tactic| walk_at "tk") => `(tactic| first | omega | (dsimp only; omega))
local macro_rules | `(tactic| walk_at "lk") => `(tactic| first | rfl | assumption | exact put_self _ _ _ | exact put_of (by decide) (by first | assumption | exact put_self _ _ _ | exact put_of (by decide) (by assumption)))
local macro_rules | `(tactic| walk_at "eval Name") => `(tactic| first
  | refine nmL (by first | assumption | exact Fn.toks (by assumption) _ (by walk_at "tk")) (by walk_at "lk") ?_
  | refine nmG (by first | assumption | exact Ok.toks (by assumption) _ (by walk_at "tk")) (by assumption) rfl ?_
  | refine nmB (by first | assumption | exact Ok.toks (by assumption) _ (by walk_at "tk")) (by assumption) rfl (by boot_by_name) ?_)
local macro_rules | `(tactic| walk_at "loadName") => `(tactic| refine ldL (by first | assumption | exact Fn.toks (by assumption) _ (by walk_at "tk")) (by walk_at "lk") ?_)
local macro_rules | `(tactic| walk_at "storeName") => `(tactic| (refine stLt (by first | assumption | exact Fn.toks (by assumption) _ (by walk_at "tk")) ?_; intro s' F' T'))

set_option maxHeartbeats 400000 in
theorem due_C {a L G W : Addr} {out : List RowAt} {ws : List (Str × Tok)} {fr : List Str} {fl : List (Str × Tok)} {m : Str → Option Value} {s₂ : Shared} {R : Flow → Shared → Prop} (K : DuB s₀ s a fr L G fl out "within" (preB fr) W ws m P s₂) (T : Text (KT w) p loose s₀.heap)
    (hd : A.depth + 20 < recursionLimit) (hu : A.units + 120 < cLine) (hh : A.handled = none) (hf : fr ∈ fronts) (hlen : out.length ≤ 10)
    (hrest : ∀ Z zs m' P' s', DuB s₀ s a fr L G fl out "within" (preB fr) W ws m' P' s' → DuB s₀ s a fr L G fl out "others" (fun r => !preB fr r) Z zs m' P' s' → wpAny (model prog w) (A.deeper (envAt w 149 L)) (execs ((bodyAt w 149).drop 3) (envAt w 149 L)) R (fun _ _ => False) s') :
    wpAny (model prog w) (A.deeper (envAt w 149 L)) (execs ((bodyAt w 149).drop 2) (envAt w 149 L)) R (fun _ _ => False) s₂ := by
  have F := K.toFn
  have hG := K.hG
  have hz := K.hz
  have hu₄ : (A.deeper (envAt w 149 L)).units < cLine := by show A.units + 3 < cLine; omega
  have flen : fl.length = fr.length := by rw [← K.tx, List.length_map]
  have hfl : fl.length ≤ 1000 := by rw [flen]; exact len_fronts _ hf
  have len3 : ∀ z : RowAt, textsOf z ∈ allRows → z.2.length ≤ 1000 := fun z h => by rw [← List.length_map (f := (·.1))]; exact len_rows _ h
  have key : ∀ z : RowAt, ((z.2.take fl.length).map (·.1) == fl.map (·.1)) = preB fr (textsOf z) := fun z => by rw [List.map_take, K.tx, flen]; rfl
  obtain ⟨o1, p1, d1⟩ := K.cG
  refine wpAny_execs_cons ?_
  refine comp_A (α := RowAt) (cl := [(Str.ofString "front", L + 1)]) (s₀ := s₀) hh (by rfl) (by rfl) (by decide) rfl (by decide) rfl rfl rfl ?_
  refine nmL F K.n1 ?_
  refine ⟨a, m, P, out, (fun z => .ref z.1), (fun z => !preB fr (textsOf z)), (fun z v _ => ∃ c, v = .str (pathOf (textsOf z)) c ∧ True), rfl, F, K.ha.lt, Nat.le_trans hlen (by decide), fun _ _ _ _ h _ => h, ?_, ?_⟩
  · intro k z C m' s₃ E' hzk F₃ hm hN ht
    refine wpAny_tests_one ?_
    replace hm : m' (Str.ofString "row") = some (.ref z.1) := hm
    obtain ⟨z1, z2⟩ := hz z (List.mem_of_getElem? hzk)
    iterate 1 walk1
    refine row_pre (o := o1) (c := L + 1) F₃ T rfl rfl rfl rfl rfl rfl rfl hm p1 d1 z1 hG (len3 z z2) hfl fun d s₄ P₄ up₄ hd₄ F₄ G₄ => ?_
    refine nmC F₄.toOk (up₄ _ _ p1) rfl d1 ?_
    refine PySem.EqBoolInt.of_rcne (rc_texts (hd₄.mono F₄.keep) ((hG.mono up₄).mono F₄.keep) hu₄).2 ?_
    refine wpAny_truthy_bool ?_
    refine ⟨G₄, by rw [key z], fun _ => ?_⟩
    iterate 5 walk1
    refine nmL (F₄.toks (s₄.toks + 1)) hm ?_
    iterate 1 walk1
    refine join_r ((z1.mono up₄).isList (F₄.toks (s₄.toks + 1)).toOk) (by rw [slash_eq]; exact join_rows _ z2) fun t' k _ hk => ?_
    rw [slash_eq]
    exact ⟨Grew.toks s₄ k (Nat.le_of_succ_le hk), t', rfl, trivial⟩
  intro D ys K₁ s'' s₄ hA hS hD hge ht1 ht2 F₄
  obtain ⟨zs, rfl, hw1, -⟩ := strs_of (s := s'') (g := fun z : RowAt => pathOf (textsOf z)) (φ := fun _ _ => True) hA
  have kK : K₁.le (P.join K₁) := PM.le_join_right fun b o e => F.toOk.fresh (hge b o e)
  have up := PM.le_join_left P K₁
  have gD : s.heap.objs.size ≤ D := by
    obtain ⟨_, e⟩ := hD
    rw [K.above]
    exact Nat.le_trans (Nat.le_of_lt F.lt) (hge _ _ e)
  rw [filter_texts (p := fun r => !preB fr r)] at hw1
  have B : DuA s₀ s a fr L G fl (refsOf out) _ _ s₄ := { F₄ with
    n1 := put_of (by decide) K.n1
    ha := K.ha.mono up
    cG := ⟨o1, up _ _ p1, d1⟩
    hG := hG.mono up
    tx := K.tx
    old := PM.le_trans K.old up
    above := K.above
    toks := Nat.le_trans K.toks (Nat.le_trans ht2 ht1) }
  have hz' : ∀ z ∈ out, IsL (P.join K₁) z.1 (strValues z.2) ∧ textsOf z ∈ allRows := fun z h => ⟨(hz z h).1.mono up, (hz z h).2⟩
  exact @hrest D zs _ _ s₄ { B with
    nx := put_of (by decide) K.nx
    hW := K.hW.mono up
    gW := K.gW
    wx := K.wx
    hz := hz' } { B with
    nx := put_self _ _ _
    hW := hD.mono kK
    gW := gD
    wx := hw1
    hz := hz' }
set_option maxHeartbeats 400000 in
theorem due_D {a L G W Z : Addr} {out : List RowAt} {ws zs : List (Str × Tok)} {fr : List Str} {fl : List (Str × Tok)} {m : Str → Option Value} {s₂ : Shared} {P₀ : PM} {Q : Value → Shared → Prop} (O : Ok s₀ P₀ s) (K : DuB s₀ s a fr L G fl out "within" (preB fr) W ws m P s₂) (K₂ : DuB s₀ s a fr L G fl out "others" (fun r => !preB fr r) Z zs m P s₂) (T : Text (KT w) p loose s₀.heap)
    (hd : A.depth + 20 < recursionLimit) (hu : A.units + 120 < cLine) (hh : A.handled = none) 
    (hQ : ∀ v s', Grew s s' → Ans fr (out.map textsOf) s.heap.objs.size v s'.heap → Q v s') :
    wpAny (model prog w) (A.deeper (envAt w 149 L)) (execs ((bodyAt w 149).drop 3) (envAt w 149 L)) (fun f s' => s.toks ≤ s'.toks → Q (match f with | .ret v => v | _ => .none) s') (fun _ _ => False) s₂ := by
  have F := K.toFn
  have n1 := K.nx
  have n2 := K₂.nx
  have hu₄ : (A.deeper (envAt w 149 L)).units < cLine := by show A.units + 3 < cLine; omega
  have sz : s.heap.objs.size ≤ s₂.heap.objs.size := by rw [K.above]; exact Nat.le_of_lt F.lt
  refine wpAny_execs_cons ?_
  iterate 6 walk1
  refine mkL (vs := []) (t := s₂.toks) F (Nat.le_refl _) (by decide) fun N s₃ P₃ up₃ hN gN bN F₃ t₃ z₃ G₃ => ?_
  have hW₃ := (K.hW.mono up₃).mono F₃.keep
  refine PySem.EqBoolInt.of_rcne (rc_texts (xs := []) hW₃ (hN.mono F₃.keep) hu₄).2 ?_
  refine wpAny_truthy_bool ?_
  have nil : ws = [] ↔ ((out.map textsOf).filter (preB fr)) = [] := by
    have e := K.wx
    constructor
    · rintro rfl; exact List.map_eq_nil_iff.mp e.symm
    · intro q; rw [q] at e; exact List.map_eq_nil_iff.mp e
  by_cases hw : ws = []
  · have e : (!(ws.map (·.1) == ([] : List (Str × Tok)).map (·.1))) = false := by rw [hw]; rfl
    rw [e]
    refine ite_neg (by decide) ?_
    iterate 1 walk1
    intro htk
    exact hQ _ _ (F₃.leave O (PM.le_trans K.old up₃) K.above htk) (.inl ⟨nil.mp hw, rfl⟩)
  · have e : (!(ws.map (·.1) == ([] : List (Str × Tok)).map (·.1))) = true := by
      cases ws with
      | nil => exact absurd rfl hw
      | cons q r => rfl
    rw [e]
    refine ite_pos rfl ?_
    iterate 8 walk1
    refine mkL (vs := [.ref W, .ref Z, .bool true]) (t := s₃.toks) F₃ (Nat.le_refl _) (by show 3 ≤ 1000; decide) fun D s₄ P₄ up₄ hD gD bD F₄ t₄ z₄ G₄ => ?_
    have upx := PM.le_trans up₃ up₄
    intro htk
    exact hQ _ _ (F₄.leave O (PM.le_trans K.old upx) K.above htk) (.inr ⟨fun q => hw (nil.mpr q), D, W, Z, ws, zs, rfl, Nat.le_trans sz (Nat.le_trans G₃.size gD), K.gW, K₂.gW, hD.mono F₄.keep, (K.hW.mono upx).mono F₄.keep, (K₂.hW.mono upx).mono F₄.keep, K.wx, K₂.wx⟩)
/-- _law_due -/
theorem due_ok {a : Addr} {out : List RowAt} {fr : List Str} {t : Tok} {Q : Value → Shared → Prop} (O : Ok s₀ P s) (T : Text (KT w) p loose s₀.heap) (hd : A.depth + 20 < recursionLimit) (hu : A.units + 120 < cLine) (hh : A.handled = none)
    (ha : IsL P a (refsOf out)) (hz : ∀ z ∈ out, IsL P z.1 (strValues z.2) ∧ textsOf z ∈ allRows) (hlen : out.length ≤ 10) (hf : fr ∈ fronts)
    (hQ : ∀ v s', Grew s s' → Ans fr (out.map textsOf) s.heap.objs.size v s'.heap → Q v s') :
    wpAny (model prog w) A (call (.ref 149) [.ref a, .str (pathOf fr) t]) Q E s := by
  refine @due_A prog w A E s₀ s P p loose a (refsOf out) fr t Q O T hd hu hh ha hf fun L G fl m P₂ s₂ K => ?_
  have hz₂ : ∀ z ∈ out, IsL P₂ z.1 (strValues z.2) ∧ textsOf z ∈ allRows := fun z h => by
    obtain ⟨⟨n, e⟩, h2⟩ := hz z h
    exact ⟨⟨n, K.old _ _ (O.keep _ _ e)⟩, h2⟩
  refine @due_B prog w A s₀ s P₂ p loose a L G out fr fl m s₂ _ K T hd hu hh hf hz₂ hlen fun W ws m' P' s' K' => ?_
  refine @due_C prog w A s₀ s P' p loose a L G W out ws fr fl m' s' _ K' T hd hu hh hf hlen fun Z zs m₃ P₃ s₃ K₃ K₄ => ?_
  exact @due_D prog w A s₀ s P₃ p loose a L G W Z out ws zs fr fl m₃ s₃ P Q O K₃ K₄ T hd hu hh hQ
end Mine
end

section
open PySem PySem.W PyProof.Rows PySem.Calls
set_option Elab.async false
set_option maxRecDepth 100000
set_option linter.unusedVariables false
namespace Mine
variable {prog : Program} {w : World} {A : Around} {E : Value → Shared → Prop} {s₀ s : Shared} {P : PM} {p : Program} {loose : List Str}

local macro_rules | `(tactic| walk_at "tk") => `(tactic| first | omega | (dsimp only; omega))
local macro_rules | `(tactic| walk_at "lk") => `(tactic| first | rfl | assumption | exact put_self _ _ _ | exact put_of (by decide) (by first | assumption | exact put_self _ _ _ | exact put_of (by decide) (by assumption)))
local macro_rules | `(tactic| walk_at "eval Name") => `(tactic| first
  | refine nmL (by first | assumption | exact Fn.toks (by assumption) _ (by walk_at "tk")) (by walk_at "lk") ?_
  | refine nmG (by first | assumption | exact Ok.toks (by assumption) _ (by walk_at "tk")) (by assumption) rfl ?_
  | refine nmB (by first | assumption | exact Ok.toks (by assumption) _ (by walk_at "tk")) (by assumption) rfl (by boot_by_name) ?_)
local macro_rules | `(tactic| walk_at "loadName") => `(tactic| refine ldL (by first | assumption | exact Fn.toks (by assumption) _ (by walk_at "tk")) (by walk_at "lk") ?_)
local macro_rules | `(tactic| walk_at "storeName") => `(tactic| (refine stLt (by first | assumption | exact Fn.toks (by assumption) _ (by walk_at "tk")) ?_; intro s' F' T'))

theorem f1_eq : Str.ofString "a" = pathOf [nA] := by decide +kernel
theorem f2_eq : Str.ofString "a/ab" = pathOf [nA, nAB] := by decide +kernel
theorem f3_eq : Str.ofString "ab" = pathOf [nAB] := by decide +kernel
theorem f4_eq : Str.ofString "b/b" = pathOf [nB, nB] := by decide +kernel
theorem f5_eq : Str.ofString "" = pathOf [] := by decide +kernel
/-- law behind its two stores -/
structure LwA (s₀ s : Shared) (L D H T₀ : Addr) (out : List RowAt) (fo : List (List Str × Tok)) (m : Str → Option Value) (P : PM) (s₂ : Shared) : Prop extends Fn s₀ L m P s₂ where
  cD : ∃ o, P (L + 1) = some o ∧ o.data = .cell (some (.ref D))
  hD : IsL P D (refsOf out)
  rows : ∀ z ∈ out, IsL P z.1 (strValues z.2) ∧ textsOf z ∈ allRows
  rtok : ∀ z ∈ out, ∀ q ∈ z.2, 0 < q.2 ∧ q.2 < T₀
  asc : out.Pairwise fun x y => rank (textsOf x) < rank (textsOf y)
  len : out.length ≤ 10
  nF : m "folders" = some (.ref H)
  hF : IsL P H (strValues (pathsOf fo))
  fts : fo.map (·.1) = fronts
  ftok : ∀ q ∈ fo, T₀ ≤ q.2 ∧ q.2 < s₂.toks
  t0 : 0 < T₀
  old : PM.le s.heap.get? P
  above : s.heap.objs.size = L
  toks : s.toks ≤ s₂.toks
set_option maxHeartbeats 400000 in
theorem law_A {a : Addr} {iz : List (Int × Tok)} {Q : Value → Shared → Prop} (O : Ok s₀ P s) (T : Text (KT w) p loose s₀.heap) (hd : A.depth + 40 < recursionLimit) (hu : A.units + 140 < cLine) (hh : A.handled = none)
    (ha : IsL P a (iz.map fun q => .int q.1 q.2)) (hn : iz.length ≤ 63)
    (hrest : ∀ L D H T₀ out fo m P₂ s₂, LwA s₀ s L D H T₀ out fo m P₂ s₂ → wpAny (model prog w) (A.deeper (envAt w 154 L)) (execs ((bodyAt w 154).drop 2) (envAt w 154 L)) (fun f s' => s.toks ≤ s'.toks → Q (match f with | .ret v => v | _ => .none) s') (fun _ _ => False) s₂) :
    wpAny (model prog w) A (call (.ref 154) [.ref a]) Q E s := by
  refine enter (fd := fdAt w 154) (body := bodyAt w 154) (binds := [(Str.ofString "script", .ref a)]) (m := put mt "script" (.ref a)) (cm := mt) O T (by omega) (f := 154) rfl rfl rfl rfl (by kernel_rfl) rfl (by kernel_rfl) (fun _ => by kernel_rfl) (fun _ => by kernel_rfl) ?_
  intro L P₁ s₁ C
  have F := C.toFn
  have O₁ := F.toOk
  have k := PM.le_trans O.keep C.old
  obtain ⟨b1, -, o1, p1, d1⟩ := C.cell "drawn" (L + 1) rfl
  refine wpAny_mono (E := fun _ _ => False) ?_ (fun _ _ x => x) fun _ _ x => x.elim
  refine wpAny_execs_cons ?_
  iterate 2 walk1
  refine nmG (v := .ref 139) O₁ T rfl ?_
  refine callF w rfl rfl ?_
  iterate 8 walk1
  refine sl_u (s := { s₁ with toks := s₁.toks + 1 }) (b := 6) (F.toks _ (by omega)) (ha.mono k) (by rw [List.length_map]; exact Nat.le_trans hn (by decide)) fun d s₂ P₂ up₂ hd₂ g₂ F₂ G₂ => ?_
  iterate 1 walk1
  refine ⟨fun o ho => F₂.toOk.fn T ho, ?_⟩
  rw [← List.map_take] at hd₂
  refine listing_ok F₂.toOk T (by show A.depth + 1 + 10 < _; omega) (by show A.units + 3 + 100 < _; omega) hh hd₂ (by rw [List.length_take]; exact Nat.min_le_left _ _) fun D out s₃ G₃ B => ?_
  have F₃ := F₂.call G₃
  have up₃ := PM.le_join_left P₂ (New s₂.heap s₃.heap)
  have k₃ := F₂.toOk.new_le s₃
  have new : ∀ {b : Addr} {vs : List Value}, s₂.heap.objs.size ≤ b → IsL s₃.heap.get? b vs → IsL (P₂.join (New s₂.heap s₃.heap)) b vs := fun hb h => (h.new hb).mono k₃
  have hD₃ := new B.geD B.isD
  have hr₃ := fun z hz => new (B.ge z hz) (B.rows z hz)
  have p3 := up₃ _ _ (up₂ _ _ p1)
  have old₃ := PM.le_trans (PM.le_trans C.old up₂) up₃
  have lt₂ : L + 1 < s₂.heap.objs.size := F₂.toOk.lt (up₂ _ _ p1)
  clear new
  generalize P₂.join (New s₂.heap s₃.heap) = P₃ at *
  refine stCt F₃ p3 rfl d1 b1 fun s₄ o' F₄ d' T₄ => ?_
  have p4 := PM.set_self P₃ (L + 1) o'
  have hD₄ := hD₃.set (o := o') (Nat.ne_of_gt (Nat.lt_of_lt_of_le lt₂ B.geD))
  have hr₄ := fun z hz => (hr₃ z hz).set (o := o') (Nat.ne_of_gt (Nat.lt_of_lt_of_le lt₂ (B.ge z hz)))
  have old₄ : PM.le s.heap.get? (P₃.set (L + 1) o') := fun b o e => by
    have hb : b < L := by rw [← C.above]; exact Heap.lt_size e
    rw [PM.set_ne (Nat.ne_of_lt (Nat.lt_succ_of_lt hb))]
    exact old₃ _ _ e
  generalize P₃.set (L + 1) o' = P₄ at *
  replace d' : o'.data = .cell (some (.ref D)) := d'
  iterate 14 walk1
  rw [f1_eq, f2_eq, f3_eq, f4_eq, f5_eq]
  refine mkL (vs := strValues (pathsOf [([nA], s₄.toks), ([nA, nAB], s₄.toks + 1), ([nAB], s₄.toks + 1 + 1), ([nB, nB], s₄.toks + 1 + 1 + 1), ([], s₄.toks + 1 + 1 + 1 + 1)])) (t := s₄.toks + 1 + 1 + 1 + 1 + 1) F₄ (by omega) (by show 5 ≤ 1000; decide) fun H s₅ P₅ up₅ hH g₅ b₅ F₅ t₅ z₅ G₅ => ?_
  refine stLx F₅ fun s₆ m₆ k₆ n6 F₆ T₆ => ?_
  have c6 : s₄.toks + 1 + 1 + 1 + 1 < s₆.toks := Nat.lt_of_lt_of_le (Nat.lt_of_lt_of_le (Nat.lt_succ_self _) t₅) T₆
  exact @hrest L D H s₃.toks out [([nA], s₄.toks), ([nA, nAB], s₄.toks + 1), ([nAB], s₄.toks + 1 + 1), ([nB, nB], s₄.toks + 1 + 1 + 1), ([], s₄.toks + 1 + 1 + 1 + 1)] _ _ s₆ { F₆ with
    cD := ⟨o', up₅ _ _ p4, d'⟩
    hD := hD₄.mono up₅
    rows := fun z hz => ⟨(hr₄ z hz).mono up₅, B.txt z hz⟩
    rtok := B.tok
    asc := B.asc
    len := B.len
    nF := n6
    hF := hH
    fts := rfl
    ftok := by
      simp only [List.forall_mem_cons]
      refine ⟨⟨T₄, Nat.lt_of_succ_lt (Nat.lt_of_succ_lt (Nat.lt_of_succ_lt (Nat.lt_of_succ_lt c6)))⟩, ⟨Nat.le_succ_of_le T₄, Nat.lt_of_succ_lt (Nat.lt_of_succ_lt (Nat.lt_of_succ_lt c6))⟩, ⟨Nat.le_succ_of_le (Nat.le_succ_of_le T₄), Nat.lt_of_succ_lt (Nat.lt_of_succ_lt c6)⟩, ⟨Nat.le_succ_of_le (Nat.le_succ_of_le (Nat.le_succ_of_le T₄)), Nat.lt_of_succ_lt c6⟩, ⟨Nat.le_succ_of_le (Nat.le_succ_of_le (Nat.le_succ_of_le (Nat.le_succ_of_le T₄))), c6⟩, nofun⟩
    t0 := F₃.tok
    old := PM.le_trans old₄ up₅
    above := C.above
    toks := Nat.le_trans C.toks (Nat.le_trans (Nat.le_trans (Nat.le_of_lt (Nat.lt_succ_self _)) G₂.tok) (Nat.le_trans G₃.tok (Nat.le_trans T₄ (Nat.le_trans (Nat.le_of_lt (Nat.lt_of_lt_of_le (Nat.lt_of_le_of_lt (Nat.le_add_right _ 4) (Nat.lt_succ_self _)) t₅)) T₆)))) }
end Mine
end

section
open PySem PySem.W PyProof.Rows PySem.Calls
set_option Elab.async false
set_option maxRecDepth 100000
set_option linter.unusedVariables false
namespace Mine
variable {prog : Program} {w : World} {A : Around} {E : Value → Shared → Prop} {s₀ s : Shared} {P : PM} {p : Program} {loose : List Str}

local macro_rules | `(tactic| walk_at "tk") => `(tactic| first | omega | (dsimp only; omega))
local macro_rules | `(tactic| walk_at "lk") => `(tactic| first | rfl | assumption | exact put_self _ _ _ | exact put_of (by decide) (by first | assumption | exact put_self _ _ _ | exact put_of (by decide) (by assumption)))
local macro_rules | `(tactic| walk_at "eval Name") => `(tactic| first
  | refine nmL (by first | assumption | exact Fn.toks (by assumption) _ (by walk_at "tk")) (by walk_at "lk") ?_
  | refine nmG (by first | assumption | exact Ok.toks (by assumption) _ (by walk_at "tk")) (by assumption) rfl ?_
  | refine nmB (by first | assumption | exact Ok.toks (by assumption) _ (by walk_at "tk")) (by assumption) rfl (by boot_by_name) ?_)
local macro_rules | `(tactic| walk_at "loadName") => `(tactic| refine ldL (by first | assumption | exact Fn.toks (by assumption) _ (by walk_at "tk")) (by walk_at "lk") ?_)
local macro_rules | `(tactic| walk_at "storeName") => `(tactic| (refine stLt (by first | assumption | exact Fn.toks (by assumption) _ (by walk_at "tk")) ?_; intro s' F' T'))

theorem zip_paths : ∀ (rs : List (List Str)) (ps : List (Str × Tok)), ps.map (·.1) = rs.map pathOf → ∃ zs : List (List Str × Tok), pathsOf zs = ps ∧ zs.map (·.1) = rs
  | [], [], _ => ⟨[], rfl, rfl⟩
  | [], _ :: _, h => (nomatch h)
  | _ :: _, [], h => (nomatch h)
  | r :: rs, q :: ps, h => by
    rw [List.map_cons, List.map_cons] at h
    injection h with h1 h2
    obtain ⟨zs, rfl, rfl⟩ := zip_paths rs ps h2
    exact ⟨(r, q.2) :: zs, by unfold pathsOf; rw [List.map_cons, ← h1], rfl⟩
set_option maxHeartbeats 400000 in
theorem law_B {L D H T₀ : Addr} {out : List RowAt} {fo : List (List Str × Tok)} {m : Str → Option Value} {s₂ : Shared} {P₀ : PM} {Q : Value → Shared → Prop} (O : Ok s₀ P₀ s) (K : LwA s₀ s L D H T₀ out fo m P s₂) (T : Text (KT w) p loose s₀.heap)
    (hd : A.depth + 40 < recursionLimit) (hu : A.units + 140 < cLine) (hh : A.handled = none) (hfr : A.frames = some [])
    (hQ : ∀ s', Grew s s' → Q (.bool true) s') :
    wpAny (model prog w) (A.deeper (envAt w 154 L)) (execs ((bodyAt w 154).drop 2) (envAt w 154 L)) (fun f s' => s.toks ≤ s'.toks → Q (match f with | .ret v => v | _ => .none) s') (fun _ _ => False) s₂ := by
  have F := K.toFn
  obtain ⟨o1, p1, d1⟩ := K.cD
  have hf : (envAt w 154 L).frame = some L := rfl
  have ef : framesOf (envAt w 154 L :: []) = [L] := by simp [framesOf, hf]
  have hfr' : (A.deeper (envAt w 154 L)).frames = some (envAt w 154 L :: []) := Around.frames_deeper hfr
  have hLz : s.heap.objs.size ≤ L := Nat.le_of_eq K.above
  have hL0 : s₀.heap.get? L = none := O.none_of_ge hLz
  have mem : ∀ {k : Nat} {z : List Str × Tok}, fo[k]? = some z → z.1 ∈ fronts ∧ T₀ ≤ z.2 ∧ z.2 < s₂.toks := fun {k z} h => by
    have hm := List.mem_of_getElem? h
    exact ⟨by rw [← K.fts]; exact List.mem_map_of_mem hm, K.ftok z hm⟩
  have hfo : fo.length ≤ 1000 := by rw [← List.length_map (f := (·.1)), K.fts]; decide
  refine wpAny_execs_cons ?_
  iterate 2 walk1
  refine comp_EF (α := List Str × Tok) (fs := [L]) (cl := [(Str.ofString "drawn", L + 1)]) (s₀ := s₀) hh (by rfl) (by decide) rfl (by decide) rfl ?_
  refine nmL F K.nF ?_
  have hFm : (pathsOf fo).map (fun q => Value.str q.1 q.2) = fo.map fun z => Value.str (pathOf z.1) z.2 := by unfold pathsOf; rw [List.map_map]; rfl
  have hFl := K.hF
  unfold strValues at hFl
  rw [hFm] at hFl
  refine ⟨H, m, P, fo, (fun z => .str (pathOf z.1) z.2), (fun z v s' => Ans z.1 (out.map textsOf) (s₂.heap.objs.size + 3) v s'.heap), rfl, F, hFl.lt, Nat.le_trans hfo (by decide), fun f hf => ?_, fun _ _ _ _ h L => h.later L, ?_, ?_⟩
  · rw [List.mem_singleton.mp hf]; exact ⟨F.hL, F.lt⟩
  · intro k z C m' s₃ E' hzk F₃ hm hN ht G₃
    replace hm : m' (Str.ofString "one") = some (.str (pathOf z.1) z.2) := hm
    obtain ⟨z1, z2, z3⟩ := mem hzk
    iterate 1 walk1
    refine nmG (v := .ref 144) F₃.toOk T rfl ?_
    refine callF w rfl rfl ?_
    iterate 1 walk1
    refine comp_E (α := RowAt) (cl := []) (s₀ := s₀) hh (by rfl) (by decide) rfl (by decide) rfl ?_
    refine nmC F₃.toOk p1 rfl d1 ?_
    refine ⟨D, m', P, out, (fun z => .ref z.1), (fun _ => true), (fun y v _ => ∃ c, v = .str (pathOf (textsOf y)) c ∧ 0 < c ∧ c ≠ z.2), rfl, F₃, K.hD.lt, Nat.le_trans K.len (by decide), fun _ _ _ _ h _ => h, ?_, ?_⟩
    · intro k' y C' m₄ s₄ E₄ hyk F₄ hm₄ hN₄ ht₄
      refine tests_nil ⟨Grew.refl _, rfl, fun _ => ?_⟩
      replace hm₄ : m₄ (Str.ofString "x") = some (.ref y.1) := hm₄
      have hym := List.mem_of_getElem? hyk
      obtain ⟨y1, y2⟩ := K.rows y hym
      iterate 5 walk1
      refine nmL (F₄.toks (s₄.toks + 1)) hm₄ ?_
      iterate 1 walk1
      refine join_r (y1.isList (F₄.toks (s₄.toks + 1)).toOk) (by rw [slash_eq]; exact join_rows _ y2) fun t' k hor hk => ?_
      rw [slash_eq]
      refine ⟨Grew.toks s₄ k (Nat.le_of_succ_le hk), t', rfl, ?_⟩
      rcases hor with rfl | ⟨q, hq, -, rfl⟩
      · exact ⟨Nat.succ_pos _, Nat.ne_of_gt (Nat.lt_succ_of_lt (Nat.lt_of_lt_of_le z3 (Nat.le_trans ht ht₄)))⟩
      · obtain ⟨q1, q2⟩ := K.rtok y hym q hq
        exact ⟨q1, Nat.ne_of_lt (Nat.lt_of_lt_of_le q2 z2)⟩
    intro D₁ ys s₄ G₄ hD₁ hA
    obtain ⟨ps, rfl, hp1, hp2⟩ := strs_of (s := s₄) (g := fun y : RowAt => pathOf (textsOf y)) (φ := fun _ c => 0 < c ∧ c ≠ z.2) hA
    rw [show out.filter (fun _ => true) = out from List.filter_eq_self.mpr fun _ _ => rfl] at hp1
    obtain ⟨zs, rfl, hzs⟩ := zip_paths (out.map textsOf) ps (by rw [hp1, List.map_map]; rfl)
    have F₄ := F₃.call G₄
    refine wpAny_mono (E := fun _ _ => False) ?_ (fun _ _ h => h) fun _ _ e => e.elim
    iterate 1 walk1
    refine nmL F₄ hm ?_
    iterate 1 walk1
    refine ⟨fun o ho => F₄.toOk.fn T ho, ?_⟩
    have hffe : s₄.heap.FunFrames {} (envAt w 154 L :: []) := by
      obtain ⟨oL, es, ep, hoL, hdL, r⟩ := G₄.ns (G₃.ns F.ns)
      exact ⟨by show ScopeKind.function ≠ ScopeKind.module; decide, ⟨L, oL, hf, rfl, hoL, fun vs q => by rw [hdL] at q; cases q⟩, trivial⟩
    refine told_ok F₄.toOk T (by show A.depth + 1 + 20 < _; omega) (by show A.units + 3 + 120 < _; omega) hh (hD₁.mono (F₃.toOk.new_le s₄)) (fun y hy => ⟨?_, ?_⟩) ?_ ?_ z1 (Nat.lt_of_lt_of_le z3 (Nat.le_trans ht G₄.tok)) (Nat.lt_of_lt_of_le K.t0 z2) hfr' hffe ?_ ?_ fun v s₅ G₅ hv => ?_
    · have h1 : y.1 ∈ out.map textsOf := by rw [← hzs]; exact List.mem_map_of_mem hy
      obtain ⟨r, hr, e⟩ := List.mem_map.mp h1
      rw [← e]; exact (K.rows r hr).2
    · have h1 := hp2 (pathOf y.1, y.2) (List.mem_map_of_mem hy)
      exact ⟨h1.1, fun e => absurd e h1.2⟩
    · have h1 : (zs.map (·.1)).Pairwise fun x y => rank x < rank y := by rw [hzs, List.pairwise_map]; exact K.asc
      rw [List.pairwise_map] at h1
      exact h1
    · rw [← List.length_map (f := (·.1)), hzs, List.length_map]; exact K.len
    · rw [ef]; intro f hf; rw [List.mem_singleton.mp hf]; exact hL0
    · rw [ef]; intro q
      obtain ⟨_, e⟩ := hD₁
      have h1 := (New.ge e).1
      rw [List.mem_singleton.mp q] at h1
      exact absurd F.lt (Nat.not_lt.mpr (Nat.le_trans G₃.size h1))
    · rw [ef] at G₅
      rw [hzs] at hv
      exact ⟨(G₄.f [L]).trans G₅, hv.keep (Nat.le_trans hN G₄.size) fun _ _ _ e => e⟩
  intro X xs s₃ G₃ hX hA
  obtain ⟨F₃, k₃⟩ := F.callF G₃ fun f hf => by rw [List.mem_singleton.mp hf]; exact F.hL
  have up₃ := PM.le_join_left P (New s₂.heap s₃.heap)
  have old₃ := PM.le_trans K.old up₃
  have p3 := up₃ _ _ p1
  have hD₃ := K.hD.mono up₃
  have hr₃ := fun z hz => (And.intro ((K.rows z hz).1.mono up₃) (K.rows z hz).2 : IsL (P.join (New s₂.heap s₃.heap)) z.1 (strValues z.2) ∧ textsOf z ∈ allRows)
  obtain ⟨nH, hH⟩ := hFl
  replace hH := up₃ _ _ hH
  replace hX := hX.mono k₃
  generalize P.join (New s₂.heap s₃.heap) = P₃ at *
  refine comp_E (α := List Str × Tok) (cl := [(Str.ofString "drawn", L + 1)]) (s₀ := s₀) hh (by rfl) (by decide) rfl (by decide) rfl ?_
  refine nmL F₃ K.nF ?_
  refine ⟨H, m, P₃, fo, (fun z => .str (pathOf z.1) z.2), (fun _ => true), (fun z v s' => Ans z.1 (out.map textsOf) (s₃.heap.objs.size + 3) v s'.heap), rfl, F₃, IsL.lt ⟨nH, hH⟩, Nat.le_trans hfo (by decide), fun _ _ _ _ h L => h.later L, ?_, ?_⟩
  · intro k z C m' s₄ E' hzk F₄ hm hN ht
    refine tests_nil ⟨Grew.refl _, rfl, fun _ => ?_⟩
    replace hm : m' (Str.ofString "one") = some (.str (pathOf z.1) z.2) := hm
    obtain ⟨z1, z2, z3⟩ := mem hzk
    iterate 1 walk1
    refine nmG (v := .ref 149) F₄.toOk T rfl ?_
    refine callF w rfl rfl ?_
    iterate 1 walk1
    refine nmC F₄.toOk p3 rfl d1 ?_
    iterate 1 walk1
    refine nmL F₄ hm ?_
    iterate 1 walk1
    refine ⟨fun o ho => F₄.toOk.fn T ho, ?_⟩
    exact due_ok F₄.toOk T (by show A.depth + 1 + 20 < _; omega) (by show A.units + 3 + 120 < _; omega) hh hD₃ hr₃ K.len z1 fun v s₅ G₅ hv => ⟨G₅, hv.keep hN fun _ _ _ e => e⟩
  intro Y ys s₄ G₄ hY hB
  have F₄ := F₃.call G₄
  rw [show fo.filter (fun _ => true) = fo from List.filter_eq_self.mpr fun _ _ => rfl] at hB
  refine PySem.EqBoolInt.of_rc (eqLists ((hX.mono F₃.keep).mono G₄.keep) (let ⟨n, e⟩ := hY; ⟨n, (New.ge e).2⟩) (by show A.units + 3 < _; omega) (by rw [hA.len, hB.len]) fun j v y hv hy => ?_).1 ?_
  · obtain ⟨z, hz, a1⟩ := hA.getR hv
    obtain ⟨z', hz', a2⟩ := hB.getR hy
    rw [hz] at hz'
    injection hz' with hz'
    subst hz'
    have a1 : Ans z.1 (out.map textsOf) (s₂.heap.objs.size + 3) v s₃.heap := a1
    exact (a1.keep (Nat.le_refl _) fun b o _ e => G₄.keep b o e).eq a2 (by show A.units + 3 + 1 + 2 < _; omega)
  · intro htk
    exact hQ s₄ (F₄.leave O (PM.le_trans old₃ (PM.le_join_left _ _)) K.above htk)
/-- law -/
theorem law_ok {a : Addr} {iz : List (Int × Tok)} {Q : Value → Shared → Prop} (O : Ok s₀ P s) (T : Text (KT w) p loose s₀.heap) (hd : A.depth + 40 < recursionLimit) (hu : A.units + 140 < cLine) (hh : A.handled = none) (hfr : A.frames = some [])
    (ha : IsL P a (iz.map fun q => .int q.1 q.2)) (hn : iz.length ≤ 63) (hQ : ∀ s', Grew s s' → Q (.bool true) s') :
    wpAny (model prog w) A (call (.ref 154) [.ref a]) Q E s :=
  @law_A prog w A E s₀ s P p loose a iz Q O T hd hu hh ha hn fun L D H T₀ out fo m P₂ s₂ K =>
    @law_B prog w A s₀ s P₂ p loose L D H T₀ out fo m s₂ P Q O K T hd hu hh hfr hQ
end Mine
end

section
open PySem PySem.W PyProof.Rows PySem.Calls
set_option Elab.async false
set_option maxRecDepth 100000
set_option linter.unusedVariables false
namespace Mine
theorem in_of_all {K K' : Frag} {h : Heap} (X : K'.In h) (e : ∀ p ∈ K, K'.lookup p.1 = some p.2) : K.In h := fun a o q => X a o (by
  have : (a, o) ∈ K := by
    clear e X
    induction K with
    | nil => cases q
    | cons p r ih =>
      obtain ⟨b, ob⟩ := p
      rw [List.lookup_cons] at q
      cases hb : a == b with
      | true => rw [hb] at q; cases q; rw [beq_iff_eq.mp hb]; exact List.mem_cons_self
      | false => rw [hb] at q; exact List.mem_cons_of_mem _ (ih q)
  exact e _ this)
theorem ints_of : ∀ {vs : List Value} {ns : List Int}, IntsAre vs ns → ∃ iz : List (Int × Tok), vs = iz.map (fun q => .int q.1 q.2) ∧ iz.length = ns.length
  | _, _, .nil => ⟨[], rfl, rfl⟩
  | _, _, .cons n t h => by
    obtain ⟨iz, rfl, e⟩ := ints_of h
    exact ⟨(n, t) :: iz, rfl, by rw [List.length_cons, List.length_cons, e]⟩
theorem finish {c : ClaimW} {cl : Str → Option Addr} {mean : ExcName → Option Value} {args : List WData} {s₁ s' : Shared} (G : Grew s₁ s') (hg : s₁.gens = #[]) (hr : ∀ cls, c.raises args cls = false) (hp : c.post args (.bool true) args = true) :
    GoodWG c cl mean args s₁ (.ok (.ret (.bool true))) s' := by
  obtain ⟨⟨h, tk, rfl⟩, k, -, -⟩ := G
  exact ⟨.inl ⟨_, _, [], rfl, hr, ReadsW.bool true, hp, fun _ => ⟨List.nodup_nil, fun _ hm => (nomatch hm)⟩⟩, .of_keep k, rfl, .of_eq hg⟩
/-- the call of law, from the top's facts -/
theorem call_law {prog : Program} {w : World} {c : ClaimW} {cl : Str → Option Addr} {mean : ExcName → Option Value} {args : List WData} {s₁ : Shared} {p : Program} {loose : List Str} {mg mb : Str → Option Value} {fa l : Addr} {vs : List Value} {ns : List Int}
    (X : (KT w).In s₁.heap) (T : TopRead p loose mg mb s₁.heap) (hmg : mg "law" = some (.ref fa)) (ht : 0 < s₁.toks) (hg : s₁.gens = #[]) (hl : s₁.heap.get? l = some { cls := .type "list", data := .seq vs.toArray }) (hi : IntsAre vs ns) (hn : ns.length ≤ 63)
    (hr : ∀ cls, c.raises args cls = false) (hp : c.post args (.bool true) args = true) :
    wpAny (model prog w) callerA (call (.ref fa) [.ref l]) (fun v s' => GoodWG c cl mean args s₁ (.ok (.ret v)) s') (fun e s' => GoodWG c cl mean args s₁ (.error e) s') s₁ := by
  have e := mg_of (v := .ref 154) (n := Str.ofString "law") X T.g rfl
  rw [hmg] at e
  injection e with e
  injection e with e
  subst e
  obtain ⟨iz, rfl, hz⟩ := ints_of hi
  have O : Ok s₁ s₁.heap.get? s₁ := ⟨⟨_, _, rfl⟩, PM.le_refl _, PM.le_refl _, ht⟩
  exact law_ok O ⟨X, mg, mb, T⟩ (by decide +kernel) (by decide +kernel) rfl rfl ⟨0, hl⟩ (by rw [hz]; exact hn) fun s' G => finish G hg hr hp
end Mine
end

open PySem PySem.W PySem.W.X PySem.W.ZRun PyProof.Rows
set_option Elab.async false
set_option maxRecDepth 100000
set_option maxHeartbeats 8000000 in
theorem PySem.Challenge.cw_pd0132_01_holds : PySem.Challenge.rw_pd0132_01.Holds := by
  w_on; o_law; z_head; (case hw => w_witness2)
  k_fill
  intro w s₀ s₁ mg mb G y fa o pm cd doc dV kV ho hd hcd hD hmg hg args vals as L hpre hlay hrd hwl hlo
  z_open y L KX ZH ZN ZT
  refine Ground.open G ?_
  intro T B D TE TW
  wrow_args hpre hlay hrd hwl hlo
  have htk := script_toks L ZT
  have KX1 : (Mine.hd.heap_1 w.params).In s₁.heap := by
    refine Mine.in_of_all KX ?_
    repeat' (first | exact List.forall_mem_nil _ | refine List.forall_mem_cons.mpr ⟨rfl, ?_⟩)
  refine Mine.call_law KX1 (topRead_of T) hmg (Nat.lt_of_lt_of_le (by decide) htk) hg (script_obj L (by assumption)) (by assumption) (by omega) (fun _ => rfl) ?_
  first | rfl | wrow_post
