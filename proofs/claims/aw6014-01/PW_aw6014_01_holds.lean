import PyProof.Rows.All
import Wide.All
import OpenK.AllK
import Wide.FinOn
import PySem.Challenge.RW_aw6014_01
set_option Elab.async false

section
open PySem PySem.W PyProof.Rows PySem.Calls
set_option maxRecDepth 100000
namespace Mine

/-- what a step leaves as it was: all objects but those of W; the generators, the draws, the world outside -/
structure Mv (W : List Addr) (s s' : Shared) : Prop where
  kp : ∀ b o, b ∉ W → s.heap.get? b = some o → s'.heap.get? b = some o
  gens : s'.gens = s.gens
  drawn : s'.drawn = s.drawn
  os : s'.os = s.os

theorem Mv.refl (W : List Addr) (s : Shared) : Mv W s s := ⟨fun _ _ _ e => e, rfl, rfl, rfl⟩
theorem Mv.toks {W : List Addr} (s : Shared) (t : Nat) : Mv W s { s with toks := t } := ⟨fun _ _ _ e => e, rfl, rfl, rfl⟩
theorem Mv.trans {W W' : List Addr} {s s' s'' : Shared} (x : Mv W s s') (y : Mv W' s' s'') (h : ∀ a ∈ W', a ∈ W ∨ s.heap.get? a = none) : Mv W s s'' :=
  ⟨fun b o hb e => y.kp b o (fun hm => (h b hm).elim hb fun hn => by rw [e] at hn; cases hn) (x.kp b o hb e), y.gens.trans x.gens, y.drawn.trans x.drawn, y.os.trans x.os⟩
theorem Mv.then {W : List Addr} {s s' s'' : Shared} (x : Mv W s s') (y : Mv [] s' s'') : Mv W s s'' := x.trans y (fun _ h => nomatch h)
theorem Mv.on {W : List Addr} {s s' s'' : Shared} (x : Mv [] s s') (y : Mv W s' s'') : Mv W s s'' :=
  ⟨fun b o hb e => y.kp b o hb (x.kp b o (fun h => nomatch h) e), y.gens.trans x.gens, y.drawn.trans x.drawn, y.os.trans x.os⟩
theorem Mv.wide {W W' : List Addr} {s s' : Shared} (x : Mv W s s') (h : ∀ a ∈ W, a ∈ W' ∨ s.heap.get? a = none) : Mv W' s s' :=
  ⟨fun b o hb e => x.kp b o (fun hm => (h b hm).elim hb fun hn => by rw [e] at hn; cases hn) e, x.gens, x.drawn, x.os⟩
theorem Mv.of {W : List Addr} {s : Shared} {h' : Heap} {tk : Nat} (h : ∀ b o, b ∉ W → s.heap.get? b = some o → h'.get? b = some o) : Mv W s { s with heap := h', toks := tk } := ⟨h, rfl, rfl, rfl⟩
theorem Mv.ofAll {s : Shared} {h' : Heap} {tk : Nat} (h : ∀ b o, s.heap.get? b = some o → h'.get? b = some o) : Mv [] s { s with heap := h', toks := tk } := ⟨fun b o _ e => h b o e, rfl, rfl, rfl⟩
theorem Mv.all {s s' : Shared} (x : Mv [] s s') : ∀ b o, s.heap.get? b = some o → s'.heap.get? b = some o := fun b o e => x.kp b o (fun h => nomatch h) e
theorem Mv.same {a : Addr} {s : Shared} {h' : Heap} {tk : Nat} (h : Heap.SameBut a s.heap h') : Mv [a] s { s with heap := h', toks := tk } :=
  ⟨fun b _ hb e => (h.2 b fun x => hb (List.mem_singleton.mpr x)).trans e, rfl, rfl, rfl⟩
theorem Mv.sameH {a : Addr} {s : Shared} {h' : Heap} (h : Heap.SameBut a s.heap h') : Mv [a] s { s with heap := h' } :=
  ⟨fun b _ hb e => (h.2 b fun x => hb (List.mem_singleton.mpr x)).trans e, rfl, rfl, rfl⟩
theorem Mv.push (s : Shared) (o : Obj) (tk : Nat) : Mv [] s { s with heap := s.heap.push o, toks := tk } := Mv.ofAll fun _ _ e => Heap.get?_push_of_some _ e

theorem fresh_size (h : Heap) : h.get? h.objs.size = none := by
  cases e : h.get? h.objs.size with
  | none => rfl
  | some o => exact absurd (Heap.lt_size e) (Nat.lt_irrefl _)
theorem ne_new {h : Heap} {a b : Addr} {o : Obj} (e : h.get? a = some o) (n : h.get? b = none) : a ≠ b := fun x => by rw [x, n] at e; cases e
theorem old_none {W : List Addr} {s s' : Shared} (x : Mv W s s') {a : Addr} (n : s'.heap.get? a = none) (ha : a ∉ W) : s.heap.get? a = none := by
  cases e : s.heap.get? a with
  | none => rfl
  | some o => rw [x.kp a o ha e] at n; cases n

/-- a name's value in a frame: local, cell or free -/
def okName (n : Str) : Bool := !(n == ("__debug__" : Str)) && !(n == ("__classdict__" : Str))
structure VarAt (h : Heap) (env : Env) (n : Str) (v : Value) : Prop where
  ok : okName n = true
  is : (env.kindOf n = some .local ∧ ∃ m, h.Ns env.locals m ∧ m n = some v) ∨ ((env.kindOf n = some .cell ∨ env.kindOf n = some .free) ∧ ∃ c, env.cells.lookup n = some c ∧ h.IsCell c (some v))

theorem okd {n : Str} (h : okName n = true) : (n == ("__debug__" : Str)) = false := by
  simp only [okName, Bool.and_eq_true, Bool.not_eq_true'] at h; exact h.1
theorem okc {n : Str} (h : okName n = true) : (n == ("__classdict__" : Str)) = false := by
  simp only [okName, Bool.and_eq_true, Bool.not_eq_true'] at h; exact h.2

section
variable {M : Model} {A : Around} {E : Value → Shared → Prop} {s : Shared} {env : Env}

theorem ld {n : Str} {v : Value} {Q : Value → Shared → Prop} (hk : env.scope.kind = .function) (hv : VarAt s.heap env n v) (h : Q v s) : wpAny M A (loadName env n) Q E s := by
  rcases hv.is with ⟨hl, m, hn, hm⟩ | ⟨hl, c, hc, hv'⟩
  · exact wpAny_loadName_local hk hl hn hm h
  · rcases hl with hl | hl
    · exact wpAny_loadName_cell hk hl hc hv' h
    · exact wpAny_loadName_free hk hl hc hv' h (okc hv.ok)
theorem ev_name {n : Str} {pos : Pos} {v : Value} {Q : Value → Shared → Prop} (hk : env.scope.kind = .function) (hv : VarAt s.heap env n v) (h : Q v s) :
    wpAny M A (eval (.Name n pos) env) Q E s := wpAny_Name (ld hk hv h) (okd hv.ok)

/-- builtins and globals -/
theorem ev_glob {n : Str} {pos : Pos} {v : Value} {mg : Str → Option Value} {Q : Value → Shared → Prop} (hk : env.scope.kind = .function) (hx : env.kindOf n = some .globalImplicit)
    (hg : s.heap.Ns env.globals mg) (hm : mg n = some v) (hok : okName n = true) (h : Q v s) : wpAny M A (eval (.Name n pos) env) Q E s := by
  refine wpAny_Name ?_ (okd hok)
  rw [loadName_read hk hx]
  unfold loadGlobal
  refine wpAny_bind (wpAny_nsGet hg ?_)
  rw [hm]
  exact wpAny_pure h
theorem ev_built {n : Str} {pos : Pos} {v : Value} {mg mb : Str → Option Value} {Q : Value → Shared → Prop} (hk : env.scope.kind = .function) (hx : env.kindOf n = some .globalImplicit)
    (hg : s.heap.Ns env.globals mg) (hm : mg n = none) (hb : s.heap.Ns env.builtins mb) (hmb : mb n = some v) (hok : okName n = true) (h : Q v s) : wpAny M A (eval (.Name n pos) env) Q E s := by
  refine wpAny_Name ?_ (okd hok)
  rw [loadName_read hk hx]
  unfold loadGlobal
  refine wpAny_bind (wpAny_nsGet hg ?_)
  rw [hm]
  refine wpAny_bind (wpAny_nsGet hb ?_)
  rw [hmb]
  exact wpAny_pure h
end

/-- a frame: what is fixed of it -/
structure Fm (env : Env) (hb : Heap) : Prop where
  kind : env.scope.kind = .function
  glob : env.globals = mainGlobals
  blt : env.builtins = builtinsNs
  newL : hb.get? env.locals = none
  newC : ∀ n c, env.cells.lookup n = some c → hb.get? c = none
  apart : ∀ n n' c, env.cells.lookup n = some c → env.cells.lookup n' = some c → n = n'
/-- a frame: what stands of it in the heap -/
structure Live (env : Env) (h : Heap) : Prop where
  ns : ∃ m, h.Ns env.locals m
  cell : ∀ n c, env.cells.lookup n = some c → ∃ v, h.IsCell c v
def Out (env : Env) (b : Addr) : Prop := b ≠ env.locals ∧ ∀ n, env.cells.lookup n ≠ some b

theorem Live.out {env : Env} {h : Heap} (x : Live env h) {b : Addr} (hb : h.get? b = none) : Out env b := by
  refine ⟨fun e => ?_, fun n e => ?_⟩
  · obtain ⟨m, o, es, ep, ho, _⟩ := x.ns
    rw [← e, hb] at ho; cases ho
  · obtain ⟨v, o, ho, _⟩ := x.cell n b e
    rw [hb] at ho; cases ho
theorem Fm.out {env : Env} {hb : Heap} (F : Fm env hb) {b : Addr} {o : Obj} (e : hb.get? b = some o) : Out env b :=
  ⟨fun x => (by rw [x, F.newL] at e; cases e), fun n x => (by rw [F.newC n b x] at e; cases e)⟩

/-- a step within an expression: all that stands is kept -/
structure Ex (s s' : Shared) : Prop where
  kp : ∀ b o, s.heap.get? b = some o → s'.heap.get? b = some o
  gens : AllBare s.gens → AllBare s'.gens
  os : s'.os = s.os
/-- a step of the frame env: all that stands is kept but its own names (and X) -/
structure Fs (env : Env) (X : List Addr) (s s' : Shared) : Prop where
  kp : ∀ b o, Out env b → b ∉ X → s.heap.get? b = some o → s'.heap.get? b = some o
  gens : AllBare s.gens → AllBare s'.gens
  os : s'.os = s.os

theorem Mv.ex {s s' : Shared} (x : Mv [] s s') : Ex s s' := ⟨x.all, fun h => by rw [x.gens]; exact h, x.os⟩
theorem Ex.refl (s : Shared) : Ex s s := ⟨fun _ _ e => e, id, rfl⟩
theorem Ex.toks (s : Shared) (t : Nat) : Ex s { s with toks := t } := ⟨fun _ _ e => e, id, rfl⟩
theorem Ex.trans {s s' s'' : Shared} (x : Ex s s') (y : Ex s' s'') : Ex s s'' := ⟨fun b o e => y.kp b o (x.kp b o e), fun h => y.gens (x.gens h), y.os.trans x.os⟩
theorem Ex.fs {env : Env} {X : List Addr} {s s' : Shared} (x : Ex s s') : Fs env X s s' := ⟨fun b o _ _ e => x.kp b o e, x.gens, x.os⟩
theorem Fs.refl (env : Env) (X : List Addr) (s : Shared) : Fs env X s s := (Ex.refl s).fs
theorem Fs.trans {env : Env} {X : List Addr} {s s' s'' : Shared} (x : Fs env X s s') (y : Fs env X s' s'') : Fs env X s s'' :=
  ⟨fun b o h1 h2 e => y.kp b o h1 h2 (x.kp b o h1 h2 e), fun h => y.gens (x.gens h), y.os.trans x.os⟩
theorem Ex.none {s s' : Shared} (x : Ex s s') {a : Addr} (n : s'.heap.get? a = none) : s.heap.get? a = none := by
  cases e : s.heap.get? a with
  | none => rfl
  | some o => rw [x.kp a o e] at n; cases n

theorem VarAt.keeps {h h' : Heap} {env : Env} {n : Str} {v : Value} (x : VarAt h env n v) (k : ∀ b o, h.get? b = some o → h'.get? b = some o) : VarAt h' env n v :=
  ⟨x.ok, x.is.imp (fun ⟨a, m, b, c⟩ => ⟨a, m, b.keeps k, c⟩) fun ⟨a, c, b, d⟩ => ⟨a, c, b, d.keeps k⟩⟩
theorem Live.keeps {h h' : Heap} {env : Env} (x : Live env h) (k : ∀ b o, h.get? b = some o → h'.get? b = some o) : Live env h' :=
  ⟨let ⟨m, e⟩ := x.ns; ⟨m, e.keeps k⟩, fun n c e => let ⟨v, y⟩ := x.cell n c e; ⟨v, y.keeps k⟩⟩

/-- a name is stored -/
structure Stored (env : Env) (n : Str) (v : Value) (s s' : Shared) : Prop where
  fs : Fs env [] s s'
  gens : s'.gens = s.gens
  live : Live env s'.heap
  var : VarAt s'.heap env n v
  vars : ∀ n' v', n' ≠ n → VarAt s.heap env n' v' → VarAt s'.heap env n' v'
  own : ∀ b o, b ≠ env.locals → env.cells.lookup n ≠ some b → s.heap.get? b = some o → s'.heap.get? b = some o
  drawn : s'.drawn = s.drawn
  toks : s.toks ≤ s'.toks

section
variable {M : Model} {A : Around} {E : Value → Shared → Prop} {s : Shared} {env : Env} {hb : Heap}
theorem st_name {n : Str} {v : Value} {Q : Unit → Shared → Prop} (F : Fm env hb) (Lv : Live env s.heap)
    (hl : env.kindOf n = some .local ∨ (env.kindOf n = some .cell ∧ (env.cells.lookup n).isSome = true)) (hok : okName n = true)
    (h : ∀ s', Stored env n v s s' → Q () s') : wpAny M A (storeName env n v) Q E s := by
  obtain ⟨m, hn⟩ := Lv.ns
  have cellL : ∀ n c, env.cells.lookup n = some c → c ≠ env.locals := fun n c hc e => by
    obtain ⟨u, o, ho, hd⟩ := Lv.cell n c hc
    obtain ⟨o', es, ep, ho', hd', _⟩ := hn
    rw [e, ho'] at ho; cases ho
    rw [hd'] at hd; cases hd
  rcases hl with hl | ⟨hl, hc⟩
  · refine wpAny_storeName_local hl hn (fun h' hn' hs' => h _ ⟨⟨fun b o hb _ e => (hs'.2 b hb.1).trans e, id, rfl⟩, rfl, ⟨⟨_, hn'⟩, fun n' c hc => ?_⟩, ⟨hok, .inl ⟨hl, _, hn', if_pos rfl⟩⟩, fun n' v' hne x => ⟨x.ok, ?_⟩, fun b o hb _ e => (hs'.2 b hb).trans e, rfl, by first | exact Nat.le_succ _ | exact Nat.le_refl _⟩) (by rw [F.kind]; rfl)
    · obtain ⟨u, hu⟩ := Lv.cell n' c hc
      exact ⟨u, hu.sameBut hs' (cellL n' c hc)⟩
    · rcases x.is with ⟨k, m', a, b⟩ | ⟨k, c, hc, hv⟩
      · refine .inl ⟨k, _, hn', ?_⟩
        have : m' n' = m n' := by
          obtain ⟨o1, es1, ep1, ho1, hd1, _, q1⟩ := a
          obtain ⟨o2, es2, ep2, ho2, hd2, _, q2⟩ := hn
          rw [ho1] at ho2; cases ho2
          rw [hd1] at hd2; cases hd2
          rw [← q1, ← q2]
        rw [if_neg hne, ← this]; exact b
      · exact .inr ⟨k, c, hc, hv.sameBut hs' (cellL n' c hc)⟩
  · obtain ⟨c, hc⟩ := Option.isSome_iff_exists.mp hc
    obtain ⟨v₀, h0⟩ := Lv.cell n c hc
    have hcL := cellL n c hc
    refine wpAny_storeName_cell F.kind hl hc h0 fun h' hc' hs' => h _ ⟨⟨fun b o hb _ e => (hs'.2 b fun x => hb.2 n (x ▸ hc)).trans e, id, rfl⟩, rfl, ⟨⟨m, hn.sameBut hs' (Ne.symm hcL)⟩, fun n' c' hc'' => ?_⟩, ⟨hok, .inr ⟨.inl hl, c, hc, hc'⟩⟩, fun n' v' hne x => ⟨x.ok, ?_⟩, fun b o _ hb e => (hs'.2 b fun x => hb (x ▸ hc)).trans e, rfl, by first | exact Nat.le_succ _ | exact Nat.le_refl _⟩
    · by_cases e : c' = c
      · subst e; exact ⟨_, hc'⟩
      · obtain ⟨u, hu⟩ := Lv.cell n' c' hc''
        exact ⟨u, hu.sameBut hs' e⟩
    · rcases x.is with ⟨k, m', a, b⟩ | ⟨k, c', hc'', hv⟩
      · exact .inl ⟨k, m', a.sameBut hs' (Ne.symm hcL), b⟩
      · refine .inr ⟨k, c', hc'', hv.sameBut hs' fun e => hne (F.apart n' n c (e ▸ hc'') hc)⟩
end
end Mine
end

section
open PySem PySem.W PyProof.Rows PySem.Calls
set_option maxRecDepth 100000
namespace Mine

theorem bindL_other {k : Str → Option NameKind} {n : Str} : ∀ (r : List (Str × Value)) (m : Str → Option Value), n ∉ r.map (·.1) → bindL k r m n = m n
  | [], _, _ => rfl
  | (x, v) :: r, m, h => by
    simp only [List.map_cons, List.mem_cons, not_or] at h
    unfold bindL
    rw [bindL_other r _ h.2]
    split
    · exact if_neg h.1
    · rfl
theorem bindC_other {k : Str → Option NameKind} {n : Str} : ∀ (r : List (Str × Value)) (m : Str → Option Value), n ∉ r.map (·.1) → bindC k r m n = m n
  | [], _, _ => rfl
  | (x, v) :: r, m, h => by
    simp only [List.map_cons, List.mem_cons, not_or] at h
    unfold bindC
    rw [bindC_other r _ h.2]
    split
    · rfl
    · exact if_neg h.1
theorem bindL_mem {k : Str → Option NameKind} : ∀ {r : List (Str × Value)} {m : Str → Option Value}, (r.map (·.1)).Nodup → ∀ {p}, p ∈ r → k p.1 = some .local → bindL k r m p.1 = some p.2
  | (x, v) :: r, m, hn, p, hp, hk => by
    rw [List.map_cons, List.nodup_cons] at hn
    unfold bindL
    rcases List.mem_cons.mp hp with rfl | hp
    · rw [bindL_other r _ hn.1, if_pos hk]; exact if_pos rfl
    · exact bindL_mem hn.2 hp hk
theorem bindC_mem {k : Str → Option NameKind} : ∀ {r : List (Str × Value)} {m : Str → Option Value}, (r.map (·.1)).Nodup → ∀ {p}, p ∈ r → k p.1 ≠ some .local → bindC k r m p.1 = some p.2
  | (x, v) :: r, m, hn, p, hp, hk => by
    rw [List.map_cons, List.nodup_cons] at hn
    unfold bindC
    rcases List.mem_cons.mp hp with rfl | hp
    · rw [bindC_other r _ hn.1, if_neg hk]; exact if_pos rfl
    · exact bindC_mem hn.2 hp hk

/-- the binds' kinds, closed looks -/
def bindsOk (scope : Scope) (ns : List Str) : Bool :=
  ns.all (fun n => okName n && (scope.names.lookup n == some .local || (scope.names.lookup n == some .cell && ((cellsFrom 0 scope.names []).lookup n).isSome)))
def cellNames (scope : Scope) : List Str := (cellsFrom 0 scope.names []).map (·.1)

theorem cells_lookup_isSome {names : List (Str × NameKind)} {n m : Nat} {x : Str} (h : ((cellsFrom n names []).lookup x).isSome = true) : ((cellsFrom m names []).lookup x).isSome = true := by
  have e := cellsFrom_names names n m [] [] rfl
  have key : ∀ (l : List (Str × Addr)), (l.lookup x).isSome = true ↔ x ∈ l.map (·.1) := fun l => by
    induction l with
    | nil => simp
    | cons p r ih =>
      rw [List.lookup_cons]
      cases hx : x == p.1 with
      | true => simp [beq_iff_eq.mp hx]
      | false =>
        simp only [List.map_cons, List.mem_cons]
        rw [ih]
        constructor
        · exact .inr
        · rintro (q | q)
          · rw [q] at hx; simp at hx
          · exact q
  rw [key] at h ⊢
  rw [← e]; exact h

section
variable {prog : Program} {w : World} {A : Around} {E : Value → Shared → Prop} {s : Shared}

theorem call_fn {a : Addr} {o : Obj} {fd : FuncData} {body : List Stmt} {args : Args} {binds : List (Str × Value)} {Q : Value → Shared → Prop}
    (hroom : A.depth < recursionLimit) (ho : s.heap.get? a = some o) (hdata : o.data = .func fd) (hlim : s.heap.NoLimit) (hcd : s.heap.CodeRec fd.code fd.qualname)
    (hbody : fd.body = .stmts body) (hbind : BindsTo s fd args binds) (hclo : fd.closure = []) (hglob : fd.globals = mainGlobals) (hblt : fd.builtins = builtinsNs)
    (hk : fd.scope.kind = .function) (hco : fd.scope.isCoroutine = false) (hgen : fd.scope.isGenerator = false)
    (hok : bindsOk fd.scope (binds.map (·.1)) = true) (hnd : (binds.map (·.1)).Nodup) 
    (h : ∀ env s₁ E', env.scope = fd.scope → env.locals = s.heap.objs.size → env.cells = cellsFrom (s.heap.objs.size + 1) fd.scope.names [] → Fm env s.heap → Live env s₁.heap → Mv [] s s₁ → (∀ p ∈ binds, VarAt s₁.heap env p.1 p.2) →
      wpAny (model prog w) (A.deeper env) (execs body env) (fun f s' => Q (match f with | .ret v => v | _ => .none) s') E' s₁) :
    wpAny (model prog w) A (call (.ref a) args.pos args.kw) Q E s := by
  refine wpAny_call (codeAny_call_function hroom ho hdata hco hgen hbody hcd (hbind _ _ _ _ ?_))
  rw [hclo]
  have kinds : ∀ x ∈ binds, okName x.1 = true ∧ (fd.scope.names.lookup x.1 = some .local ∨ (fd.scope.names.lookup x.1 = some .cell ∧ ((cellsFrom 0 fd.scope.names []).lookup x.1).isSome = true)) := fun x hx => by
    have := List.all_eq_true.mp hok x.1 (List.mem_map_of_mem hx)
    simp only [Bool.and_eq_true, Bool.or_eq_true, beq_iff_eq] at this
    exact this
  refine wpAny_newFunctionEnv_cells hk (fun x hx => (kinds x hx).2.imp id fun ⟨p, q⟩ => ⟨p, cells_lookup_isSome q⟩) fun env he s' x => ?_
  have hL : env.locals = s.heap.objs.size := by subst he; rfl
  have hC : env.cells = cellsFrom (s.heap.objs.size + 1) fd.scope.names [] := by subst he; rfl
  have hS : env.scope = fd.scope := by subst he; rfl
  have hG : env.globals = fd.globals := by subst he; rfl
  have hB : env.builtins = fd.builtins := by subst he; rfl
  refine ⟨hlim.keeps x.toInCall.keep, codeAny_func ?_⟩
  have above := x.above
  have cellM : ∀ n c, env.cells.lookup n = some c → s.heap.objs.size < c := fun n c hc => by
    have := above n c (mem_of_lookup hc); rw [hL] at this; exact this
  have none_of : ∀ c, s.heap.objs.size ≤ c → s.heap.get? c = none := fun c hc => by
    cases e : s.heap.get? c with
    | none => rfl
    | some o' => exact absurd (Heap.lt_size e) (Nat.not_lt.mpr hc)
  obtain ⟨h', tk, rfl, hk'⟩ := x.toInCall.done
  refine wpAny_mono (h env _ _ hS hL hC ⟨by rw [hS]; exact hk, by rw [hG]; exact hglob, by rw [hB]; exact hblt, none_of _ (by rw [hL]; exact Nat.le_refl _), fun n c hc => none_of _ (Nat.le_of_lt (cellM n c hc)), fun n n' c h1 h2 => name_of_addr x.apart (mem_of_lookup h1) (mem_of_lookup h2)⟩
    ⟨⟨_, x.toInCall.ns⟩, fun n c hc => ⟨_, x.cell n c hc⟩⟩ (Mv.ofAll hk') (fun p hp => ?_)) (fun f s'' q => q) fun _ _ q => q
  obtain ⟨hokp, hkp⟩ := kinds p hp
  have hkind : env.kindOf p.1 = fd.scope.names.lookup p.1 := by unfold Env.kindOf; rw [hS]
  rcases hkp with hkp | ⟨hkp, hc⟩
  · exact ⟨hokp, .inl ⟨hkind.trans hkp, _, x.toInCall.ns, bindL_mem hnd hp (hkind.trans hkp)⟩⟩
  · obtain ⟨c, hc⟩ := Option.isSome_iff_exists.mp (cells_lookup_isSome (m := s.heap.objs.size + 1) hc)
    rw [← hC] at hc
    refine ⟨hokp, .inr ⟨.inl (hkind.trans hkp), c, hc, ?_⟩⟩
    have := x.cell p.1 c hc
    rwa [bindC_mem hnd hp (by rw [hkind, hkp]; decide)] at this
end

def builtNames : List Str := ["next", "iter", "list", "zip", "set", "dict", "len", "abs", "int", "range", "tuple", "sorted", "isinstance"]
/-- the world that the law finds -/
structure Wd (mg mb : Str → Option Value) (h : Heap) : Prop where
  g : h.Ns mainGlobals mg
  b : h.Ns builtinsNs mb
  lim : h.NoLimit
  bi : ∀ x : Str, x ≠ "__name__" → mb x = bootBuiltins x
  nob : ∀ x ∈ builtNames, mg x = none
theorem Wd.keeps {mg mb : Str → Option Value} {h h' : Heap} (D : Wd mg mb h) (k : ∀ b o, h.get? b = some o → h'.get? b = some o) : Wd mg mb h' :=
  ⟨D.g.keeps k, D.b.keeps k, D.lim.keeps k, D.bi, D.nob⟩

/-- a def of the text stands at a -/
structure FnAt (h : Heap) (mg : Str → Option Value) (name : Str) (params : Arguments) (body : List Stmt) (scope : Scope) (a : Addr) : Prop where
  glob : mg name = some (.ref a)
  is : ∃ o pm code doc, h.get? a = some o ∧ o.data = .func (docDef name params body scope pm code doc) ∧ h.CodeRec code name
theorem FnAt.keeps {h h' : Heap} {mg : Str → Option Value} {name : Str} {params : Arguments} {body : List Stmt} {scope : Scope} {a : Addr} (x : FnAt h mg name params body scope a)
    (k : ∀ b o, h.get? b = some o → h'.get? b = some o) : FnAt h' mg name params body scope a :=
  ⟨x.glob, let ⟨o, pm, code, doc, e, d, c⟩ := x.is; ⟨o, pm, code, doc, k _ _ e, d, c.keeps k⟩⟩

/-- closed looks at a scope -/
def kB (sc : Scope) (n : Str) (v : Value) : Bool := sc.names.lookup n == some .globalImplicit && okName n && builtNames.contains n && bootBuiltins n == some v && !(n == ("__name__" : Str))
/-- the name's part, once a name -/
def kV (n : Str) (v : Value) : Bool := okName n && builtNames.contains n && bootBuiltins n == some v && !(n == ("__name__" : Str))
theorem kB_of {sc : Scope} {n : Str} {v : Value} (h : (sc.names.lookup n == some .globalImplicit) = true) (hv : kV n v = true) : kB sc n v = true := by
  simp only [kV, Bool.and_eq_true] at hv
  simp only [kB, Bool.and_eq_true]
  exact ⟨⟨⟨⟨h, hv.1.1.1⟩, hv.1.1.2⟩, hv.1.2⟩, hv.2⟩
theorem kv_list : kV "list" (.type "list") = true := by decide +kernel
theorem kv_range : kV "range" (.type "range") = true := by decide +kernel
theorem kv_sorted : kV "sorted" (.builtin "sorted") = true := by decide +kernel
theorem kv_len : kV "len" (.builtin "len") = true := by decide +kernel
theorem kv_iter : kV "iter" (.builtin "iter") = true := by decide +kernel
theorem kv_tuple : kV "tuple" (.type "tuple") = true := by decide +kernel
theorem kv_dict : kV "dict" (.type "dict") = true := by decide +kernel
theorem kv_zip : kV "zip" (.type "zip") = true := by decide +kernel
theorem kv_set : kV "set" (.type "set") = true := by decide +kernel
theorem kv_next : kV "next" (.builtin "next") = true := by decide +kernel
theorem kv_isinstance : kV "isinstance" (.builtin "isinstance") = true := by decide +kernel
theorem kv_int : kV "int" (.type "int") = true := by decide +kernel
theorem kv_abs : kV "abs" (.builtin "abs") = true := by decide +kernel
/-- the frame's names are looked up as the scope sc says -/
def Kin (env : Env) (sc : Scope) : Prop := ∀ n k, k ≠ .free → sc.names.lookup n = some k → env.kindOf n = some k
theorem Kin.of {env : Env} {sc : Scope} (h : env.scope = sc) : Kin env sc := fun n k _ e => by unfold Env.kindOf; rw [h]; exact e
def kG (sc : Scope) (n : Str) : Bool := sc.names.lookup n == some .globalImplicit && okName n

section
variable {prog : Program} {w : World} {A : Around} {E : Value → Shared → Prop} {s : Shared} {env : Env} {hb : Heap} {mg mb : Str → Option Value}

theorem ev_b {n : Str} {pos : Pos} {v : Value} {sc : Scope} {Q : Value → Shared → Prop} (F : Fm env hb) (D : Wd mg mb s.heap) (hs : Kin env sc) (hk : kB sc n v = true) (h : Q v s) :
    wpAny (model prog w) A (eval (.Name n pos) env) Q E s := by
  simp only [kB, Bool.and_eq_true, beq_iff_eq, Bool.not_eq_true', List.contains_iff_mem] at hk
  obtain ⟨⟨⟨⟨h1, h2⟩, h3⟩, h4⟩, h5⟩ := hk
  have hne : n ≠ ("__name__" : Str) := fun e => by rw [e] at h5; simp at h5
  exact ev_built F.kind (hs n _ (by decide) h1) (by rw [F.glob]; exact D.g) (D.nob n h3) (by rw [F.blt]; exact D.b) ((D.bi n hne).trans h4) h2 h
theorem ev_g {n : Str} {pos : Pos} {v : Value} {sc : Scope} {Q : Value → Shared → Prop} (F : Fm env hb) (D : Wd mg mb s.heap) (hs : Kin env sc) (hk : kG sc n = true) (hm : mg n = some v) (h : Q v s) :
    wpAny (model prog w) A (eval (.Name n pos) env) Q E s := by
  simp only [kG, Bool.and_eq_true, beq_iff_eq] at hk
  exact ev_glob F.kind (hs n _ (by decide) hk.1) (by rw [F.glob]; exact D.g) hm hk.2 h

/-- f(e, ..) of a builtin function, a type, a def -/
theorem ev_cB {n : Str} {p pos : Pos} {e : Expr} {rest : List Expr} {id : String} {sc : Scope} {Q : Value → Shared → Prop} (F : Fm env hb) (D : Wd mg mb s.heap) (hs : Kin env sc) (hk : kB sc n (.builtin id) = true)
    (h : wpAny (model prog w) A (spliced (backTo pos (starEach (e :: rest) env))) (fun vs s₁ => wpAny (model prog w) A (call (.builtin id) vs) Q E s₁) E s)
    (he : starEach (e :: rest) env = (false, eval e env) :: starEach rest env := by rfl) (hplain : (backTo pos (starEach rest env)).any (·.1) = false := by rfl) :
    wpAny (model prog w) A (eval (.Call (.Name n p) (e :: rest) [] pos) env) Q E s := by
  refine wpAny_Call_Name_kw (ev_b F D hs hk ?_)
  refine callWith_builtin (first := []) (by rw [he]; simp only [backTo, List.map_cons, List.any_cons] at hplain ⊢; rw [hplain]; rfl) ?_
  rw [he] at h ⊢
  exact evalArgs_plain (wpAny_mono h (fun vs s' h' => h') fun _ _ x => x)
theorem ev_cT {n : Str} {p pos : Pos} {e : Expr} {rest : List Expr} {T : String} {sc : Scope} {Q : Value → Shared → Prop} (F : Fm env hb) (D : Wd mg mb s.heap) (hs : Kin env sc) (hk : kB sc n (.type T) = true)
    (h : wpAny (model prog w) A (spliced (backTo pos (starEach (e :: rest) env))) (fun vs s₁ => wpAny (model prog w) A (call (.type T) vs) Q E s₁) E s)
    (he : starEach (e :: rest) env = (false, eval e env) :: starEach rest env := by rfl) (hplain : (backTo pos (starEach rest env)).any (·.1) = false := by rfl) :
    wpAny (model prog w) A (eval (.Call (.Name n p) (e :: rest) [] pos) env) Q E s := by
  refine wpAny_Call_Name_kw (ev_b F D hs hk ?_)
  refine PySem.callWith_type (first := []) (by rw [he]; simp only [backTo, List.map_cons, List.any_cons] at hplain ⊢; rw [hplain]; rfl) ?_
  rw [he] at h ⊢
  exact evalArgs_plain (wpAny_mono h (fun vs s' h' => h') fun _ _ x => x)
theorem ev_cT0 {n : Str} {p pos : Pos} {T : String} {sc : Scope} {Q : Value → Shared → Prop} (F : Fm env hb) (D : Wd mg mb s.heap) (hs : Kin env sc) (hk : kB sc n (.type T) = true)
    (h : wpAny (model prog w) A (call (.type T) []) Q E s) :
    wpAny (model prog w) A (eval (.Call (.Name n p) [] [] pos) env) Q E s := by
  refine wpAny_Call_Name_kw (ev_b F D hs hk ?_)
  exact PySem.callWith_type (first := []) rfl (PySem.evalArgs_none h)
theorem ev_cF {n : Str} {p pos : Pos} {e : Expr} {rest : List Expr} {a : Addr} {params : Arguments} {body : List Stmt} {scope : Scope} {sc : Scope} {Q : Value → Shared → Prop} (F : Fm env hb) (D : Wd mg mb s.heap) (hs : Kin env sc) (hk : kG sc n = true)
    (X : FnAt s.heap mg n params body scope a)
    (h : wpAny (model prog w) A (spliced (backTo pos (starEach (e :: rest) env))) (fun vs s₁ => (∀ b o, s.heap.get? b = some o → s₁.heap.get? b = some o) ∧ wpAny (model prog w) A (call (.ref a) vs) Q E s₁) E s)
    (he : starEach (e :: rest) env = (false, eval e env) :: starEach rest env := by rfl) :
    wpAny (model prog w) A (eval (.Call (.Name n p) (e :: rest) [] pos) env) Q E s := by
  refine wpAny_Call_Name_kw (ev_g F D hs hk X.glob ?_)
  obtain ⟨o, pm, code, doc, ho, hd, hc⟩ := X.is
  exact callWith_def_at ho hd (wpAny_mono h (fun vs s₁ h₁ => ⟨h₁.1 _ _ ho, h₁.2⟩) fun _ _ x => x) he
theorem arg_nil {pos : Pos} {Q : List Value → Shared → Prop} (h : Q [] s) : wpAny (model prog w) A (spliced (backTo pos (starEach [] env))) Q E s := wpAny_items_nil h
theorem arg_cons {pos : Pos} {e : Expr} {rest : List Expr} {Q : List Value → Shared → Prop}
    (h : wpAny (model prog w) A (eval e env) (fun v s₁ => wpAny (model prog w) A (spliced (backTo pos (starEach rest env))) (fun vs s₂ => Q (v :: vs) s₂) E s₁) E s)
    (he : starEach (e :: rest) env = (false, eval e env) :: starEach rest env := by rfl) : wpAny (model prog w) A (spliced (backTo pos (starEach (e :: rest) env))) Q E s := wpAny_items_cons h he
theorem arg1 {pos : Pos} {e : Expr} {Q : List Value → Shared → Prop}
    (h : wpAny (model prog w) A (eval e env) (fun v s₁ => Q [v] s₁) E s)
    (he : starEach [e] env = (false, eval e env) :: starEach [] env := by rfl) : wpAny (model prog w) A (spliced (backTo pos (starEach [e] env))) Q E s :=
  arg_cons (wpAny_mono h (fun _ _ q => arg_nil q) fun _ _ x => x) he
end

def scopeOk (scope : Scope) (ns : List Str) : Bool := scope.kind == .function && !scope.isCoroutine && bindsOk scope ns
section
variable {prog : Program} {w : World} {A : Around} {E : Value → Shared → Prop} {s : Shared} {mg mb : Str → Option Value}

theorem call_at {name : Str} {params : Arguments} {body : List Stmt} {scope : Scope} {a : Addr} {vals : List Value} {binds : List (Str × Value)} {Q : Value → Shared → Prop} (hroom : A.depth < recursionLimit)
    (X : FnAt s.heap mg name params body scope a) (D : Wd mg mb s.heap) (hbind : ∀ pm code doc, bindArgs (docDef name params body scope pm code doc) ⟨vals, []⟩ = pure binds)
    (ns : List Str) (hns : binds.map (·.1) = ns) (hsc : (scopeOk scope ns && !scope.isGenerator) = true) (hnd : ns.Nodup)
    (h : ∀ env s₁ E', env.scope = scope → env.cells = cellsFrom (s.heap.objs.size + 1) scope.names [] → Fm env s.heap → Live env s₁.heap → Mv [] s s₁ → (∀ p ∈ binds, VarAt s₁.heap env p.1 p.2) →
      wpAny (model prog w) (A.deeper env) (execs body env) (fun f s' => Q (match f with | .ret v => v | _ => .none) s') E' s₁) :
    wpAny (model prog w) A (call (.ref a) vals) Q E s := by
  subst hns
  obtain ⟨o, pm, code, doc, ho, hd, hc⟩ := X.is
  simp only [scopeOk, Bool.and_eq_true, Bool.not_eq_true', beq_iff_eq] at hsc
  obtain ⟨⟨⟨h1, h2⟩, h3⟩, h4⟩ := hsc
  exact call_fn (args := ⟨vals, []⟩) hroom ho hd D.lim hc rfl (BindsTo.of_eq (hbind pm code doc)) rfl rfl rfl h1 h2 h4 h3 hnd fun env s₁ E' e1 _ e2 F L M V => h env s₁ E' e1 e2 F L M V

/-- a generator function's call: the generator, fresh -/
theorem call_gen {name : Str} {params : Arguments} {body : List Stmt} {scope : Scope} {a : Addr} {vals : List Value} {binds : List (Str × Value)} {Q : Value → Shared → Prop} (hroom : A.depth < recursionLimit)
    (X : FnAt s.heap mg name params body scope a) (D : Wd mg mb s.heap) (hbind : ∀ pm code doc, bindArgs (docDef name params body scope pm code doc) ⟨vals, []⟩ = pure binds)
    (ns : List Str) (hns : binds.map (·.1) = ns) (hsc : (scopeOk scope ns && scope.isGenerator) = true) (hnd : ns.Nodup)
    (h : ∀ env s₁ I, env.scope = scope → env.cells = cellsFrom (s.heap.objs.size + 1) scope.names [] → Fm env s.heap → Live env s₁.heap → (∀ b o, s.heap.get? b = some o → s₁.heap.get? b = some o) → (∀ p ∈ binds, VarAt s₁.heap env p.1 p.2) →
      s₁.heap.IsGen I s.gens.size → s.heap.get? I = none → Out env I → s₁.gens = s.gens.push (.fresh (.func body env)) → s₁.drawn = s.drawn → s₁.os = s.os → Q (.ref I) s₁) :
    wpAny (model prog w) A (call (.ref a) vals) Q E s := by
  subst hns
  obtain ⟨o, pm, code, doc, ho, hd, hc⟩ := X.is
  simp only [scopeOk, Bool.and_eq_true, Bool.not_eq_true', beq_iff_eq] at hsc
  obtain ⟨⟨⟨h1, h2⟩, h3⟩, h4⟩ := hsc
  refine wpAny_call (codeAny_call_generator hroom ho hd h2 h4 rfl hc ?_)
  refine BindsTo.of_eq (s := s) (hbind pm code doc) _ _ _ _ ?_
  have kinds : ∀ x ∈ binds, okName x.1 = true ∧ (scope.names.lookup x.1 = some .local ∨ (scope.names.lookup x.1 = some .cell ∧ ((cellsFrom 0 scope.names []).lookup x.1).isSome = true)) := fun x hx => by
    have := List.all_eq_true.mp h3 x.1 (List.mem_map_of_mem hx)
    simp only [Bool.and_eq_true, Bool.or_eq_true, beq_iff_eq] at this
    exact this
  refine wpAny_newFunctionEnv_cells h1 (fun x hx => (kinds x hx).2.imp id fun ⟨p, q⟩ => ⟨p, cells_lookup_isSome q⟩) fun env he s' x => ?_
  have hL : env.locals = s.heap.objs.size := by subst he; rfl
  have hC : env.cells = cellsFrom (s.heap.objs.size + 1) scope.names [] := by subst he; rfl
  have hS : env.scope = scope := by subst he; rfl
  have hG : env.globals = mainGlobals := by subst he; rfl
  have hB : env.builtins = builtinsNs := by subst he; rfl
  have above := x.above
  have cellM : ∀ n c, env.cells.lookup n = some c → s.heap.objs.size < c := fun n c hc => by
    have := above n c (mem_of_lookup hc); rw [hL] at this; exact this
  have none_of : ∀ c, s.heap.objs.size ≤ c → s.heap.get? c = none := fun c hc => by
    cases e : s.heap.get? c with
    | none => rfl
    | some o' => exact absurd (Heap.lt_size e) (Nat.not_lt.mpr hc)
  obtain ⟨h', tk, rfl, hk'⟩ := x.toInCall.done
  have Lv : Live env h' := ⟨⟨_, x.toInCall.ns⟩, fun n c hc => ⟨_, x.cell n c hc⟩⟩
  have hpush : ∀ (o : Obj) b o', h'.get? b = some o' → (h'.push o).get? b = some o' := fun o b o' e => Heap.get?_push_of_some o e
  refine ⟨D.lim.keeps hk', ?_⟩
  show Q (.ref h'.objs.size) _
  refine h env _ h'.objs.size hS hC ⟨by rw [hS]; exact h1, hG, hB, none_of _ (by rw [hL]; exact Nat.le_refl _), fun n c hc => none_of _ (Nat.le_of_lt (cellM n c hc)), fun n n' c h1 h2 => name_of_addr x.apart (mem_of_lookup h1) (mem_of_lookup h2)⟩
    (Lv.keeps (hpush _)) (fun b o' e => hpush _ b o' (hk' b o' e)) (fun p hp => ?_) ⟨_, _, _, Heap.get?_push_size _ rfl, rfl, rfl, rfl⟩ ?_ (Lv.out (fresh_size _)) rfl rfl rfl
  · obtain ⟨hokp, hkp⟩ := kinds p hp
    have hkind : env.kindOf p.1 = scope.names.lookup p.1 := by unfold Env.kindOf; rw [hS]
    rcases hkp with hkp | ⟨hkp, hc⟩
    · exact VarAt.keeps ⟨hokp, .inl ⟨hkind.trans hkp, _, x.toInCall.ns, bindL_mem hnd hp (hkind.trans hkp)⟩⟩ (hpush _)
    · obtain ⟨c, hc⟩ := Option.isSome_iff_exists.mp (cells_lookup_isSome (m := s.heap.objs.size + 1) hc)
      rw [← hC] at hc
      refine VarAt.keeps ⟨hokp, .inr ⟨.inl (hkind.trans hkp), c, hc, ?_⟩⟩ (hpush _)
      have := x.cell p.1 c hc
      rwa [bindC_mem hnd hp (by rw [hkind, hkp]; decide)] at this
  · cases e : s.heap.get? h'.objs.size with
    | none => rfl
    | some o' => have := hk' _ _ e; rw [fresh_size] at this; cases this
end
end Mine
end

section
open PySem PySem.W PyProof.Rows PySem.Calls
set_option maxRecDepth 100000
set_option linter.unusedVariables false
namespace Mine
/-- an iterator that yields n values; what is told of a value may hang on the heap -/
structure Src (prog : Program) (w : World) (A : Around) (I : Addr) (fp wr : List Addr) (G : Array GenState → Array GenState → Prop) (n : Nat) (P : Nat → Value → Heap → Prop) (St : Nat → Shared → Prop) : Prop where
  sub : ∀ b ∈ wr, b ∈ fp
  grefl : ∀ a, G a a
  gtrans : ∀ a b c, G a b → G b c → G a c
  frame : ∀ i (s : Shared) h' tk (S : Addr), St i s → S ∉ fp → (∀ o, s.heap.get? S = some o → o.cls = .type "list") → s.toks ≤ tk → (∀ b o, b ≠ S → s.heap.get? b = some o → h'.get? b = some o) → St i { s with heap := h', toks := tk }
  item : ∀ i (s : Shared) (Q : Option Value → Shared → Prop) (E : Value → Shared → Prop), i < n → St i s →
    (∀ v s', P i v s'.heap → St (i + 1) s' → Moved wr G s s' → Q (some v) s') → wpAny (model prog w) A (pyNext (.ref I)) Q E s
  done : ∀ (s : Shared) (Q : Option Value → Shared → Prop) (E : Value → Shared → Prop), St n s → (∀ s', Moved wr G s s' → Q none s') → wpAny (model prog w) A (pyNext (.ref I)) Q E s
  self : ∀ i (s : Shared) (Q : Value → Shared → Prop) (E : Value → Shared → Prop), St i s → Q (.ref I) s → wpAny (model prog w) A (pyIter (.ref I)) Q E s
  pk : ∀ i v (h h' : Heap) (S : Addr), P i v h → (∀ o, h.get? S = some o → o.cls = .type "list") → (∀ b o, b ≠ S → b ∉ wr → h.get? b = some o → h'.get? b = some o) → P i v h'

theorem Src.ofS {prog : Program} {w : World} {A : Around} {I : Addr} {fp wr : List Addr} {G : Array GenState → Array GenState → Prop} {n : Nat} {P : Nat → Value → Prop} {St : Nat → Shared → Prop}
    (W : WalksS prog w A I fp wr G n P St) : Src prog w A I fp wr G n (fun i v _ => P i v) St :=
  ⟨W.sub, W.grefl, W.gtrans, fun i s h' tk S st hS _ ht hk => W.frame i s h' tk st ht fun b hb o e => hk b o (fun x => hS (x ▸ hb)) e, W.item, W.done, W.self, fun _ _ _ _ _ h _ _ => h⟩

theorem isL {h : Heap} {S : Addr} {xs : Array Value} {c : Nat} (e : h.get? S = some { cls := .type "list", dict := none, data := .seq xs c, slots := #[] }) : ∀ o, h.get? S = some o → o.cls = .type "list" := fun o e' => by rw [e] at e'; cases e'; rfl
def ItemsV (P : Nat → Value → Heap → Prop) (acc : Array Value) (i : Nat) (h : Heap) : Prop := acc.size = i ∧ ∀ j v, acc[j]? = some v → P j v h
theorem ItemsV.push {P : Nat → Value → Heap → Prop} {acc : Array Value} {i : Nat} {x : Value} {h : Heap} (y : ItemsV P acc i h) (hx : P i x h) : ItemsV P (acc.push x) (i + 1) h := by
  refine ⟨by rw [Array.size_push, y.1], fun j v hj => ?_⟩
  rw [Array.getElem?_push] at hj
  split at hj
  · rename_i e; rw [y.1] at e; cases hj; rw [e]; exact hx
  · exact y.2 j v hj

section
variable {prog : Program} {w : World} {A : Around} {E : Value → Shared → Prop} {s : Shared}
variable {I : Addr} {fp wr : List Addr} {G : Array GenState → Array GenState → Prop} {n : Nat} {P : Nat → Value → Heap → Prop} {St : Nat → Shared → Prop}

theorem extend_loopV {R : Result → Shared → Prop} (W : Src prog w A.in1 I fp wr G n P St) (hn : n ≤ sizeLine) (S : Addr) (hSf : S ∉ fp) (res : Value) :
    ∀ (k i : Nat) (s : Shared) (acc : Array Value) (c : Nat), n - i = k → i ≤ n → St i s → s.heap.get? S = some { cls := .type "list", dict := none, data := .seq acc c, slots := #[] } → ItemsV P acc i s.heap →
    (∀ s' acc' c', Moved (S :: wr) G s s' → s'.heap.get? S = some { cls := .type "list", dict := none, data := .seq acc' c', slots := #[] } → ItemsV P acc' n s'.heap → R (.ok (.ret res)) s') →
    codeAny (model prog w) A (.builtin "list.extend.loop" ⟨[.ref S, .ref I, res], []⟩) R s := by
  have hSw : S ∉ wr := fun h => hSf (W.sub _ h)
  have hsub : ∀ b ∈ wr, b ∈ S :: wr := fun b hb => List.mem_cons_of_mem _ hb
  intro k
  induction k with
  | zero =>
    intro i s acc c hk hi hst hS hacc hR
    have hin : i = n := by omega
    subst hin
    refine codeAny_builtin PySem.F.entry_extend_loop ?_
    rw [Around.under_plainId PySem.F.plain_extend_loop _]
    show wpAny _ A.in1 (pyNext (.ref I) >>= _) _ _ s
    refine wpAny_bind (W.done s _ _ hst fun s' hm => ?_)
    exact wpAny_pure (hR s' acc c (hm.mono hsub) (hm.heap S _ hSw hS) ⟨hacc.1, fun j v e => W.pk j v _ _ S (hacc.2 j v e) (isL hS) fun b o _ hb e => hm.heap b o hb e⟩)
  | succ k ih =>
    intro i s acc c hk hi hst hS hacc hR
    have hlt : i < n := by omega
    refine codeAny_builtin PySem.F.entry_extend_loop ?_
    rw [Around.under_plainId PySem.F.plain_extend_loop _]
    show wpAny _ A.in1 (pyNext (.ref I) >>= _) _ _ s
    refine wpAny_bind (W.item i s _ _ hlt hst fun v s' hP hst' hm => ?_)
    have hS' := hm.heap S _ hSw hS
    have oth : ∀ b o, b ≠ S → s'.heap.get? b = some o → (s'.heap.update S (Obj.mapSeq (·.push v))).get? b = some o := fun b o hb e => (Heap.get?_update_other _ _ (Ne.symm hb)).trans e
    show wpAny _ A.in1 (updateSeq S (·.push v) >>= _) _ _ _
    refine wpAny_bind ?_
    refine wpAny_updateSeq hS' rfl (wpAny_pure ⟨plainId_quiet PySem.F.plain_extend_loop _, ih (i + 1) _ (acc.push v) _ (by omega) hlt (W.frame _ s' _ s'.toks S hst' hSf (isL hS') (Nat.le_refl _) oth) (Heap.get?_update_self _ hS' rfl) (ItemsV.push ⟨hacc.1, fun j u e => ?_⟩ ?_) fun s'' acc' c' hm'' hS'' hacc' => ?_⟩)
      (by rw [hacc.1]; omega) (by show (acc.push v).size ≤ sizeLine + 1; rw [Array.size_push, hacc.1]; omega)
    · exact W.pk j u _ _ S (W.pk j u _ _ S (hacc.2 j u e) (isL hS) fun b o _ hb e => hm.heap b o hb e) (isL hS') fun b o hb _ e => oth b o hb e
    · exact W.pk i v _ _ S hP (isL hS') fun b o hb _ e => oth b o hb e
    · refine hR s'' acc' c' (Moved.trans W.gtrans ((hm.mono hsub).then_heap (by first | exact Nat.le_refl _ | exact Nat.le_succ _ | omega) fun b o hb e => ?_) hm'') hS'' hacc'
      exact oth b o (fun h : b = S => hb (by rw [h]; exact List.mem_cons_self)) e

/-- what list.__init__ asks of an iterator before it draws -/
def HintOk (prog : Program) (w : World) (I : Addr) (St : Nat → Shared → Prop) : Prop :=
  ∀ (A : Around) (s : Shared) (E : Value → Shared → Prop) (Q : Bool → Shared → Prop), St 0 s → (∀ b, Q b s) → wpAny (model prog w) A (Builtin.List.listLengthHint (.ref I)) Q E s

theorem extend_self {T : String} {R : Result → Shared → Prop} (W : Src prog w A.in1 I fp wr G n P St) (hT : ∀ s, St 0 s → s.TypeIs (.ref I) T) (hl : (Value.type T == Value.type "list") = false) (ht : (Value.type T == Value.type "tuple") = false)
    (hint : HintOk prog w I St) (S : Addr) (res : Value) (c₀ : Nat) (hst : St 0 s) (hSf : S ∉ fp) (hI : I ∈ fp)
    (hS : s.heap.get? S = some { cls := .type "list", data := .seq #[] c₀ })
    (hR : ∀ s' acc' c', Moved (S :: wr) G s s' → s'.heap.get? S = some { cls := .type "list", dict := none, data := .seq acc' c', slots := #[] } → ItemsV P acc' n s'.heap → R (.ok (.ret res)) s') (hn : n ≤ sizeLine) :
    wpAny (model prog w) A.in1 (Builtin.List.listExtendWith (.ref S) (.ref I) res)
      (fun fin s' => match fin with | .done f => R (.ok f) s' | .again c' => c'.quiet = true ∧ codeAny (model prog w) A c' R s') (fun e s' => R (.error e) s') s := by
  have hSI : S ≠ I := fun e => hSf (e ▸ hI)
  have nilV : ∀ h, ItemsV P #[] 0 h := fun h => ⟨rfl, fun j v e => by simp at e⟩
  unfold Builtin.List.listExtendWith
  refine wpAny_bind (wpAny_typeOf (hT _ hst) ?_)
  have h1 : Builtin.List.listSameRef (.ref S) (.ref I) = false := by simp [Builtin.List.listSameRef, hSI]
  simp only [h1, hl, ht, Bool.or_false, Bool.false_eq_true, if_false]
  refine wpAny_bind (W.self 0 _ _ _ hst ?_)
  refine wpAny_bind (wpAny_holding (hint _ _ _ _ hst fun b => ?_))
  refine wpAny_ite_split (fun _ => ?_) (fun _ => wpAny_pure ⟨plainId_quiet PySem.F.plain_extend_loop _, extend_loopV W hn _ hSf _ n 0 _ _ _ rfl (Nat.zero_le _) hst hS (nilV _) hR⟩)
  refine wpAny_bind (wpAny_rule ?_)
  refine wpAny_bind ?_
  show wpAny _ A.in1 (updateSeq S (·.push .none) >>= fun _ => updateSeq S (·.pop)) _ _ _
  refine wpAny_bind (wpAny_updateSeq hS rfl ?_)
  have hS₂ := Heap.get?_update_self (Obj.mapSeq (·.push Value.none)) hS rfl
  refine wpAny_updateSeq (hz := by seq_fits) hS₂ rfl ?_
  have hS₃ := Heap.get?_update_self (Obj.mapSeq (·.pop)) hS₂ rfl
  have oth : ∀ b o, b ≠ S → s.heap.get? b = some o → ((s.heap.update S (Obj.mapSeq (·.push Value.none))).update S (Obj.mapSeq (·.pop))).get? b = some o :=
    fun b o hb e => (Heap.get?_update_other _ _ (Ne.symm hb)).trans ((Heap.get?_update_other _ _ (Ne.symm hb)).trans e)
  refine wpAny_pure ⟨plainId_quiet PySem.F.plain_extend_loop _, extend_loopV W hn _ hSf _ n 0 _ _ _ rfl (Nat.zero_le _)
    (W.frame 0 s _ s.toks S hst hSf (isL hS) (Nat.le_refl _) oth) hS₃ (nilV _) fun s' acc' c' hm hS' hacc => ?_⟩
  exact hR s' acc' c' (Moved.trans W.gtrans ((Moved.refl W.grefl).then_heap (Nat.le_refl _) fun b o hb e => oth b o (fun h => hb (h ▸ List.mem_cons_self)) e) hm) hS' hacc

/-- list(it): it is its own iterator -/
theorem list_self {T : String} {Q : Value → Shared → Prop} (W : Src prog w A.in1.in1 I fp wr G n P St) (hT : ∀ s, St 0 s → s.TypeIs (.ref I) T) (hl : (Value.type T == Value.type "list") = false) (ht : (Value.type T == Value.type "tuple") = false)
    (hint : HintOk prog w I St) (hst : St 0 s) (hfp : ∀ b ∈ fp, b < s.heap.objs.size) (hI : I ∈ fp)
    (hQ : ∀ s' D acc, Moved wr G s s' → s.heap.get? D = none → s'.heap.IsList D acc → ItemsV P acc n s'.heap → Q (.ref D) s') (hn : n ≤ sizeLine) :
    wpAny (model prog w) A (call (.type "list") [.ref I]) Q E s := by
  have hSf : s.heap.objs.size ∉ fp := fun hm => Nat.lt_irrefl _ (hfp _ hm)
  refine callType_codes (Q₁ := fun obj s₁ => obj = .ref s.heap.objs.size ∧ s₁ = { s with heap := s.heap.push { cls := .type "list", data := .seq #[] } }) PySem.F.called_list (PySem.F.typeCall_list_1 _) PySem.F.entry_list_init
    (code_list_new _ ⟨rfl, rfl⟩) fun obj s₁ h₁ => ?_
  obtain ⟨rfl, rfl⟩ := h₁
  have hS : (s.heap.push { cls := .type "list", data := .seq #[] }).get? s.heap.objs.size = some { cls := .type "list", data := .seq #[] } := Heap.get?_push_size _ rfl
  have hst₁ : St 0 { s with heap := s.heap.push { cls := .type "list", data := .seq #[] } } := W.frame 0 s _ s.toks s.heap.objs.size hst hSf (fun o e => by rw [fresh_size] at e; cases e) (Nat.le_refl _) fun b o _ e => Heap.get?_push_of_some _ e
  refine ⟨⟨_, hS, rfl⟩, PySem.F.args_list_init_2 _ _, ?_⟩
  show wpAny _ _ (do let old ← Builtin.List.listItems (.ref s.heap.objs.size); Builtin.List.listUpdate (.ref s.heap.objs.size) (fun _ => #[]); letGo old.toList.reverse; Builtin.List.listExtendWith (.ref s.heap.objs.size) (.ref I) .none) _ _ _
  refine wpAny_bind ?_
  unfold Builtin.List.listItems
  refine wpAny_bind (wpAny_seqItems hS rfl (wpAny_pure ?_))
  show wpAny _ _ (updateSeq s.heap.objs.size (fun _ => #[]) >>= fun _ => letGo (#[] : Array Value).toList.reverse >>= fun _ => Builtin.List.listExtendWith (.ref s.heap.objs.size) (.ref I) .none) _ _ _
  refine wpAny_bind (wpAny_updateSeq hS rfl ?_)
  have hS₂ := Heap.get?_update_self (Obj.mapSeq (fun _ => (#[] : Array Value))) hS rfl
  have oth : ∀ b o, b ≠ s.heap.objs.size → (s.heap.push { cls := .type "list", data := .seq #[] }).get? b = some o → ((s.heap.push { cls := .type "list", data := .seq #[] }).update s.heap.objs.size (Obj.mapSeq (fun _ => (#[] : Array Value)))).get? b = some o :=
    fun b o hb e => (Heap.get?_update_other _ _ (Ne.symm hb)).trans e
  refine wpAny_bind (wpAny_letGo ?_)
  refine extend_self W hT hl ht hint _ .none _ (W.frame 0 _ _ s.toks s.heap.objs.size hst₁ hSf (isL hS) (Nat.le_refl _) oth) hSf hI hS₂ (fun s' acc' c' hm hS' hacc => ?_) hn
  refine ⟨rfl, hQ s' _ acc' ⟨fun b o hb e => ?_, hm.gens, hm.drawn, hm.os, hm.toks⟩ (fresh_size _) ⟨_, hS', rfl, c', rfl⟩ hacc⟩
  have hbS : b ≠ s.heap.objs.size := Nat.ne_of_lt (Heap.lt_size e)
  refine hm.heap b o (fun h => ?_) (oth b o hbS (Heap.get?_push_of_some _ e))
  rcases List.mem_cons.mp h with h | h
  · exact hbS h
  · exact hb h

theorem hint_none {T : String} (hT : ∀ s, St 0 s → s.TypeIs (.ref I) T) (hl : typeLookup (.type T) "__len__" = pure none) (hh : typeLookup (.type T) "__length_hint__" = pure none) : HintOk prog w I St := fun A s E Q hst hq => by
  unfold Builtin.List.listLengthHint
  refine wpAny_bind (wpAny_specialOf (hT _ hst) hl ?_)
  show wpAny _ A (specialOf (Value.ref I) (Str.ofString "__length_hint__") >>= _) _ _ _
  refine wpAny_bind (wpAny_specialOf (hT _ hst) hh ?_)
  exact wpAny_pure (hq _)
theorem hint_li (hT : ∀ s, St 0 s → s.TypeIs (.ref I) "list_iterator") : HintOk prog w I St := fun A s E Q hst hq => by
  unfold Builtin.List.listLengthHint
  refine wpAny_bind (wpAny_specialOf (hT _ hst) PySem.F.nolen_li ?_)
  show wpAny _ A (specialOf (Value.ref I) (Str.ofString "__length_hint__") >>= _) _ _ _
  refine wpAny_bind (wpAny_specialOf (hT _ hst) PySem.F.hint_li ?_)
  generalize hid : ("list_iterator.__length_hint__" : String) = id0
  wp_delta
  rw [show splitId id0 = some ("list_iterator", "__length_hint__") from by subst hid; decide +kernel]
  subst hid
  refine wpAny_bind (wpAny_isInstance (b := true) (hT _ hst) (by rw [isSubtype_type]; kernel_rfl) ?_)
  exact wpAny_pure (hq _)
theorem nolen_zip : typeLookup (.type "zip") "__len__" = pure none := by rw [typeLookup_type, builtinLookup_eq_fast]; kernel_rfl
theorem nohint_zip : typeLookup (.type "zip") "__length_hint__" = pure none := by rw [typeLookup_type, builtinLookup_eq_fast]; kernel_rfl
end

section
variable {prog : Program} {w : World} {A : Around} {E : Value → Shared → Prop} {s : Shared}
/-- list(xs) of a list or a tuple -/
theorem ls_seq {it : Addr} {T : String} {o : Obj} {items : Array Value} {n : Nat} {Q : Value → Shared → Prop} (hT : T = "list" ∨ T = "tuple") (ho : s.heap.get? it = some o) (hc : o.cls = .type T) (hd : o.data = .seq items n) (hz : items.size ≤ sizeLine)
    (h : ∀ D s', Mv [] s s' → s.heap.get? D = none → s'.heap.IsList D items → Q (.ref D) s') : wpAny (model prog w) A (call (.type "list") [.ref it]) Q E s :=
  call_list_seq (hsz := hz) it hT ho hc hd fun h' c' hk hD => h _ _ (Mv.ofAll hk) (fresh_size _) ⟨_, hD, rfl, c', rfl⟩
theorem ls_list {l : Addr} {items : Array Value} {Q : Value → Shared → Prop} (hl : s.heap.IsList l items) (hz : items.size ≤ sizeLine)
    (h : ∀ D s', Mv [] s s' → s.heap.get? D = none → s'.heap.IsList D items → Q (.ref D) s') : wpAny (model prog w) A (call (.type "list") [.ref l]) Q E s := by
  obtain ⟨o, ho, hc, n, hd⟩ := hl
  exact ls_seq (.inl rfl) ho hc hd hz h
theorem ls_tuple {l : Addr} {items : Array Value} {Q : Value → Shared → Prop} (hl : s.heap.IsTuple l items) (hz : items.size ≤ sizeLine)
    (h : ∀ D s', Mv [] s s' → s.heap.get? D = none → s'.heap.IsList D items → Q (.ref D) s') : wpAny (model prog w) A (call (.type "list") [.ref l]) Q E s := by
  obtain ⟨o, ho, hc, n, hd⟩ := hl
  exact ls_seq (.inr rfl) ho hc hd hz h
/-- list(it) of a list's iterator that stands at i -/
theorem Walks.listFrom (hh : A.handled = none) (I l : Addr) (hne : l ≠ I) (items : Array Value) (j : Nat) (hj : j ≤ items.size) :
    Walks prog w A I [I, l] [I] (items.size - j) (fun i v => items[j + i]? = some v) (fun i h => h.IsListIter I l (j + i) ∧ h.IsList l items) := by
  have W := Walks.list (prog := prog) (w := w) hh I l hne items
  refine ⟨W.sub, fun i h h' st hk => W.frame (j + i) h h' st hk, fun i s Q E hi st hQ => W.item (j + i) s Q E (by omega) st fun v h' tk hP st' hk => hQ v h' tk hP st' hk, fun s Q E st hQ => ?_, fun i s Q E st hQ => W.self (j + i) s Q E st hQ⟩
  rw [show j + (items.size - j) = items.size by omega] at st
  exact W.done s Q E st hQ
theorem ls_iter {I l : Addr} {items : Array Value} {j : Nat} {Q : Value → Shared → Prop} (hh : A.handled = none) (hI : s.heap.IsListIter I l j) (hl : s.heap.IsList l items) (hj : j ≤ items.size) (hz : items.size ≤ sizeLine)
    (h : ∀ D s', Mv [I] s s' → s.heap.get? D = none → s'.heap.IsList D (items.toList.drop j).toArray → Q (.ref D) s') : wpAny (model prog w) A (call (.type "list") [.ref I]) Q E s := by
  obtain ⟨oI, hoI, hcI, hdI⟩ := id hI
  obtain ⟨ol, hol, hcl, nl, hdl⟩ := id hl
  have hne : l ≠ I := fun e => by subst e; rw [hoI] at hol; cases hol; rw [hdI] at hdl; cases hdl
  have W := (Walks.listFrom (prog := prog) (w := w) (A := A.in1.in1) hh I l hne items j hj).toS
  have hT : ∀ s : Shared, (s.heap.IsListIter I l (j + 0) ∧ s.heap.IsList l items) → s.TypeIs (.ref I) "list_iterator" := fun s st => st.1.typeIs
  refine list_self (Src.ofS W) hT (by decide) (by decide) (hint_li hT) ⟨hI, hl⟩ (fun b hb => ?_) (List.mem_cons_self ..) (fun s' D acc hm hD hL hit => h D s' ⟨hm.heap, hm.gens, hm.drawn, hm.os⟩ hD ?_) (by omega)
  · rcases List.mem_cons.mp hb with rfl | hb
    · exact Heap.lt_size hoI
    · rw [List.mem_singleton.mp hb]; exact Heap.lt_size hol
  · have : acc = (items.toList.drop j).toArray := by
      apply Array.ext'
      apply List.ext_getElem?
      intro i
      rw [List.getElem?_drop]
      cases e : acc.toList[i]? with
      | some v =>
        have h0 : items[j + i]? = some v := hit.2 i v (by rw [← Array.getElem?_toList]; exact e)
        rw [Array.getElem?_toList]; exact h0.symm
      | none =>
        have h1 : acc.toList.length ≤ i := by simpa using e
        have h2 : acc.size = items.size - j := hit.1
        have h3 : acc.toList.length = acc.size := by simp
        have h4 : items.toList.length = items.size := by simp
        rw [eq_comm, List.getElem?_eq_none]
        omega
    rw [← this]; exact hL
end

/-- the zip of two lists, as list() draws it -/
abbrev ZipAt (h : Heap) (z TI TO T : Addr) (f1 : Bool) : Prop :=
  h.get? z = some { cls := .type "zip", dict := none, data := .fields #[rawInt T, .bool f1, .bool false, .ref TI, .ref TO], slots := #[] }
section
variable {prog : Program} {w : World} {A : Around} {E : Value → Shared → Prop} {s : Shared} {z TI TO T i1 i2 l1 l2 : Addr} {k1 k2 : Nat} {xs ys : Array Value}

theorem zip_own {f1 : Bool} {Q : Bool → Shared → Prop} (hz : ZipAt s.heap z TI TO T f1) (hT : ∃ o, s.heap.get? T = some o)
    (h : ∀ h', ZipAt h' z TI TO T true → Heap.SameBut z s.heap h' → Q false { s with heap := h' }) : wpAny (model prog w) A (Builtin.SmallTypes.ownedTupleIsFree (.ref z)) Q E s := by
  obtain ⟨oT, hT⟩ := hT
  unfold Builtin.SmallTypes.ownedTupleIsFree
  refine wpAny_bind (wpAny_field hz rfl (x := rawInt T) rfl ?_)
  show wpAny _ _ (loadIfAlive ((T : Int).toNat) >>= _) _ _ _
  rw [Int.toNat_natCast]
  refine wpAny_bind (kdx_alive hT ?_)
  show wpAny _ _ (field (.ref z) 1 >>= _) _ _ _
  refine wpAny_bind (wpAny_field hz rfl (x := .bool f1) rfl ?_)
  cases f1 with
  | true => exact wpAny_pure (h _ hz (.refl ..))
  | false =>
    show wpAny _ _ (setField (.ref z) 1 (.bool true) >>= _) _ _ _
    exact wpAny_bind (wpAny_setField_rec hz (by simp) fun h₁ hz₁ hs₁ => wpAny_pure (h h₁ hz₁ hs₁))

theorem zip_more {f1 : Bool} {x y : Value} {Q : Value → Shared → Prop} (D : ZipApart z TI TO i1 i2 l1 l2)
    (hz : ZipAt s.heap z TI TO T f1) (hT : ∃ o, s.heap.get? T = some o) (hTI : IsPair s.heap TI (.ref i1) (.ref i2))
    (h1 : s.heap.IsListIter i1 l1 k1) (h2 : s.heap.IsListIter i2 l2 k2) (hl1 : s.heap.IsList l1 xs) (hl2 : s.heap.IsList l2 ys) (hx : xs[k1]? = some x) (hy : ys[k2]? = some y)
    (hQ : ∀ h' U, ZipAt h' z TI TO T true → h'.IsListIter i1 l1 (k1 + 1) → h'.IsListIter i2 l2 (k2 + 1) → IsPair h' U x y → s.heap.get? U = none →
      (∀ c o, c ≠ z → c ≠ i1 → c ≠ i2 → s.heap.get? c = some o → h'.get? c = some o) → Q (.ref U) { s with heap := h' }) :
    wpAny (model prog w) A (Builtin.«zip.__next__» ⟨[.ref z], []⟩) (fun fin s' => ∃ v, fin = .done (.ret v) ∧ Q v s') E s := by
  show wpAny _ _ (field (.ref z) 2 >>= _) _ _ _
  refine wpAny_bind (wpAny_field hz rfl (x := .bool false) rfl ?_)
  show wpAny _ _ (field (.ref z) 3 >>= _) _ _ _
  refine wpAny_bind (wpAny_field hz rfl (x := .ref TI) rfl ?_)
  refine wpAny_bind (wpAny_seqItems hTI rfl ?_)
  show wpAny _ _ (Builtin.SmallTypes.ownedTupleIsFree (.ref z) >>= _) _ _ _
  refine wpAny_bind (zip_own hz hT fun h₁ hz₁ hs₁ => ?_)
  show wpAny _ _ (forIn (#[Value.ref i1, Value.ref i2] : Array Value) _ _ >>= _) _ _ _
  rw [← Array.forIn_toList]
  simp only [List.forIn_cons, List.forIn_nil]
  refine wpAny_bind (wpAny_bind (wpAny_bind (wpAny_holding ?_)))
  show wpAny _ _ (Builtin.SmallTypes.nextOf (.ref i1) >>= _) _ _ _
  refine wpAny_bind (wpAny_nextOf_list_item (h1.extBut hs₁.extBut D.i1z) (hl1.extBut hs₁.extBut D.l1z) hx fun h₂ h1₂ hs₂ => wpAny_pure ?_)
  refine wpAny_pure (wpAny_bind (wpAny_bind (wpAny_holding ?_)))
  show wpAny _ _ (Builtin.SmallTypes.nextOf (.ref i2) >>= _) _ _ _
  refine wpAny_bind (wpAny_nextOf_list_item ((h2.extBut hs₁.extBut D.i2z).extBut hs₂.extBut D.i12.symm) ((hl2.extBut hs₁.extBut D.l2z).extBut hs₂.extBut D.l2i1) hy fun h₃ h2₃ hs₃ => wpAny_pure ?_)
  refine wpAny_pure (wpAny_pure ?_)
  show wpAny _ _ (newTuple [x, y] >>= _) _ _ _
  refine wpAny_bind (wpAny_newTuple ?_)
  refine wpAny_pure ⟨_, rfl, ?_⟩
  have kp : ∀ c o, c ≠ z → c ≠ i1 → c ≠ i2 → s.heap.get? c = some o → h₃.get? c = some o := fun c o a b d e => hs₃.extBut _ _ d (hs₂.extBut _ _ b (hs₁.extBut _ _ a e))
  have hz₃ : ZipAt h₃ z TI TO T true := hs₃.extBut _ _ D.i2z.symm (hs₂.extBut _ _ D.i1z.symm hz₁)
  refine hQ _ h₃.objs.size (Heap.get?_push_of_some _ hz₃) (Heap.IsListIter.at (h1₂.extBut hs₃.extBut D.i12) fun o e => Heap.get?_push_of_some _ e) (Heap.IsListIter.at h2₃ fun o e => Heap.get?_push_of_some _ e) (Heap.get?_push_size _ rfl) ?_ fun c o a b d e => Heap.get?_push_of_some _ (kp c o a b d e)
  rw [hs₃.1, hs₂.1, hs₁.1]; exact fresh_size _

theorem zip_more_end {f1 : Bool} {Q : Fin → Shared → Prop} (hh : A.handled = none) (D : ZipApart z TI TO i1 i2 l1 l2)
    (hz : ZipAt s.heap z TI TO T f1) (hT : ∃ o, s.heap.get? T = some o) (hTI : IsPair s.heap TI (.ref i1) (.ref i2))
    (h1 : s.heap.IsListIter i1 l1 k1) (h2 : s.heap.IsListIter i2 l2 k2) (hl1 : s.heap.IsList l1 xs) (hl2 : s.heap.IsList l2 ys) (hend : xs[k1]? = none ∨ ys[k2]? = none)
    (hE : ∀ h' e, (∀ c o, c ≠ z → c ≠ i1 → c ≠ i2 → s.heap.get? c = some o → h'.get? c = some o) → (∃ o, h'.get? e = some o ∧ o.cls = .type "StopIteration") → E (.ref e) { s with heap := h' }) :
    wpAny (model prog w) A (Builtin.«zip.__next__» ⟨[.ref z], []⟩) Q E s := by
  show wpAny _ _ (field (.ref z) 2 >>= _) _ _ _
  refine wpAny_bind (wpAny_field hz rfl (x := .bool false) rfl ?_)
  show wpAny _ _ (field (.ref z) 3 >>= _) _ _ _
  refine wpAny_bind (wpAny_field hz rfl (x := .ref TI) rfl ?_)
  refine wpAny_bind (wpAny_seqItems hTI rfl ?_)
  show wpAny _ _ (Builtin.SmallTypes.ownedTupleIsFree (.ref z) >>= _) _ _ _
  refine wpAny_bind (zip_own hz hT fun h₁ hz₁ hs₁ => ?_)
  show wpAny _ _ (forIn (#[Value.ref i1, Value.ref i2] : Array Value) _ _ >>= _) _ _ _
  rw [← Array.forIn_toList]
  simp only [List.forIn_cons, List.forIn_nil]
  refine wpAny_bind (wpAny_bind (wpAny_bind (wpAny_holding ?_)))
  show wpAny _ _ (Builtin.SmallTypes.nextOf (.ref i1) >>= _) _ _ _
  cases hx : xs[k1]? with
  | none =>
    exact wpAny_bind (wpAny_nextOf_list_end hh (h1.extBut hs₁.extBut D.i1z) (hl1.extBut hs₁.extBut D.l1z) hx fun h₂ e hs₂ he => hE h₂ e (fun c o a b _ q => hs₂ _ _ b (hs₁.extBut _ _ a q)) he)
  | some x =>
    have hy : ys[k2]? = none := by rcases hend with h | h; rw [hx] at h; cases h; exact h
    refine wpAny_bind (wpAny_nextOf_list_item (h1.extBut hs₁.extBut D.i1z) (hl1.extBut hs₁.extBut D.l1z) hx fun h₂ h1₂ hs₂ => wpAny_pure ?_)
    refine wpAny_pure (wpAny_bind (wpAny_bind (wpAny_holding ?_)))
    show wpAny _ _ (Builtin.SmallTypes.nextOf (.ref i2) >>= _) _ _ _
    exact wpAny_bind (wpAny_nextOf_list_end hh ((h2.extBut hs₁.extBut D.i2z).extBut hs₂.extBut D.i12.symm) ((hl2.extBut hs₁.extBut D.l2z).extBut hs₂.extBut D.l2i1) hy fun h₃ e hs₃ he =>
      hE h₃ e (fun c o a b d q => hs₃ _ _ d (hs₂.extBut _ _ b (hs₁.extBut _ _ a q))) he)

def ZipSt (z TI TO i1 i2 l1 l2 : Addr) (xs ys : Array Value) (i : Nat) (h : Heap) : Prop :=
  IsPair h TI (.ref i1) (.ref i2) ∧ h.IsListIter i1 l1 i ∧ h.IsListIter i2 l2 i ∧ h.IsList l1 xs ∧ h.IsList l2 ys ∧
  (∃ o, h.get? TO = some o ∧ o.cls = .type "tuple") ∧ ((IsZip h z TI TO .none ∧ ∃ a b, IsPair h TO a b) ∨ ∃ T f1, ZipAt h z TI TO T f1 ∧ ∃ o, h.get? T = some o ∧ o.cls = .type "tuple")
def ZipP (wr : List Addr) (xs ys : Array Value) (i : Nat) (v : Value) (h : Heap) : Prop := ∃ U x y, xs[i]? = some x ∧ ys[i]? = some y ∧ v = .ref U ∧ h.IsTuple U #[x, y] ∧ U ∉ wr

theorem Src.zip (hh : A.handled = none) (D : ZipApart z TI TO i1 i2 l1 l2) :
    Src prog w A z [z, TI, TO, i1, i2, l1, l2] [z, TO, i1, i2] (fun a b => b = a) (min xs.size ys.size) (ZipP [z, TO, i1, i2] xs ys) (fun i s => ZipSt z TI TO i1 i2 l1 l2 xs ys i s.heap) where
  sub := fun c hc => by simp at hc ⊢; rcases hc with rfl | rfl | rfl | rfl <;> simp
  grefl := fun _ => rfl
  gtrans := fun _ _ _ h1 h2 => h2.trans h1
  frame := fun i s h' tk S st hS hc _ hk => by
    obtain ⟨a, b, c, d, e, ⟨oO, hO, hOc⟩, f⟩ := st
    simp only [List.mem_cons, List.not_mem_nil, or_false, not_or] at hS
    obtain ⟨q1, q2, q3, q4, q5, q6, q7⟩ := hS
    refine ⟨hk _ _ (Ne.symm q2) a, b.at fun o => hk _ o (Ne.symm q4), c.at fun o => hk _ o (Ne.symm q5), d.at fun o => hk _ o (Ne.symm q6), e.at fun o => hk _ o (Ne.symm q7), ⟨oO, hk _ _ (Ne.symm q3) hO, hOc⟩, ?_⟩
    rcases f with ⟨f, x, y, g⟩ | ⟨T, f1, f, o, ho, hco⟩
    · exact .inl ⟨hk _ _ (Ne.symm q1) f, x, y, hk _ _ (Ne.symm q3) g⟩
    · refine .inr ⟨T, f1, hk _ _ (Ne.symm q1) f, o, hk _ _ (fun e => ?_) ho, hco⟩
      have := hc o (e ▸ ho); rw [hco] at this; exact absurd (Value.type.inj this) (by decide)
  item := fun i s Q E hi st hQ => by
    obtain ⟨a, b, c, d, e, ⟨oO, hO, hOc⟩, f⟩ := st
    have hx : xs[i]? = some xs[i] := by rw [Array.getElem?_eq_getElem (by omega)]
    have hy : ys[i]? = some ys[i] := by rw [Array.getElem?_eq_getElem (by omega)]
    rcases f with ⟨f, x, y, g⟩ | ⟨T, f1, f, o, ho, hco⟩
    · refine wpAny_with_toks (Nat.le_refl s.toks) (wpAny_pyNext_zip_item D f a g b c d e hx hy fun h' hz' hTO' h1' h2' hU hsz hk htk => ?_)
      have hlt : ∀ {q : Addr} {o : Obj}, s.heap.get? q = some o → s.heap.objs.size ≠ q := fun e' x => Nat.lt_irrefl _ (x ▸ Heap.lt_size e')
      have hU1 : s.heap.objs.size ∉ [z, TO, i1, i2] := by
        obtain ⟨o1, ho1, _⟩ := b
        obtain ⟨o2, ho2, _⟩ := c
        simp only [List.mem_cons, List.not_mem_nil, or_false, not_or]
        exact ⟨hlt f, hlt g, hlt ho1, hlt ho2⟩
      have kp : ∀ q o, q ∉ [z, TO, i1, i2] → s.heap.get? q = some o → h'.get? q = some o := fun q o hq e' => by
        simp only [List.mem_cons, List.not_mem_nil, or_false, not_or] at hq
        exact hk q o hq.1 hq.2.1 hq.2.2.1 hq.2.2.2 e'
      refine hQ _ _ ⟨s.heap.objs.size, _, _, hx, hy, rfl, ⟨_, hU, rfl, _, rfl⟩, hU1⟩ ⟨kp _ _ (by simp [D.TIz, D.TITO, D.TIi1, D.TIi2]) a, h1', h2', d.at fun o => kp _ o (by simp [D.l1z, D.l1TO, D.l1i1, D.l1i2]), e.at fun o => kp _ o (by simp [D.l2z, D.l2TO, D.l2i1, D.l2i2]), ⟨_, hTO', rfl⟩, .inr ⟨_, _, hz', _, hU, rfl⟩⟩ ⟨kp, rfl, rfl, rfl, htk⟩
    · have hT : s.TypeIs (.ref z) "zip" := ⟨_, f, rfl⟩
      unfold pyNext
      refine wpAny_with_toks (Nat.le_refl s.toks) (wpAny_bind (wpAny_attempt (wpAny_callSpecial?_slot (name := Str.ofString "__next__") hT PySem.F.slot_zip_next
        (wpAny_call_entry PySem.F.slot_zip_next hT PySem.F.entry_zip_next (zip_more D f ⟨o, ho⟩ a b c d e hx hy fun h' U hz' h1' h2' hU hnew hk => wpAny_pure fun htk => ?_) (PySem.F.args_zip_next_1 _)))))
      have ne : ∀ {q : Addr} {o : Obj}, s.heap.get? q = some o → U ≠ q := fun e' x => by rw [← x, hnew] at e'; cases e'
      have kp : ∀ q o, q ∉ [z, TO, i1, i2] → s.heap.get? q = some o → h'.get? q = some o := fun q o hq e' => by
        simp only [List.mem_cons, List.not_mem_nil, or_false, not_or] at hq
        exact hk q o hq.1 hq.2.2.1 hq.2.2.2 e'
      have notin : ∀ {q : Addr}, (∀ r ∈ [z, i1, i2], q ≠ r) → ∀ o', s.heap.get? q = some o' → h'.get? q = some o' := fun hq o' e' => hk _ o' (hq z (by simp)) (hq i1 (by simp)) (hq i2 (by simp)) e'
      have hUw : U ∉ [z, TO, i1, i2] := by
        obtain ⟨o1, ho1, _⟩ := b
        obtain ⟨o2, ho2, _⟩ := c
        simp only [List.mem_cons, List.not_mem_nil, or_false, not_or]
        exact ⟨ne f, ne hO, ne ho1, ne ho2⟩
      have hTk : h'.get? T = some o := by
        obtain ⟨o1, ho1, hc1, _⟩ := b
        obtain ⟨o2, ho2, hc2, _⟩ := c
        refine hk T o (fun x => ?_) (fun x => ?_) (fun x => ?_) ho
        · rw [x, f] at ho; cases ho; exact absurd (Value.type.inj hco) (by decide)
        · rw [x, ho1] at ho; cases ho; rw [hc1] at hco; exact absurd (Value.type.inj hco) (by decide)
        · rw [x, ho2] at ho; cases ho; rw [hc2] at hco; exact absurd (Value.type.inj hco) (by decide)
      exact hQ _ _ ⟨U, _, _, hx, hy, rfl, ⟨_, hU, rfl, _, rfl⟩, hUw⟩ ⟨kp _ _ (by simp [D.TIz, D.TITO, D.TIi1, D.TIi2]) a, h1', h2', d.at fun o => kp _ o (by simp [D.l1z, D.l1TO, D.l1i1, D.l1i2]), e.at fun o => kp _ o (by simp [D.l2z, D.l2TO, D.l2i1, D.l2i2]), ⟨oO, hk _ _ D.TOz D.TOi1 D.TOi2 hO, hOc⟩, .inr ⟨T, _, hz', o, hTk, hco⟩⟩ ⟨kp, rfl, rfl, rfl, htk⟩
  done := fun s Q E st hQ => by
    obtain ⟨a, b, c, d, e, ⟨oO, hO, hOc⟩, f⟩ := st
    have hend : xs[min xs.size ys.size]? = none ∨ ys[min xs.size ys.size]? = none := by
      rcases Nat.le_total xs.size ys.size with h | h
      · exact .inl (Array.getElem?_eq_none (by omega))
      · exact .inr (Array.getElem?_eq_none (by omega))
    rcases f with ⟨f, x, y, g⟩ | ⟨T, f1, f, o, ho, hco⟩
    · refine wpAny_with_toks (Nat.le_refl s.toks) (wpAny_pyNext_zip_end hh D f a g b c d e hend fun h' hk htk => hQ _ ⟨fun q o hq e' => ?_, rfl, rfl, rfl, htk⟩)
      simp only [List.mem_cons, List.not_mem_nil, or_false, not_or] at hq
      exact hk q o hq.1 hq.2.1 hq.2.2.1 hq.2.2.2 e'
    · have hT : s.TypeIs (.ref z) "zip" := ⟨_, f, rfl⟩
      unfold pyNext
      refine wpAny_with_toks (Nat.le_refl s.toks) (wpAny_bind (wpAny_attempt (wpAny_callSpecial?_slot (name := Str.ofString "__next__") hT PySem.F.slot_zip_next
        (wpAny_call_entry PySem.F.slot_zip_next hT PySem.F.entry_zip_next (zip_more_end hh D f ⟨o, ho⟩ a b c d e hend fun h' e hk he => ?_) (PySem.F.args_zip_next_1 _)))))
      obtain ⟨o, ho, hc⟩ := he
      refine wpAny_bind (wpAny_isInstance (T := "StopIteration") (b := true) ⟨o, ho, hc⟩ isSubtype_stop ?_)
      refine wpAny_pure fun htk => hQ _ ⟨fun q o hq e' => ?_, rfl, rfl, rfl, htk⟩
      simp only [List.mem_cons, List.not_mem_nil, or_false, not_or] at hq
      exact hk q o hq.1 hq.2.2.1 hq.2.2.2 e'
  self := fun i s Q E st h => by
    obtain ⟨a, b, c, d, e, ⟨oO, hO, hOc⟩, f⟩ := st
    rcases f with ⟨f, _⟩ | ⟨T, f1, f, _⟩
    · exact wpAny_pyIter_zip f h
    · have hT : s.TypeIs (.ref z) "zip" := ⟨_, f, rfl⟩
      refine wpAny_pyIter_slot hT PySem.F.slot_zip_iter (wpAny_call_entry PySem.F.slot_zip_iter hT PySem.F.entry_zip_iter ?_ (PySem.F.args_zip_iter_1 _))
      show wpAny _ _ (ret (.ref z)) _ _ s
      exact wpAny_pure ⟨_, rfl, "zip", _, hT, PySem.F.slot_zip_next.lookup, h⟩
  pk := fun i v h h' S ⟨U, x, y, hx, hy, hv, ⟨o, ho, hc, r⟩, hw⟩ hS hk => by
    refine ⟨U, x, y, hx, hy, hv, ⟨o, hk U o (fun e => ?_) hw ho, hc, r⟩, hw⟩
    have := hS o (e ▸ ho); rw [hc] at this; exact absurd (Value.type.inj this) (by decide)

/-- list(zip(l1, l2)) -/
theorem ls_zip {s : Shared} {E : Value → Shared → Prop} {Q : Value → Shared → Prop} (hh : A.handled = none) (D : ZipApart z TI TO i1 i2 l1 l2) (st : ZipSt z TI TO i1 i2 l1 l2 xs ys 0 s.heap) (hn : xs.size ≤ sizeLine)
    (h : ∀ L s' acc, Moved [z, TO, i1, i2] (fun a b => b = a) s s' → s.heap.get? L = none → s'.heap.IsList L acc → ItemsV (ZipP [z, TO, i1, i2] xs ys) acc (min xs.size ys.size) s'.heap → Q (.ref L) s') :
    wpAny (model prog w) A (call (.type "list") [.ref z]) Q E s := by
  have hT : ∀ s : Shared, ZipSt z TI TO i1 i2 l1 l2 xs ys 0 s.heap → s.TypeIs (.ref z) "zip" := fun s st => by
    obtain ⟨_, _, _, _, _, _, f⟩ := st
    rcases f with ⟨f, _⟩ | ⟨T, f1, f, _⟩
    · exact ⟨_, f, rfl⟩
    · exact ⟨_, f, rfl⟩
  refine list_self (Src.zip (A := A.in1.in1) hh D) hT (by decide) (by decide) (hint_none hT nolen_zip nohint_zip) st (fun b hb => ?_) (List.mem_cons_self ..) (fun s' D acc hm hD hL hit => h D s' acc hm hD hL hit) (by omega)
  obtain ⟨a, ⟨o1, b, _⟩, ⟨o2, c, _⟩, ⟨o3, d, _⟩, ⟨o4, e, _⟩, ⟨oO, hO, hOc⟩, f⟩ := st
  simp only [List.mem_cons, List.not_mem_nil, or_false] at hb
  rcases hb with rfl | rfl | rfl | rfl | rfl | rfl | rfl
  · rcases f with ⟨f, _⟩ | ⟨T, f1, f, _⟩ <;> exact Heap.lt_size f
  · exact Heap.lt_size a
  · exact Heap.lt_size hO
  · exact Heap.lt_size b
  · exact Heap.lt_size c
  · exact Heap.lt_size d
  · exact Heap.lt_size e
end
end Mine
end

section
open PySem PySem.W PyProof.Rows PySem.Calls
set_option maxRecDepth 100000
set_option linter.unusedVariables false
namespace Mine

def freeOf (env : Env) : List (Str × NameKind) → List (Str × Addr) → List (Str × Addr)
  | [], acc => acc
  | (n, k) :: r, acc => if k == .free then freeOf env r ((n, (env.cells.lookup n).getD 0) :: acc) else freeOf env r acc

theorem closure_ok {scope : Scope} {env : Env} (h : ∀ x ∈ scope.names, x.2 = .free → (env.cells.lookup x.1).isSome = true) : closureFor scope env = pure (freeOf env scope.names []) := by
  unfold closureFor
  generalize scope.names = ns at h
  suffices H : ∀ (ns : List (Str × NameKind)) (acc : List (Str × Addr)), (∀ x ∈ ns, x.2 = .free → (env.cells.lookup x.1).isSome = true) →
      (forIn ns acc (fun (x : Str × NameKind) cs => match x with | (name, kind) => if (kind == .free) = true then do let y ← cellOf env name; pure (ForInStep.yield ((name, y) :: cs)) else pure (ForInStep.yield cs)) : Sem _) = pure (freeOf env ns acc) by
    have := H ns [] h
    simp only [pure_bind, bind_pure] at this ⊢
    exact this
  intro ns
  induction ns with
  | nil => intro acc _; rfl
  | cons p r ih =>
    obtain ⟨n, k⟩ := p
    intro acc h
    rw [List.forIn_cons]
    unfold freeOf
    have hr := fun x hx => h x (List.mem_cons_of_mem _ hx)
    by_cases e : (k == .free) = true
    · obtain ⟨c, hc⟩ := Option.isSome_iff_exists.mp (h (n, k) List.mem_cons_self (beq_iff_eq.mp e))
      simp only [e, if_true]
      have : cellOf env n = pure c := by unfold cellOf; rw [show env.cells.lookup n = some c from hc]
      rw [this]
      simp only [pure_bind]
      rw [ih _ hr, hc]; rfl
    · simp only [e, if_false, pure_bind, Bool.false_eq_true]
      exact ih _ hr

theorem freeOf_mem {env : Env} {n : Str} {c : Addr} : ∀ (ns : List (Str × NameKind)) (acc : List (Str × Addr)), (n, c) ∈ freeOf env ns acc → (n, c) ∈ acc ∨ ((n, .free) ∈ ns ∧ c = (env.cells.lookup n).getD 0)
  | [], acc, h => .inl h
  | (m, k) :: r, acc, h => by
    unfold freeOf at h
    split at h
    · rename_i e
      rcases freeOf_mem r _ h with h | ⟨h, e'⟩
      · rcases List.mem_cons.mp h with h | h
        · cases h; exact .inr ⟨by rw [beq_iff_eq.mp e]; exact List.mem_cons_self, rfl⟩
        · exact .inl h
      · exact .inr ⟨List.mem_cons_of_mem _ h, e'⟩
    · rcases freeOf_mem r _ h with h | ⟨h, e'⟩
      · exact .inl h
      · exact .inr ⟨List.mem_cons_of_mem _ h, e'⟩
theorem lookup_isSome_of_mem {α : Type} {n : Str} : ∀ {l : List (Str × α)} {c : α}, (n, c) ∈ l → ∃ c', l.lookup n = some c'
  | (k, v) :: r, c, h => by
    rw [List.lookup_cons]
    by_cases e : n = k
    · subst e; exact ⟨v, by simp⟩
    · have e' : (n == k) = false := by simp [e]
      rw [e']
      rcases List.mem_cons.mp h with h | h
      · cases h; exact absurd rfl e
      · exact lookup_isSome_of_mem h
theorem freeOf_has {env : Env} {n : Str} : ∀ (ns : List (Str × NameKind)) (acc : List (Str × Addr)), ((n, .free) ∈ ns ∨ ∃ c, (n, c) ∈ acc) → ∃ c, (n, c) ∈ freeOf env ns acc
  | [], acc, h => by
    rcases h with h | h
    · cases h
    · exact h
  | (m, k) :: r, acc, h => by
    unfold freeOf
    split
    · refine freeOf_has r _ ?_
      rcases h with h | ⟨c, h⟩
      · rcases List.mem_cons.mp h with h | h
        · cases h; exact .inr ⟨_, List.mem_cons_self⟩
        · exact .inl h
      · exact .inr ⟨c, List.mem_cons_of_mem _ h⟩
    · rename_i e
      refine freeOf_has r _ ?_
      rcases h with h | h
      · rcases List.mem_cons.mp h with h | h
        · cases h; exact absurd rfl e
        · exact .inl h
      · exact .inr h
theorem freeOf_lookup {env : Env} {ns : List (Str × NameKind)} {n : Str} (h : (n, .free) ∈ ns) (hc : (env.cells.lookup n).isSome = true) : (freeOf env ns []).lookup n = env.cells.lookup n := by
  obtain ⟨c, hm⟩ := freeOf_has (env := env) ns [] (.inl h)
  obtain ⟨c', hl⟩ := lookup_isSome_of_mem hm
  rw [hl]
  rcases freeOf_mem ns [] (mem_of_lookup hl) with h | ⟨_, e⟩
  · cases h
  · obtain ⟨d, hd⟩ := Option.isSome_iff_exists.mp hc
    rw [e, hd]; rfl
theorem cellsFrom_append : ∀ (names : List (Str × NameKind)) (k : Nat) (acc : List (Str × Addr)), cellsFrom k names acc = cellsFrom k names [] ++ acc
  | [], _, _ => rfl
  | (n, kd) :: r, k, acc => by
    unfold cellsFrom
    split
    · rw [cellsFrom_append r _ ((n, k) :: acc), cellsFrom_append r _ [(n, k)], List.append_assoc]; rfl
    · exact cellsFrom_append r k acc
theorem lookup_append' {α : Type} {n : Str} : ∀ (l l' : List (Str × α)), (l ++ l').lookup n = (l.lookup n).or (l'.lookup n)
  | [], l' => by simp
  | (k, v) :: r, l' => by
    rw [List.cons_append, List.lookup_cons, List.lookup_cons]
    cases n == k with
    | true => rfl
    | false => exact lookup_append' r l'

theorem relabel_keeps {env : Env} : ∀ {names : List (Str × NameKind)} {x : Str} {k : NameKind}, k ≠ .free → names.lookup x = some k →
    (names.map fun (n, k) => if (k == NameKind.free && env.scope.kind == .function && env.kindOf n == some .cell) then (n, NameKind.cell) else (n, k)).lookup x = some k
  | [], _, _, _, h => by simp at h
  | (n, k') :: r, x, k, hk, h => by
    have ih := @relabel_keeps env r x k hk
    show List.lookup x ((if (k' == NameKind.free && env.scope.kind == .function && env.kindOf n == some .cell) = true then (n, NameKind.cell) else (n, k')) :: _) = _
    cases hx : x == n with
    | true =>
      simp only [List.lookup_cons, hx] at h
      cases h
      rw [if_neg (by intro e; rw [Bool.and_eq_true, Bool.and_eq_true] at e; exact hk (beq_iff_eq.mp e.1.1))]
      simp [List.lookup_cons, hx]
    | false =>
      simp only [List.lookup_cons, hx] at h
      by_cases hc : (k' == NameKind.free && env.scope.kind == .function && env.kindOf n == some .cell) = true
      · rw [if_pos hc]; simp only [List.lookup_cons, hx]; exact ih h
      · rw [if_neg hc]; simp only [List.lookup_cons, hx]; exact ih h
theorem relabel_free {env : Env} : ∀ {names : List (Str × NameKind)} {x : Str}, names.lookup x = some .free →
    let r := (names.map fun (n, k) => if (k == NameKind.free && env.scope.kind == .function && env.kindOf n == some .cell) then (n, NameKind.cell) else (n, k)).lookup x
    r = some .cell ∨ r = some .free
  | [], _, h => by simp at h
  | (n, k') :: r, x, h => by
    have ih := @relabel_free env r x
    show List.lookup x ((if (k' == NameKind.free && env.scope.kind == .function && env.kindOf n == some .cell) = true then (n, NameKind.cell) else (n, k')) :: _) = _ ∨ List.lookup x ((if (k' == NameKind.free && env.scope.kind == .function && env.kindOf n == some .cell) = true then (n, NameKind.cell) else (n, k')) :: _) = _
    cases hx : x == n with
    | true =>
      simp only [List.lookup_cons, hx] at h
      cases h
      by_cases hc : (NameKind.free == NameKind.free && env.scope.kind == .function && env.kindOf n == some .cell) = true
      · rw [if_pos hc]; left; simp [List.lookup_cons, hx]
      · rw [if_neg hc]; right; simp [List.lookup_cons, hx]
    | false =>
      simp only [List.lookup_cons, hx] at h
      by_cases hc : (k' == NameKind.free && env.scope.kind == .function && env.kindOf n == some .cell) = true
      · rw [if_pos hc]; simp only [List.lookup_cons, hx]; exact ih h
      · rw [if_neg hc]; simp only [List.lookup_cons, hx]; exact ih h

/-- a comprehension's frame within env -/
structure CEnv (env cenv : Env) (scope : Scope) (h₂ : Heap) : Prop where
  F : Fm cenv {}
  kin : Kin cenv scope
  free : ∀ n, scope.names.lookup n = some .free → (cenv.kindOf n = some .cell ∨ cenv.kindOf n = some .free) ∧ cenv.cells.lookup n = env.cells.lookup n
  own : ∀ n c, cenv.cells.lookup n = some c → h₂.get? c = none ∨ env.cells.lookup n = some c
  fresh : ∀ n c, cenv.cells.lookup n = some c → scope.names.lookup n ≠ some .free → h₂.get? c = none
  newL : h₂.get? cenv.locals = none
  cell : ∀ n, scope.names.lookup n = some .cell → (cenv.cells.lookup n).isSome = true

/-- a name that stands in a cell -/
structure CellAt (h : Heap) (env : Env) (n : Str) (v : Value) : Prop where
  ok : okName n = true
  is : ∃ c, env.cells.lookup n = some c ∧ h.IsCell c (some v)
theorem CellAt.keeps {h h' : Heap} {env : Env} {n : Str} {v : Value} (x : CellAt h env n v) (k : ∀ b o, h.get? b = some o → h'.get? b = some o) : CellAt h' env n v :=
  ⟨x.ok, let ⟨c, a, b⟩ := x.is; ⟨c, a, b.keeps k⟩⟩
theorem VarAt.cellAt {h : Heap} {env : Env} {n : Str} {v : Value} (x : VarAt h env n v) (k : env.kindOf n ≠ some .local) : CellAt h env n v :=
  ⟨x.ok, x.is.elim (fun y => absurd y.1 k) fun y => y.2⟩
theorem CEnv.var {env cenv : Env} {scope : Scope} {h₂ h : Heap} (C : CEnv env cenv scope h₂) {n : Str} {v : Value} (hn : scope.names.lookup n = some .free) (x : CellAt h env n v) : VarAt h cenv n v :=
  ⟨x.ok, .inr ⟨(C.free n hn).1, by rw [(C.free n hn).2]; exact x.is⟩⟩
theorem CEnv.cellAt {env cenv : Env} {scope : Scope} {h₂ h : Heap} (C : CEnv env cenv scope h₂) {n : Str} {v : Value} (hn : scope.names.lookup n = some .free) (x : CellAt h env n v) : CellAt h cenv n v :=
  ⟨x.ok, by rw [(C.free n hn).2]; exact x.is⟩

def compOk (scope : Scope) : Bool :=
  scope.kind == .function && scope.names.all (fun x => scope.names.lookup x.1 == some x.2 && (!(x.2 == .free) || ((cellsFrom 0 scope.names []).lookup x.1).isNone))

section
variable {M : Model} {A : Around} {E : Value → Shared → Prop} {s : Shared} {env : Env} {hb : Heap}

theorem compOk_lookup {scope : Scope} (h : compOk scope = true) {x : Str × NameKind} (hx : x ∈ scope.names) : scope.names.lookup x.1 = some x.2 := by
  simp only [compOk, Bool.and_eq_true, List.all_eq_true, beq_iff_eq] at h
  exact (h.2 x hx).1

theorem cells_key {names : List (Str × NameKind)} {n : Str} : ∀ {k : Nat} {acc : List (Str × Addr)}, n ∈ (cellsFrom k names acc).map (·.1) → (n, .cell) ∈ names ∨ n ∈ acc.map (·.1) := by
  induction names with
  | nil => intro k acc h; exact .inr h
  | cons p r ih =>
    obtain ⟨m, kd⟩ := p
    intro k acc h
    unfold cellsFrom at h
    split at h
    · rename_i e
      rcases ih h with h | h
      · exact .inl (List.mem_cons_of_mem _ h)
      · rw [List.map_cons, List.mem_cons] at h
        rcases h with h | h
        · refine .inl ?_
          rw [beq_iff_eq.mp e, h]; exact List.mem_cons_self
        · exact .inr h
    · rcases ih h with h | h
      · exact .inl (List.mem_cons_of_mem _ h)
      · exact .inr h
theorem cells_key' {names : List (Str × NameKind)} {n : Str} : ∀ {k : Nat} {acc : List (Str × Addr)}, ((n, .cell) ∈ names ∨ n ∈ acc.map (·.1)) → n ∈ (cellsFrom k names acc).map (·.1) := by
  induction names with
  | nil => intro k acc h; rcases h with h | h; cases h; exact h
  | cons p r ih =>
    obtain ⟨m, kd⟩ := p
    intro k acc h
    unfold cellsFrom
    split
    · rename_i e
      refine ih ?_
      rcases h with h | h
      · rcases List.mem_cons.mp h with h | h
        · cases h; exact .inr (by simp)
        · exact .inl h
      · exact .inr (by rw [List.map_cons]; exact List.mem_cons_of_mem _ h)
    · rename_i e
      refine ih ?_
      rcases h with h | h
      · rcases List.mem_cons.mp h with h | h
        · cases h; exact absurd rfl e
        · exact .inl h
      · exact .inr h

theorem new_cenv {scope : Scope} {Q : Env → Shared → Prop} {qual : Str} {h₂ : Heap} (F : Fm env hb) (Lv : Live env s.heap) (hok : compOk scope = true)
    (hfree : ∀ x ∈ scope.names, x.2 = .free → (env.cells.lookup x.1).isSome = true) (h2 : ∀ b o, h₂.get? b = some o → s.heap.get? b = some o)
    (h : ∀ cenv s', CEnv env { cenv with scope := relabel scope env } scope h₂ → Live { cenv with scope := relabel scope env } s'.heap → Mv [] s s' →
      s.heap.objs.size ≤ cenv.locals → (∀ n c, cenv.cells.lookup n = some c → s.heap.objs.size ≤ c ∨ env.cells.lookup n = some c) → Q cenv s') :
    wpAny M A (newFunctionEnv scope env.globals (freeOf env scope.names []) [] qual none .none (some env)) Q E s := by
  simp only [newFunctionEnv, Option.isSome_some, if_true]
  refine wpAny_bind (wpAny_alloc ?_)
  refine wpAny_bind (wpAny_layCells _ (fun name kind cells => by cases hkc : kind == NameKind.cell <;> simp [hkc]) _ _ _ _ ?_)
  rw [List.forIn_nil]
  refine wpAny_bind (wpAny_pure (wpAny_pure ?_))
  have hS : ({ s with heap := s.heap.push { cls := .type "dict", data := .dict #[] } } : Shared).heap.objs.size = s.heap.objs.size + 1 := Heap.size_push ..
  rw [hS, cellsFrom_append]
  have ok := cellsFrom_ok scope.names (s.heap.push { cls := .type "dict", data := .dict #[] }) (s.heap.objs.size + 1) [] ⟨fun _ _ hm => (nomatch hm), List.Pairwise.nil⟩ (by rw [Heap.size_push]; exact Nat.le_refl _)
  rw [Heap.size_push] at ok
  generalize hcs : cellsFrom (s.heap.objs.size + 1) scope.names [] = cs at ok ⊢
  have kp : ∀ b o, s.heap.get? b = some o → (pushCells (s.heap.push { cls := .type "dict", data := .dict #[] }) scope.names).get? b = some o := fun b o e => pushCells_keeps _ _ b o (Heap.get?_push_of_some _ e)
  have none_of : ∀ c, s.heap.objs.size ≤ c → s.heap.get? c = none := fun c hc => by
    cases e : s.heap.get? c with
    | none => rfl
    | some o' => exact absurd (Heap.lt_size e) (Nat.not_lt.mpr hc)
  have hok' := hok
  simp only [compOk, Bool.and_eq_true, List.all_eq_true, beq_iff_eq, Bool.or_eq_true, Bool.not_eq_true', beq_eq_false_iff_ne, ne_eq, Option.isNone_iff_eq_none] at hok'
  have csn : ∀ n, (n, NameKind.free) ∈ scope.names → cs.lookup n = none := fun n hn => by
    rcases (hok'.2 (n, .free) hn).2 with h | h
    · exact absurd rfl h
    · cases e : cs.lookup n with
      | none => rfl
      | some c =>
        have := cells_lookup_isSome (m := 0) (by rw [hcs, e]; rfl : ((cellsFrom (s.heap.objs.size + 1) scope.names []).lookup n).isSome = true)
        simp only at h
        rw [h] at this; cases this
  have csl : ∀ n, scope.names.lookup n = some .free → cs.lookup n = none ∧ (freeOf env scope.names []).lookup n = env.cells.lookup n := fun n hn => ⟨csn n (mem_of_lookup hn), freeOf_lookup (mem_of_lookup hn) (hfree _ (mem_of_lookup hn) rfl)⟩
  have fl : ∀ n c, (freeOf env scope.names []).lookup n = some c → (n, .free) ∈ scope.names ∧ env.cells.lookup n = some c := fun n c hc => by
    rcases freeOf_mem _ _ (mem_of_lookup hc) with h | ⟨h, e⟩
    · cases h
    · exact ⟨h, by rw [← freeOf_lookup h (hfree _ h rfl)]; exact hc⟩
  have cases' : ∀ n c, (cs ++ freeOf env scope.names []).lookup n = some c → (cs.lookup n = some c ∧ s.heap.objs.size + 1 ≤ c) ∨ ((n, .free) ∈ scope.names ∧ env.cells.lookup n = some c ∧ c < s.heap.objs.size) := fun n c hc => by
    rw [lookup_append'] at hc
    cases e : cs.lookup n with
    | some c' => rw [e] at hc; cases hc; exact .inl ⟨rfl, (ok.empty n c (mem_of_lookup e)).2⟩
    | none =>
      rw [e] at hc
      obtain ⟨h1, h2⟩ := fl n c hc
      obtain ⟨v, o, ho, _⟩ := Lv.cell n c h2
      exact .inr ⟨h1, h2, Heap.lt_size ho⟩
  refine h _ _ ⟨⟨hok'.1, ?_, ?_, rfl, fun _ _ _ => rfl, fun n n' c h1 h2 => ?_⟩, fun n k hk e => relabel_keeps hk e, fun n hn => ⟨relabel_free hn, ?_⟩, fun n c hc => ?_, fun n c hc hn => ?_, ?_, fun n hn => ?_⟩ ⟨⟨_, (Heap.Ns.new s.heap (.type "dict")).keeps (pushCells_keeps _ _)⟩, fun n c hc => ?_⟩ (Mv.ofAll (s := s) (tk := s.toks) kp) (Nat.le_refl _) fun n c hc => ?_
  · exact F.glob
  · exact F.blt
  · rcases cases' n c h1 with ⟨a1, b1⟩ | ⟨a1, b1, d1⟩
    · rcases cases' n' c h2 with ⟨a2, b2⟩ | ⟨a2, b2, d2⟩
      · exact name_of_addr ok.apart (mem_of_lookup a1) (mem_of_lookup a2)
      · exact absurd (Nat.lt_of_lt_of_le d2 (Nat.le_of_succ_le b1)) (Nat.lt_irrefl _)
    · rcases cases' n' c h2 with ⟨a2, b2⟩ | ⟨a2, b2, d2⟩
      · exact absurd (Nat.lt_of_lt_of_le d1 (Nat.le_of_succ_le b2)) (Nat.lt_irrefl _)
      · exact F.apart _ _ _ b1 b2
  · show (cs ++ freeOf env scope.names []).lookup n = _
    rw [lookup_append', (csl n hn).1, (csl n hn).2]; rfl
  · rcases cases' n c hc with ⟨a, b⟩ | ⟨a, b, d⟩
    · refine .inl ?_
      cases e : h₂.get? c with
      | none => rfl
      | some o => have := h2 _ _ e; rw [none_of c (by omega)] at this; cases this
    · exact .inr b
  · rcases cases' n c hc with ⟨a, b⟩ | ⟨a, b, d⟩
    · cases e : h₂.get? c with
      | none => rfl
      | some o => have := h2 _ _ e; rw [none_of c (by omega)] at this; cases this
    · exact absurd (compOk_lookup hok a) hn
  · cases e : h₂.get? s.heap.objs.size with
    | none => rfl
    | some o => have := h2 _ _ e; rw [fresh_size] at this; cases this
  · show ((cs ++ freeOf env scope.names []).lookup n).isSome = true
    have : n ∈ (cellsFrom (s.heap.objs.size + 1) scope.names []).map (·.1) := cells_key' (.inl (mem_of_lookup hn))
    rw [hcs] at this
    obtain ⟨p, hp, rfl⟩ := List.mem_map.mp this
    obtain ⟨c', hc'⟩ := lookup_isSome_of_mem (c := p.2) hp
    rw [lookup_append', hc']; rfl
  · rcases cases' n c hc with ⟨a, b⟩ | ⟨a, b, d⟩
    · exact ⟨none, (ok.empty n c (mem_of_lookup a)).1⟩
    · obtain ⟨v, hv⟩ := Lv.cell n c b
      exact ⟨v, hv.keeps kp⟩
  · rcases cases' n c hc with ⟨a, b⟩ | ⟨a, b, d⟩
    · exact .inl (Nat.le_of_succ_le b)
    · exact .inr b
theorem none_ge {h : Heap} {c : Addr} (hc : h.objs.size ≤ c) : h.get? c = none := by
  cases e : h.get? c with
  | none => rfl
  | some o' => exact absurd (Heap.lt_size e) (Nat.not_lt.mpr hc)
end
end Mine
end

section
open PySem PySem.W PyProof.Rows PySem.Calls
set_option maxRecDepth 100000
set_option linter.unusedVariables false
namespace Mine

/-- a step of env that stores the names N -/
structure Stp (env : Env) (N : List Str) (s s' : Shared) : Prop where
  fs : Fs env [] s s'
  live : Live env s'.heap
  vars : ∀ n v, n ∉ N → VarAt s.heap env n v → VarAt s'.heap env n v
theorem Stp.refl {env : Env} {s : Shared} (L : Live env s.heap) : Stp env [] s s := ⟨Fs.refl _ _ _, L, fun _ _ _ x => x⟩
theorem Stp.trans {env : Env} {N N' : List Str} {s s' s'' : Shared} (x : Stp env N s s') (y : Stp env N' s' s'') : Stp env (N ++ N') s s'' :=
  ⟨x.fs.trans y.fs, y.live, fun n v h q => y.vars n v (fun h' => h (List.mem_append_right _ h')) (x.vars n v (fun h' => h (List.mem_append_left _ h')) q)⟩
theorem Stp.ex {env : Env} {s s' : Shared} (L : Live env s.heap) (x : Ex s s') : Stp env [] s s' := ⟨x.fs, L.keeps x.kp, fun _ _ _ q => q.keeps x.kp⟩
theorem Stp.then {env : Env} {N : List Str} {s s' s'' : Shared} (x : Stp env N s s') (y : Ex s' s'') : Stp env N s s'' :=
  ⟨x.fs.trans y.fs, x.live.keeps y.kp, fun n v h q => (x.vars n v h q).keeps y.kp⟩
theorem Stp.on {env : Env} {N : List Str} {s s' s'' : Shared} (y : Ex s s') (x : Stp env N s' s'') : Stp env N s s'' :=
  ⟨y.fs.trans x.fs, x.live, fun n v h q => x.vars n v h (q.keeps y.kp)⟩
theorem Stored.stp {env : Env} {n : Str} {v : Value} {s s' : Shared} (x : Stored env n v s s') : Stp env [n] s s' :=
  ⟨x.fs, x.live, fun n' v' h q => x.vars n' v' (fun e => h (by simp [e])) q⟩

def IsSeq (o : Obj) : Prop := ∃ xs n, o.data = .seq xs n
/-- what is told of D and of lists and tuples -/
def Stb (D : Addr) (P : Heap → Prop) : Prop := ∀ h h', P h → (∀ b o, h.get? b = some o → (b = D ∨ IsSeq o) → h'.get? b = some o) → P h'

theorem Live.seqOut {env : Env} {h : Heap} (x : Live env h) {b : Addr} {o : Obj} (ho : h.get? b = some o) (hs : IsSeq o) : Out env b := by
  obtain ⟨xs, n, hd⟩ := hs
  refine ⟨fun e => ?_, fun n e => ?_⟩
  · obtain ⟨m, o', es, ep, ho', hd', _⟩ := x.ns
    rw [← e, ho] at ho'; cases ho'; rw [hd] at hd'; cases hd'
  · obtain ⟨v, o', ho', hd'⟩ := x.cell n b e
    rw [ho] at ho'; cases ho'; rw [hd] at hd'; cases hd'
theorem Live.setOut {env : Env} {h : Heap} (x : Live env h) {b : Addr} {o : Obj} (ho : h.get? b = some o) (hs : ∃ es ep t, o.data = .set es ep t) : Out env b := by
  obtain ⟨xs, n, t, hd⟩ := hs
  refine ⟨fun e => ?_, fun n e => ?_⟩
  · obtain ⟨m, o', es, ep, ho', hd', _⟩ := x.ns
    rw [← e, ho] at ho'; cases ho'; rw [hd] at hd'; cases hd'
  · obtain ⟨v, o', ho', hd'⟩ := x.cell n b e
    rw [ho] at ho'; cases ho'; rw [hd] at hd'; cases hd'
theorem Live.fieldsOut {env : Env} {h : Heap} (x : Live env h) {b : Addr} {o : Obj} (ho : h.get? b = some o) (hs : ∃ es, o.data = .fields es) : Out env b := by
  obtain ⟨xs, hd⟩ := hs
  refine ⟨fun e => ?_, fun n e => ?_⟩
  · obtain ⟨m, o', es, ep, ho', hd', _⟩ := x.ns
    rw [← e, ho] at ho'; cases ho'; rw [hd] at hd'; cases hd'
  · obtain ⟨v, o', ho', hd'⟩ := x.cell n b e
    rw [ho] at ho'; cases ho'; rw [hd] at hd'; cases hd'
theorem Live.dictOut {env : Env} {h : Heap} (x : Live env h) {b : Addr} {o : Obj} (ho : h.get? b = some o) (hs : ∃ es ep, o.data = .dict es ep) (hb : b ≠ env.locals) : Out env b := by
  obtain ⟨xs, n, hd⟩ := hs
  refine ⟨hb, fun n e => ?_⟩
  obtain ⟨v, o', ho', hd'⟩ := x.cell n b e
  rw [ho] at ho'; cases ho'; rw [hd] at hd'; cases hd'
theorem Live.butOut {env : Env} {h h' : Heap} (x : Live env h) {D : Addr} (hD : Out env D) (k : ∀ b o, b ≠ D → h.get? b = some o → h'.get? b = some o) : Live env h' := by
  refine ⟨let ⟨m, o, es, ep, ho, r⟩ := x.ns; ⟨m, o, es, ep, k _ _ (Ne.symm hD.1) ho, r⟩, fun n c e => let ⟨v, o, ho, hd⟩ := x.cell n c e; ⟨v, o, k _ _ (fun q => hD.2 n (q ▸ e)) ho, hd⟩⟩
theorem VarAt.butOut {env : Env} {h h' : Heap} {n : Str} {v : Value} (x : VarAt h env n v) {D : Addr} (hD : Out env D) (k : ∀ b o, b ≠ D → h.get? b = some o → h'.get? b = some o) : VarAt h' env n v :=
  ⟨x.ok, x.is.imp (fun ⟨a, m, ⟨o, es, ep, ho, r⟩, c⟩ => ⟨a, m, ⟨o, es, ep, k _ _ (Ne.symm hD.1) ho, r⟩, c⟩) fun ⟨a, c, b, o, ho, hd⟩ => ⟨a, c, b, o, k _ _ (fun q => hD.2 n (q ▸ b)) ho, hd⟩⟩
theorem Stb.stored {env : Env} {D : Addr} {P : Heap → Prop} {n : Str} {v : Value} {s s' : Shared} (hs : Stb D P) (L : Live env s.heap) (hD : Out env D) (x : Stored env n v s s') (h : P s.heap) : P s'.heap := by
  refine hs _ _ h fun b o e hb => ?_
  have : Out env b := by
    rcases hb with rfl | hb
    · exact hD
    · exact L.seqOut e hb
  exact x.fs.kp b o this (fun q => nomatch q) e

def testsM (ifs : List Expr) (env : Env) : Sem Bool := forIn ifs true fun c r => if r = true then do let ok ← isTrue c env (eval c env); pure (ForInStep.yield ok) else pure (ForInStep.yield r)
def turnM (p : Pos) (it : Value) (t : Expr) (ifs : List Expr) (body : Sem Unit) (c : Code) (env : Env) : Sem Fin := do
  standAt p
  match ← pyNext it with
  | none => pure (.done .next)
  | some v =>
    letOwnedTupleGo t it v
    assign t env v
    let ok ← testsM ifs env
    if ok then body
    again c

section
variable {prog : Program} {w : World} {A : Around} {E : Value → Shared → Prop} {R : Result → Shared → Prop} {s : Shared} {env : Env} {hb : Heap}

theorem cl_loop {e : Expr} {d : Nat} {it acc : Value} {t : Expr} {p : Pos} {ifs : List Expr} {body : Sem Unit}
    (hT : compTurn e d it acc env = turnM p it t ifs body (.compLoop e d it acc env) env)
    (hD : (model prog w).den (.compLoop e d it acc env) = (compTurn e d it acc env).onRaise (fun x => do noteFrame x env; theTreesLotGoes x))
    (hU : A.under (.compLoop e d it acc env) = A) (hq : (Code.compLoop e d it acc env).quiet = true) (hL : ∀ v, letOwnedTupleGo t it v = pure ()) (I : Nat → Shared → Prop) (n : Nat)
    (item : ∀ i s (E' : Value → Shared → Prop), i < n → I i s → wpAny (model prog w) A (pyNext it) (fun r s₁ => ∃ v, r = some v ∧ wpAny (model prog w) A (assign t env v) (fun _ s₂ =>
      wpAny (model prog w) A (testsM ifs env) (fun ok s₃ => if ok = true then wpAny (model prog w) A body (fun _ s₄ => I (i + 1) s₄) E' s₃ else I (i + 1) s₃) E' s₂) E' s₁) E' s)
    (done : ∀ s (E' : Value → Shared → Prop), I n s → wpAny (model prog w) A (pyNext it) (fun r s₁ => r = none ∧ R (.ok .next) s₁) E' s)
    (h : I 0 s) : codeAny (model prog w) A (.compLoop e d it acc env) R s := by
  refine codeAny_loop hq (fun k s => ∃ i, i ≤ n ∧ k = n - i ∧ I i s) (fun k s hI => ?_) (n - 0) ⟨0, Nat.zero_le _, rfl, h⟩
  obtain ⟨i, hi, rfl, hI⟩ := hI
  rw [hU, hD]
  refine wpAny_noted ?_
  rw [hT]
  unfold turnM
  refine wpAny_bind (wpAny_standAt (wpAny_bind ?_))
  rcases Nat.lt_or_ge i n with hlt | hge
  · refine wpAny_mono (item i s _ hlt hI) (fun r s₁ h₁ => ?_) fun _ _ h' => h'
    obtain ⟨v, rfl, h₁⟩ := h₁
    refine wpAny_bind (wpAny_of_eq (hL v) ?_)
    refine wpAny_bind (wpAny_mono h₁ (fun _ s₂ h₂ => wpAny_bind (wpAny_mono h₂ (fun ok s₃ h₃ => ?_) fun _ _ h' => h')) fun _ _ h' => h')
    cases ok with
    | false => exact wpAny_bind (wpAny_pure (wpAny_pure ⟨rfl, n - (i + 1), by omega, i + 1, hlt, rfl, h₃⟩))
    | true => exact wpAny_bind (wpAny_mono h₃ (fun _ s₄ h₄ => wpAny_pure ⟨rfl, n - (i + 1), by omega, i + 1, hlt, rfl, h₄⟩) fun _ _ h' => h')
  · have e : i = n := Nat.le_antisymm hi hge
    subst e
    refine wpAny_mono (done s _ hI) (fun r s₁ h₁ => ?_) fun _ _ h' => h'
    obtain ⟨rfl, h₁⟩ := h₁
    exact wpAny_pure h₁

theorem cs_start {e : Expr} {d : Nat} {it acc : Value} {g : Comprehension} (hg : (clausesOf e)[d]? = some g) (ha : g.is_async = 0)
    (hD : (model prog w).den (.compStart e d it acc env) = (compStart e d it acc env).onRaise (fun x => do noteFrame x env; standAt theWindowsPlace))
    (hU : A.under (.compStart e d it acc env) = A) (hq : (Code.compLoop e d it acc env).quiet = true)
    (h0 : codeAny (model prog w) A (.compLoop e d it acc env) R s)
    (hself : ∀ (Q : Value → Shared → Prop) (E' : Value → Shared → Prop), Q it s → wpAny (model prog w) A (pyIter it) Q E' s) :
    codeAny (model prog w) A (.compStart e d it acc env) R s := by
  refine codeAny_of_tree ?_
  rw [hU, hD]
  refine wpAny_notedAt ?_
  unfold compStart
  rw [hg]
  have : (some g).elim false (fun x => x.is_async != 0) = false := by simp [ha]
  rw [this]
  show wpAny _ _ (ask >>= _) _ _ s
  refine wpAny_bind (wpAny_askSetting (wpAny_ite ?_))
  split
  · first
      | exact wpAny_bind (wpAny_pure (wpAny_pure (And.intro hq h0)))
      | exact wpAny_pure (And.intro hq h0)
  · first
      | exact wpAny_bind (wpAny_rule (wpAny_bind (wpAny_standAt (wpAny_bind (hself _ _ (wpAny_pure (And.intro hq h0)))))))
      | (refine wpAny_bind (wpAny_rule ?_); show wpAny _ _ (standAt g.iter.pos >>= _) _ _ s; exact wpAny_bind (wpAny_standAt (wpAny_bind (hself _ _ (wpAny_pure (And.intro hq h0))))))
end
end Mine
end

section
open PySem PySem.W PyProof.Rows PySem.Calls
set_option maxRecDepth 100000
set_option linter.unusedVariables false
namespace Mine

structure ExB (D : Addr) (s s' : Shared) : Prop where
  kp : ∀ b o, b ≠ D → s.heap.get? b = some o → s'.heap.get? b = some o
  gens : AllBare s.gens → AllBare s'.gens
  os : s'.os = s.os
theorem Ex.b {D : Addr} {s s' : Shared} (x : Ex s s') : ExB D s s' := ⟨fun b o _ e => x.kp b o e, x.gens, x.os⟩
theorem ExB.trans {D : Addr} {s s' s'' : Shared} (x : ExB D s s') (y : ExB D s' s'') : ExB D s s'' := ⟨fun b o h e => y.kp b o h (x.kp b o h e), fun h => y.gens (x.gens h), y.os.trans x.os⟩
theorem ExB.ex {D : Addr} {s₀ s s' : Shared} (y : Ex s₀ s) (x : ExB D s s') (hD : s₀.heap.get? D = none) : Ex s₀ s' :=
  ⟨fun b o e => x.kp b o (fun h => by rw [h, hD] at e; cases e) (y.kp b o e), fun h => x.gens (y.gens h), x.os.trans y.os⟩

/-- a turn's step: D, and the comprehension's own names, may change -/
structure ExC (D : Addr) (env cenv : Env) (s s' : Shared) : Prop where
  kp : ∀ b o, b ≠ D → b ≠ cenv.locals → (∀ n, cenv.cells.lookup n = some b → env.cells.lookup n = some b) → s.heap.get? b = some o → s'.heap.get? b = some o
  gens : AllBare s.gens → AllBare s'.gens
  os : s'.os = s.os
  live : Live cenv s.heap → Live cenv s'.heap
theorem ExB.c {D : Addr} {env cenv : Env} {s s' : Shared} (x : ExB D s s') (hD : Out cenv D) : ExC D env cenv s s' := ⟨fun b o h _ _ e => x.kp b o h e, x.gens, x.os, fun L => L.butOut hD x.kp⟩

structure CompShape (e : Expr) (x : Str) (px p : Pos) (ifs : List Expr) (body : Value → Env → Sem Unit) (prog : Program) (w : World) (A : Around) : Prop where
  turn : ∀ it acc env, compTurn e 0 it acc env = turnM p it (.Name x px) ifs (body acc env) (.compLoop e 0 it acc env) env
  denL : ∀ it acc env, (model prog w).den (.compLoop e 0 it acc env) = (compTurn e 0 it acc env).onRaise (fun x => do noteFrame x env; theTreesLotGoes x)
  denS : ∀ it acc env, (model prog w).den (.compStart e 0 it acc env) = (compStart e 0 it acc env).onRaise (fun x => do noteFrame x env; standAt theWindowsPlace)
  underL : ∀ it acc env, A.under (.compLoop e 0 it acc env) = A
  underS : ∀ it acc env, A.under (.compStart e 0 it acc env) = A
  quiet : ∀ it acc env, (Code.compLoop e 0 it acc env).quiet = true
  goes : ∀ it v, letOwnedTupleGo (.Name x px) it v = pure ()

/-- what a comprehension asks of its source, turn and end -/
structure CompIn (prog : Program) (w : World) (A : Around) (env : Env) (scope : Scope) (x : Str) (ifs : List Expr) (body : Value → Env → Sem Unit) (Acc : Addr → Nat → Heap → Prop) (G : Addr → Shared → Prop) (Fin : Addr → Shared → Prop)
    (s s₂ : Shared) (I : Addr) (fp wr : List Addr) (n : Nat) (P : Nat → Value → Prop) (St : Nat → Heap → Prop) : Prop where
  walks : Walks prog w A I fp wr n P St
  st : St 0 s₂.heap
  fpOld : ∀ b ∈ fp, b < s₂.heap.objs.size
  wrNew : ∀ b ∈ wr, s.heap.get? b = none
  cls : ∀ i h, St i h → ∀ b ∈ wr, ∀ o, h.get? b = some o → ¬ IsSeq o
  ex : Ex s s₂
  turn : ∀ cenv D i v s₃ (E' : Value → Shared → Prop), CEnv env cenv scope s.heap → i < n → P i v → Live cenv s₃.heap → VarAt s₃.heap cenv x v → (∀ b o, s.heap.get? b = some o → s₃.heap.get? b = some o) → Acc D i s₃.heap → Out cenv D → s.heap.get? D = none →
    wpAny (model prog w) A (testsM ifs cenv) (fun ok s₄ => if ok = true then wpAny (model prog w) A (body (.ref D) cenv) (fun _ s₅ => Acc D (i + 1) s₅.heap ∧ ExC D env cenv s₃ s₅) E' s₄ else Acc D (i + 1) s₄.heap ∧ ExC D env cenv s₃ s₄) E' s₃
  done : ∀ D s', s.heap.get? D = none → Acc D n s'.heap → G D s' → Fin D s'

section
variable {prog : Program} {w : World} {A : Around} {E : Value → Shared → Prop} {R : Result → Shared → Prop} {s : Shared} {env : Env} {hb : Heap}

theorem comp_core {e : Expr} {scope : Scope} {newAcc first : Sem Value} {g : Comprehension} {gs : List Comprehension} {x : Str} {px p : Pos} {ifs : List Expr} {body : Value → Env → Sem Unit} {RR : Value → Addr → Result → Shared → Prop}
    (hcl : clausesOf e = g :: gs) (ha : g.is_async = 0) (hsh : CompShape e x px p ifs body prog w A) (F : Fm env hb) (Lv : Live env s.heap) (hok : compOk scope = true)
    (hfree : ∀ x ∈ scope.names, x.2 = .free → (env.cells.lookup x.1).isSome = true) (hx : scope.names.lookup x = some .local ∨ scope.names.lookup x = some .cell) (hxo : okName x = true)
    (Acc : Addr → Nat → Heap → Prop) (hst : ∀ D i, Stb D (Acc D i))
    (hnew : ∀ s₂ (Q : Value → Shared → Prop) E', Ex s s₂ → (∀ D s₃ o, s₂.heap.objs.size ≤ D → s₃.heap.get? D = some o → s₂.heap.objs.size ≤ s₃.heap.objs.size → Mv [] s₂ s₃ → Acc D 0 s₃.heap → Q (.ref D) s₃) → wpAny (model prog w) A newAcc Q E' s₂)
    {G Fin : Addr → Shared → Prop}
    (hRR : ∀ n D cl s', s.heap.get? D = none → Acc D n s'.heap → Ex s s' → s.heap.get? cl = none → D ≠ cl → (∃ m, s'.heap.Ns cl m) → (∀ s'', Acc D n s''.heap → G D s'' → Fin D s'') → RR (.ref D) cl (.ok .next) s')
    (h : wpAny (model prog w) A first (fun xv s₁ => wpAny (model prog w) A (pyIter xv) (fun it s₂ => ∃ I fp wr n P St, it = .ref I ∧ CompIn prog w A env scope x ifs body Acc G Fin s s₂ I fp wr n P St) E s₁) E s) :
    wpAny (model prog w) A first (fun xv s₁ => wpAny (model prog w) A (pyIter xv) (fun it s₂ => wpAny (model prog w) A newAcc (fun acc s₃ =>
      wpAny (model prog w) A (newFunctionEnv scope env.globals (freeOf env scope.names []) [] env.qual none .none (some env)) (fun cenv s₄ =>
        codeAny (model prog w) A (.compStart e 0 it acc { cenv with scope := relabel scope env }) (RR acc cenv.locals) s₄) E s₃) E s₂) E s₁) E s := by
  refine wpAny_mono h (fun xv s₁ h₁ => wpAny_mono h₁ (fun it s₂ h₂ => ?_) fun _ _ x => x) fun _ _ x => x
  obtain ⟨I, fp, wr, n, P, St, rfl, C⟩ := h₂
  refine hnew s₂ _ _ C.ex fun D s₃ oD hD' hoD hsz m₃ hA₃ => ?_
  have hD : s₂.heap.get? D = none := none_ge hD'
  have x₃ : Ex s s₃ := C.ex.trans m₃.ex
  have hDs : s.heap.get? D = none := C.ex.none hD
  refine new_cenv (h₂ := s.heap) F (Lv.keeps x₃.kp) hok hfree x₃.kp fun cenv s₄ CE L₄ m₄ hcl4 hcells => ?_
  generalize hce : ({ cenv with scope := relabel scope env } : Env) = ce at CE L₄ ⊢
  have hloc : ce.locals = cenv.locals := by rw [← hce]
  have hcel : ce.cells = cenv.cells := by rw [← hce]
  have hDout : Out ce D := by
    refine ⟨fun e => ?_, fun n e => ?_⟩
    · rw [e, hloc, none_ge hcl4] at hoD; cases hoD
    · rw [hcel] at e
      rcases hcells n D e with h | h
      · rw [none_ge h] at hoD; cases hoD
      · obtain ⟨v, o, ho, _⟩ := Lv.cell n D h
        rw [hDs] at ho; cases ho
  have x₄ : Ex s s₄ := x₃.trans m₄.ex
  have hA₄ : Acc D 0 s₄.heap := hst D 0 _ _ hA₃ fun b o e _ => m₄.all b o e
  have hst₄ : St 0 s₄.heap := C.walks.frame 0 _ _ C.st fun b _ o e => m₄.all b o (m₃.all b o e)
  have hDfp : D ∉ fp := fun hm => Nat.lt_irrefl _ (Nat.lt_of_lt_of_le (C.fpOld D hm) hD')
  have hDw : D ∉ wr := fun h => hDfp (C.walks.sub _ h)
  have hclfp : ce.locals ∉ fp := fun hm => Nat.lt_irrefl _ (Nat.lt_of_lt_of_le (C.fpOld _ hm) (Nat.le_trans hsz (hloc ▸ hcl4)))
  have hxfp : ∀ c, ce.cells.lookup x = some c → c ∉ fp := fun c hc hm => by
    rcases hcells x c (by rw [← hcel]; exact hc) with h | h
    · exact Nat.lt_irrefl _ (Nat.lt_of_lt_of_le (C.fpOld _ hm) (Nat.le_trans hsz h))
    · have h5 := CE.fresh x c hc (by rcases hx with hx | hx <;> rw [hx] <;> decide)
      obtain ⟨v, o, ho, _⟩ := Lv.cell x c h
      rw [h5] at ho; cases ho
  refine cs_start (g := g) (by rw [hcl]; rfl) ha (hsh.denS _ _ _) (hsh.underS _ _ _) (hsh.quiet _ _ _) ?_ (fun Q E' q => C.walks.self 0 _ _ _ hst₄ q)
  refine cl_loop (hsh.turn _ _ _) (hsh.denL _ _ _) (hsh.underL _ _ _) (hsh.quiet _ _ _) (hsh.goes _) (fun i s' => St i s'.heap ∧ Acc D i s'.heap ∧ Live ce s'.heap ∧ Ex s s') n (fun i s' E' hi hI => ?_) (fun s' E' hI => ?_) ⟨hst₄, hA₄, L₄, x₄⟩
  · obtain ⟨hS, hA, hL, hx'⟩ := hI
    refine C.walks.item i s' _ _ hi hS fun v h' tk hP hS' hk => ⟨v, rfl, ?_⟩
    have hwOut : ∀ b o, (b = D ∨ IsSeq o) → s'.heap.get? b = some o → b ∉ wr := fun b o hb' e hw => by
      rcases hb' with rfl | hq
      · exact hDw hw
      · exact C.cls i _ hS b hw o e hq
    have hA1 : Acc D i h' := hst D i _ _ hA fun b o e hb' => hk b o (hwOut b o hb' e) e
    have hL1 : Live ce h' := by
      obtain ⟨⟨m, o, es, ep, ho, r⟩, hc⟩ := hL
      refine ⟨⟨m, o, es, ep, hk _ _ (fun hw => hclfp (C.walks.sub _ hw)) ho, r⟩, fun n c e => ?_⟩
      obtain ⟨v, o', ho', hd'⟩ := hc n c e
      refine ⟨v, o', hk _ _ (fun hw => ?_) ho', hd'⟩
      rcases CE.own n c e with h | h
      · rw [hcel] at e
        rcases hcells n c e with h' | h'
        · exact Nat.lt_irrefl _ (Nat.lt_of_lt_of_le (C.fpOld _ (C.walks.sub _ hw)) (Nat.le_trans hsz h'))
        · obtain ⟨v, o3, ho3, _⟩ := Lv.cell n c h'
          rw [C.wrNew c hw] at ho3; cases ho3
      · obtain ⟨v, o3, ho3, _⟩ := Lv.cell n c h
        rw [C.wrNew c hw] at ho3; cases ho3
    have x1 : Ex s { s' with heap := h', toks := tk } := ⟨fun b o e => hk b o (fun hw => by rw [C.wrNew b hw] at e; cases e) (hx'.kp b o e), hx'.gens, hx'.os⟩
    refine wpAny_assign_Name (st_name (s := { s' with heap := h', toks := tk }) CE.F hL1 (by rcases hx with hx | hx; exact .inl (CE.kin x _ (by decide) hx); exact .inr ⟨CE.kin x _ (by decide) hx, CE.cell x hx⟩) hxo fun s₅ st5 => ?_)
    have ownk : ∀ b o, h'.get? b = some o → b ≠ ce.locals → (∀ c, ce.cells.lookup x = some c → b ≠ c) → s₅.heap.get? b = some o := fun b o e h1 h2 => st5.own b o h1 (fun q => h2 b q rfl) e
    have x5 : Ex s s₅ := by
      refine ⟨fun b o e => ownk b o (x1.kp b o e) (fun q => ?_) fun c hc q => ?_, fun h => ?_, st5.fs.os.trans x1.os⟩
      · rw [q, CE.newL] at e; cases e
      · have := CE.fresh x c hc (by rcases hx with hx | hx <;> rw [hx] <;> decide)
        rw [q, this] at e; cases e
      · exact st5.fs.gens (x1.gens h)
    have hA5 : Acc D i s₅.heap := (hst D i).stored (s := { s' with heap := h', toks := tk }) hL1 hDout st5 hA1
    have hS5 : St (i + 1) s₅.heap := C.walks.frame _ _ _ hS' fun b hb' o e => ownk b o e (fun q => hclfp (q ▸ hb')) fun c hc q => hxfp c hc (q ▸ hb')
    refine wpAny_mono (C.turn ce D i v s₅ E' CE hi hP st5.live st5.var x5.kp hA5 hDout hDs) (fun ok s₆ h₆ => ?_) fun _ _ h => h
    have fin : ∀ s₇ : Shared, Acc D (i + 1) s₇.heap → ExC D env ce s₅ s₇ → St (i + 1) s₇.heap ∧ Acc D (i + 1) s₇.heap ∧ Live ce s₇.heap ∧ Ex s s₇ := fun s₇ hA7 x7 =>
      ⟨C.walks.frame _ _ _ hS5 fun b hb' o e => x7.kp b o (fun q => hDfp (q ▸ hb')) (fun q => hclfp (q ▸ hb')) (fun n hn => by
          rcases hcells n b (by rw [← hcel]; exact hn) with h | h
          · exact absurd (Nat.lt_of_lt_of_le (C.fpOld _ hb') (Nat.le_trans hsz h)) (Nat.lt_irrefl _)
          · exact h) e, hA7, x7.live st5.live,
        ⟨fun b o e => x7.kp b o (fun q => by rw [q, hDs] at e; cases e) (fun q => by rw [q, CE.newL] at e; cases e) (fun n hn => by
          rcases CE.own n b hn with h | h
          · rw [h] at e; cases e
          · exact h) (x5.kp b o e), fun g => x7.gens (x5.gens g), x7.os.trans x5.os⟩⟩
    cases ok with
    | true => exact wpAny_mono h₆ (fun _ s₇ h₇ => fin s₇ h₇.1 h₇.2) fun _ _ h => h
    | false => exact fin s₆ h₆.1 h₆.2
  · obtain ⟨hS, hA, hL, hx'⟩ := hI
    refine C.walks.done s' _ _ hS fun h' tk hk => ⟨rfl, ?_⟩
    refine hRR n D cenv.locals _ hDs (hst D n _ _ hA fun b o e hb' => hk b o (fun hw => ?_) e) ⟨fun b o e => hk b o (fun hw => by rw [C.wrNew b hw] at e; cases e) (hx'.kp b o e), hx'.gens, hx'.os⟩ ?_ (fun q => hDout.1 (q.trans hloc.symm)) ?_ fun s'' hA'' hG => C.done D s'' hDs hA'' hG
    · rcases hb' with rfl | hq
      · exact hDw hw
      · exact C.cls n _ hS b hw o e hq
    · rw [← hloc]; exact CE.newL
    · obtain ⟨m, o, es, ep, ho, r⟩ := hL.ns
      exact ⟨m, o, es, ep, hk _ _ (fun hw => hclfp (C.walks.sub _ (hloc ▸ hw))) (hloc ▸ ho), r⟩

theorem comp_eval {e : Expr} {scope : Scope} {pos : Pos} {newAcc first : Sem Value} {g : Comprehension} {gs : List Comprehension} {x : Str} {px p : Pos} {ifs : List Expr} {body : Value → Env → Sem Unit} {Q : Value → Shared → Prop}
    (hcl : clausesOf e = g :: gs) (ha : g.is_async = 0) (hs : ∀ x, foldedSetIterable g.iter env x = pure x) (hsh : CompShape e x px p ifs body prog w A) (F : Fm env hb) (Lv : Live env s.heap) (hok : compOk scope = true)
    (hfree : ∀ x ∈ scope.names, x.2 = .free → (env.cells.lookup x.1).isSome = true) (hx : scope.names.lookup x = some .local ∨ scope.names.lookup x = some .cell) (hxo : okName x = true)
    (Acc : Addr → Nat → Heap → Prop) (hst : ∀ D i, Stb D (Acc D i))
    (hnew : ∀ s₂ (Q : Value → Shared → Prop) E', Ex s s₂ → (∀ D s₃ o, s₂.heap.objs.size ≤ D → s₃.heap.get? D = some o → s₂.heap.objs.size ≤ s₃.heap.objs.size → Mv [] s₂ s₃ → Acc D 0 s₃.heap → Q (.ref D) s₃) → wpAny (model prog w) A newAcc Q E' s₂)
    (h : wpAny (model prog w) A first (fun xv s₁ => wpAny (model prog w) A (pyIter xv) (fun it s₂ => ∃ I fp wr n P St, it = .ref I ∧ CompIn prog w A env scope x ifs body Acc (fun D s' => Ex s s') (fun D s' => Q (.ref D) s') s s₂ I fp wr n P St) E s₁) E s) :
    wpAny (model prog w) A (comprehension e scope env pos newAcc false first none) Q E s := by
  have hok' := hok
  simp only [compOk, Bool.and_eq_true, List.all_eq_true, beq_iff_eq] at hok'
  refine wpAny_comprehension_free (use := none) hcl hs (closure_ok hfree) hok'.1 (fun x hx hl => by rw [compOk_lookup hok hx, hl]) ?_
  refine comp_core (RR := compPost (model prog w) A E none Q) hcl ha hsh F Lv hok hfree hx hxo Acc hst hnew (fun n D cl s' hD hA hx' hcl' hne hn hfin => ?_) h
  obtain ⟨m, hn⟩ := hn
  refine ⟨m, hn, fun h' hs' => hfin _ (hst D n _ _ hA fun b o e hb' => hs'.extBut b o (fun q => ?_) e) ⟨fun b o e => hs'.extBut b o (fun q => ?_) (hx'.kp b o e), hx'.gens, hx'.os⟩⟩
  · rcases hb' with rfl | ⟨xs, k, hq⟩
    · exact hne q
    · obtain ⟨o', es, ep, ho', hd', _⟩ := hn
      rw [q, ho'] at e; cases e; rw [hd'] at hq; cases hq
  · rw [q, hcl'] at e; cases e

theorem comp_use {e : Expr} {scope : Scope} {pos : Pos} {newAcc first : Sem Value} {g : Comprehension} {gs : List Comprehension} {x y : Str} {px py p : Pos} {ifs : List Expr} {body : Value → Env → Sem Unit} {Q : Shared → Prop}
    (hcl : clausesOf e = g :: gs) (ha : g.is_async = 0) (hs : ∀ x, foldedSetIterable g.iter env x = pure x) (hsh : CompShape e x px p ifs body prog w A) (F : Fm env hb) (Lv : Live env s.heap) (hok : compOk scope = true)
    (hfree : ∀ x ∈ scope.names, x.2 = .free → (env.cells.lookup x.1).isSome = true) (hx : scope.names.lookup x = some .local ∨ scope.names.lookup x = some .cell) (hxo : okName x = true)
    (hy : env.kindOf y = some .local) (hyo : okName y = true)
    (Acc : Addr → Nat → Heap → Prop) (hst : ∀ D i, Stb D (Acc D i))
    (hnew : ∀ s₂ (Q : Value → Shared → Prop) E', Ex s s₂ → (∀ D s₃ o, s₂.heap.objs.size ≤ D → s₃.heap.get? D = some o → s₂.heap.objs.size ≤ s₃.heap.objs.size → Mv [] s₂ s₃ → Acc D 0 s₃.heap → Q (.ref D) s₃) → wpAny (model prog w) A newAcc Q E' s₂)
    (h : wpAny (model prog w) A first (fun xv s₁ => wpAny (model prog w) A (pyIter xv) (fun it s₂ => ∃ I fp wr n P St, it = .ref I ∧ CompIn prog w A env scope x ifs body Acc (fun D s' => Stp env [y] s s' ∧ VarAt s'.heap env y (.ref D)) (fun D s' => Q s') s s₂ I fp wr n P St) E s₁) E s) :
    wpAny (model prog w) A (comprehension e scope env pos newAcc false first (some (assign (.Name y py) env))) (fun _ s' => Q s') E s := by
  have hok' := hok
  simp only [compOk, Bool.and_eq_true, List.all_eq_true, beq_iff_eq] at hok'
  refine wpAny_comprehension_free (use := some (assign (.Name y py) env)) (Q := fun _ s' => Q s') hcl hs (closure_ok hfree) hok'.1 (fun x hx hl => by rw [compOk_lookup hok hx, hl]) ?_
  refine comp_core (RR := compPost (model prog w) A E (some (assign (.Name y py) env)) (fun _ s' => Q s')) hcl ha hsh F Lv hok hfree hx hxo Acc hst hnew (fun n D cl s' hD hA hx' hcl' hne hn hfin => ?_) h
  obtain ⟨m, hn⟩ := hn
  show wpAny _ A (assign (.Name y py) env (.ref D)) _ _ _
  have Lv' := Lv.keeps hx'.kp
  have hDo : Out env D := Lv.out hD
  have hco : Out env cl := Lv.out hcl'
  refine wpAny_assign_Name (st_name F Lv' (.inl hy) hyo fun s'' st => ?_)
  have hA2 : Acc D n s''.heap := (hst D n).stored Lv' hDo st hA
  have hn2 : s''.heap.Ns cl m := by
    obtain ⟨o, es, ep, ho, r⟩ := hn
    exact ⟨o, es, ep, st.fs.kp _ _ hco (fun q => nomatch q) ho, r⟩
  refine ⟨m, hn2, fun h' hs' => hfin _ (hst D n _ _ hA2 fun b o e hb' => hs'.extBut b o (fun q => ?_) e) ⟨⟨⟨fun b o hb' hX e => hs'.extBut b o (fun q => ?_) (st.fs.kp b o hb' hX (hx'.kp b o e)), fun g => st.fs.gens (hx'.gens g), st.fs.os.trans hx'.os⟩, st.live.butOut hco hs'.extBut, fun n v hn' q => (st.vars n v (fun e => hn' (by simp [e])) (q.keeps hx'.kp)).butOut hco hs'.extBut⟩, st.var.butOut hco hs'.extBut⟩⟩
  · rcases hb' with rfl | ⟨xs, k, hq⟩
    · exact hne q
    · obtain ⟨o', es, ep, ho', hd', _⟩ := hn2
      rw [q, ho'] at e; cases e; rw [hd'] at hq; cases hq
  · rw [q, hcl'] at e; cases e
end
end Mine
end

section
open PySem PySem.W PyProof.Rows PySem.Calls
set_option maxRecDepth 100000
set_option linter.unusedVariables false
namespace Mine

structure SrcIn (prog : Program) (w : World) (A : Around) (s s₂ : Shared) (I : Addr) (fp wr : List Addr) (n : Nat) (P : Nat → Value → Prop) (St : Nat → Heap → Prop) : Prop where
  walks : Walks prog w A I fp wr n P St
  st : St 0 s₂.heap
  fpOld : ∀ b ∈ fp, b < s₂.heap.objs.size
  wrNew : ∀ b ∈ wr, s.heap.get? b = none
  cls : ∀ i h, St i h → ∀ b ∈ wr, ∀ o, h.get? b = some o → ∃ fs, o.data = .fields fs
  ex : Ex s s₂
theorem SrcIn.on {prog : Program} {w : World} {A : Around} {s₀ s s₂ : Shared} {I : Addr} {fp wr : List Addr} {n : Nat} {P : Nat → Value → Prop} {St : Nat → Heap → Prop} (x : Ex s₀ s) (S : SrcIn prog w A s s₂ I fp wr n P St) : SrcIn prog w A s₀ s₂ I fp wr n P St :=
  ⟨S.walks, S.st, S.fpOld, fun b hb => x.none (S.wrNew b hb), S.cls, x.trans S.ex⟩
theorem SrcIn.to {prog : Program} {w : World} {A : Around} {s₀ s s₂ : Shared} {I : Addr} {fp wr : List Addr} {n : Nat} {P P' : Nat → Value → Prop} {St : Nat → Heap → Prop} (S : SrcIn prog w A s s₂ I fp wr n P St) (h : ∀ i v, i < n → P i v → P' i v) : SrcIn prog w A s s₂ I fp wr n P' St :=
  ⟨{ S.walks with item := fun i s Q E hi st hQ => S.walks.item i s Q E hi st fun v h' tk hP => hQ v h' tk (h i v hi hP) }, S.st, S.fpOld, S.wrNew, S.cls, S.ex⟩

section
variable {prog : Program} {w : World} {A : Around} {E : Value → Shared → Prop} {s : Shared} {Q : Value → Shared → Prop}

theorem it_list {l : Addr} {items : Array Value} (hh : A.handled = none) (hl : s.heap.IsList l items)
    (h : ∀ I s₂ fp wr St, SrcIn prog w A s s₂ I fp wr items.size (fun i v => items[i]? = some v) St → Q (.ref I) s₂) : wpAny (model prog w) A (pyIter (.ref l)) Q E s := by
  refine wpAny_pyIter_list hl ?_
  have hlt : l < s.heap.objs.size := by obtain ⟨o, ho, _⟩ := hl; exact Heap.lt_size ho
  refine h _ _ [s.heap.objs.size, l] [s.heap.objs.size] (fun i h => h.IsListIter s.heap.objs.size l i ∧ h.IsList l items) ⟨Walks.list hh _ l (Nat.ne_of_lt hlt) items, ⟨⟨_, Heap.get?_push_size _ rfl, rfl, rfl⟩, hl.push _⟩, fun b hb => ?_, fun b hb => ?_, fun i h hs b hb o ho => ?_, (Mv.push s _ s.toks).ex⟩
  · show b < (s.heap.push _).objs.size
    rw [Heap.size_push]
    rcases List.mem_cons.mp hb with rfl | hb
    · exact Nat.lt_succ_self _
    · rw [List.mem_singleton.mp hb]; exact Nat.lt_succ_of_lt hlt
  · rw [List.mem_singleton.mp hb]; exact fresh_size _
  · rw [List.mem_singleton.mp hb] at ho
    obtain ⟨o', ho', _, hd⟩ := hs.1
    rw [ho] at ho'; cases ho'; exact ⟨_, hd⟩

theorem it_tuple {l : Addr} {items : Array Value} (hh : A.handled = none) (hl : s.heap.IsTuple l items)
    (h : ∀ I s₂ fp wr St, SrcIn prog w A s s₂ I fp wr items.size (fun i v => items[i]? = some v) St → Q (.ref I) s₂) : wpAny (model prog w) A (pyIter (.ref l)) Q E s := by
  refine wpAny_pyIter_tuple hl ?_
  have hlt : l < s.heap.objs.size := by obtain ⟨o, ho, _⟩ := hl; exact Heap.lt_size ho
  refine h _ _ [s.heap.objs.size, l] [s.heap.objs.size] (fun i h => h.IsTupleIter s.heap.objs.size l i ∧ h.IsTuple l items) ⟨Walks.tuple hh _ l (Nat.ne_of_lt hlt) items, ⟨⟨_, Heap.get?_push_size _ rfl, rfl, rfl⟩, hl.push _⟩, fun b hb => ?_, fun b hb => ?_, fun i h hs b hb o ho => ?_, (Mv.push s _ s.toks).ex⟩
  · show b < (s.heap.push _).objs.size
    rw [Heap.size_push]
    rcases List.mem_cons.mp hb with rfl | hb
    · exact Nat.lt_succ_self _
    · rw [List.mem_singleton.mp hb]; exact Nat.lt_succ_of_lt hlt
  · rw [List.mem_singleton.mp hb]; exact fresh_size _
  · rw [List.mem_singleton.mp hb] at ho
    obtain ⟨o', ho', _, hd⟩ := hs.1
    rw [ho] at ho'; cases ho'; exact ⟨_, hd⟩

theorem it_range {r : Addr} {a b : Int} {t u v : Tok} (hh : A.handled = none) (hr : IsRange s.heap r a b 1 t u v) (h1 : -(2 ^ 62) ≤ a) (h2 : a < 2 ^ 62) (h3 : -(2 ^ 62) ≤ b) (h4 : b < 2 ^ 62)
    (h : ∀ I s₂ fp wr St, SrcIn prog w A s s₂ I fp wr (b - a).toNat (fun i v => ∃ t, v = .int (a + i) t) St → Q (.ref I) s₂) : wpAny (model prog w) A (pyIter (.ref r)) Q E s := by
  refine wpAny_pyIter_range hr (small_one h1 h2 h3 h4) ?_
  have hsz : Builtin.Range.rangeSize a b 1 = ((b - a).toNat : Int) := by rw [rangeSize_one]; split <;> omega
  refine h _ _ [s.heap.objs.size] [s.heap.objs.size] _ ⟨{ Walks.range hh s.heap.objs.size a 1 (b - a).toNat with item := fun i s Q E hi st hQ => (Walks.range hh _ a 1 (b - a).toNat).item i s Q E hi st fun v h' tk ⟨t, e⟩ => hQ v h' tk ⟨t, by simpa using e⟩ }, ?_, fun b hb => ?_, fun b hb => ?_, fun i h hs b hb o ho => ?_, (Mv.push s _ s.toks).ex⟩
  · have e1 : (a + ((0 : Nat) : Int) * 1) = a := by simp
    have e2 : (((b - a).toNat : Int) - ((0 : Nat) : Int)) = Builtin.Range.rangeSize a b 1 := by rw [hsz]; simp
    show IsRangeIter _ _ (a + ((0 : Nat) : Int) * 1) (((b - a).toNat : Int) - ((0 : Nat) : Int)) 1
    rw [e1, e2]
    exact Heap.get?_push_size _ rfl
  · show b < (s.heap.push _).objs.size
    rw [Heap.size_push, List.mem_singleton.mp hb]; exact Nat.lt_succ_self _
  · rw [List.mem_singleton.mp hb]; exact fresh_size _
  · rw [List.mem_singleton.mp hb] at ho
    have : h.get? s.heap.objs.size = some _ := hs
    rw [ho] at this; cases this; exact ⟨_, rfl⟩

theorem it_dict {d : Addr} {kvs : List (Int × Value)} (hh : A.handled = none) (hs : (d == sysModules) = false) (hd : s.heap.DictOf (intKind prog w) d kvs)
    (h : ∀ I s₂ fp wr St, SrcIn prog w A s s₂ I fp wr kvs.length (fun i v => ∃ t, v = .int ((kvs.map (·.1)).getD i 0) t) St → Q (.ref I) s₂) : wpAny (model prog w) A (pyIter (.ref d)) Q E s := by
  obtain ⟨ep, hat⟩ := hd.dictAt
  refine wpAny_pyIter_dict hs hat ?_
  have hlt : d < s.heap.objs.size := by obtain ⟨o, _, ho, _⟩ := hat; exact Heap.lt_size ho
  have W := Walks.dictKeys (prog := prog) (w := w) (A := A) (knd := intKind prog w) hh s.heap.objs.size d (Nat.ne_of_lt hlt) kvs ep
  refine h _ _ [s.heap.objs.size, d] [s.heap.objs.size] _ ⟨{ W with item := fun i s Q E hi st hQ => W.item i s Q E hi st fun v h' tk ⟨k, x, e, hk⟩ => hQ v h' tk ?_ }, ⟨⟨_, Heap.get?_push_size _ rfl, rfl, rfl⟩, hat.at' fun o e => Heap.get?_push_of_some _ e⟩, fun b hb => ?_, fun b hb => ?_, fun i h hs b hb o ho => ?_, (Mv.push s _ s.toks).ex⟩
  · obtain ⟨t, rfl⟩ := Value.isInt_shape hk
    exact ⟨t, by rw [List.getD_eq_getElem?_getD, List.getElem?_map, e]; rfl⟩
  · show b < (s.heap.push _).objs.size
    rw [Heap.size_push]
    rcases List.mem_cons.mp hb with rfl | hb
    · exact Nat.lt_succ_self _
    · rw [List.mem_singleton.mp hb]; exact Nat.lt_succ_of_lt hlt
  · rw [List.mem_singleton.mp hb]; exact fresh_size _
  · rw [List.mem_singleton.mp hb] at ho
    obtain ⟨o', ho', _, hd⟩ := hs.1
    rw [ho] at ho'; cases ho'; exact ⟨_, hd⟩
end

/-! ### the three kinds -/
def LAcc (p : Nat → Bool) (R : Nat → Value → Heap → Prop) (D : Addr) (i : Nat) (h : Heap) : Prop := ∃ ys, h.IsList D ys ∧ Paired (fun j y => R j y h) ((List.range i).filter p) ys.toList
theorem Paired.imp {α β : Type} {F G : α → β → Prop} (hf : ∀ a b, F a b → G a b) : ∀ {l : List α} {l' : List β}, Paired F l l' → Paired G l l'
  | _, _, .nil => .nil
  | _, _, .cons h t => .cons (hf _ _ h) (Paired.imp hf t)
def TupStb (R : Nat → Value → Heap → Prop) : Prop := ∀ j y h h', R j y h → (∀ b o, h.get? b = some o → o.cls = .type "tuple" → IsSeq o → h'.get? b = some o) → R j y h'
theorem LAcc.stb {p : Nat → Bool} {R : Nat → Value → Heap → Prop} (hR : TupStb R) (D : Addr) (i : Nat) : Stb D (LAcc p R D i) := by
  rintro h h' ⟨ys, hl, hp⟩ hk
  refine ⟨ys, hl.at fun o e => hk D o e (.inl rfl), Paired.imp (fun j y hr => hR j y h h' hr fun b o e _ hs => hk b o e (.inr hs)) hp⟩

section
variable {prog : Program} {w : World} {A : Around} {E : Value → Shared → Prop} {s : Shared} {env : Env} {hb : Heap}

theorem new_list {s₂ : Shared} {Q : Value → Shared → Prop} {p : Nat → Bool} {R : Nat → Value → Heap → Prop}
    (h : ∀ D s₃ o, s₂.heap.objs.size ≤ D → s₃.heap.get? D = some o → s₂.heap.objs.size ≤ s₃.heap.objs.size → Mv [] s₂ s₃ → LAcc p R D 0 s₃.heap → Q (.ref D) s₃) : wpAny (model prog w) A (newList []) Q E s₂ := by
  refine wpAny_newObj_type (h _ _ _ (Nat.le_refl _) (Heap.get?_push_size _ rfl) ?_ (Mv.push s₂ _ s₂.toks) ⟨#[], ⟨_, Heap.get?_push_size _ rfl, rfl, _, rfl⟩, .nil⟩)
  show s₂.heap.objs.size ≤ (s₂.heap.push _).objs.size
  rw [Heap.size_push]; exact Nat.le_succ _

def lbody (elt : Expr) (acc : Value) (env : Env) : Sem Unit := do let _ ← call (.builtin "list.append") [acc, ← eval elt env]

theorem Paired.snocIf {α β : Type} {F : α → β → Prop} {p : Nat → Bool} {i : Nat} {F : Nat → β → Prop} {l : List β} {y : β} (h : Paired F ((List.range i).filter p) l) (hp : p i = true) (hy : F i y) : Paired F ((List.range (i + 1)).filter p) (l ++ [y]) := by
  rw [List.range_succ, List.filter_append]
  have : [i].filter p = [i] := by simp [hp]
  rw [this]; exact h.snoc hy
theorem filter_skip {p : Nat → Bool} {i : Nat} (hp : p i = false) : (List.range (i + 1)).filter p = (List.range i).filter p := by
  rw [List.range_succ, List.filter_append]; simp [hp]

/-- the turn of a list comprehension -/
theorem l_turn {elt : Expr} {ifs : List Expr} {cenv : Env} {D : Addr} {i n : Nat} {p : Nat → Bool} {R : Nat → Value → Heap → Prop} {s₃ : Shared} (hR : TupStb R) (hi : i < n) (hn : n ≤ sizeLine) (hA : LAcc p R D i s₃.heap)
    (h : wpAny (model prog w) A (testsM ifs cenv) (fun ok s₄ => ok = p i ∧ Ex s₃ s₄ ∧ (p i = true → wpAny (model prog w) A (eval elt cenv) (fun y s₅ => R i y s₅.heap ∧ Ex s₄ s₅) E s₄)) E s₃) :
    wpAny (model prog w) A (testsM ifs cenv) (fun ok s₄ => if ok = true then wpAny (model prog w) A (lbody elt (.ref D) cenv) (fun _ s₅ => LAcc p R D (i + 1) s₅.heap ∧ ExB D s₃ s₅) E s₄ else LAcc p R D (i + 1) s₄.heap ∧ ExB D s₃ s₄) E s₃ := by
  refine wpAny_mono h (fun ok s₄ h₄ => ?_) fun _ _ x => x
  obtain ⟨rfl, x4, h₄⟩ := h₄
  have hA4 : LAcc p R D i s₄.heap := LAcc.stb hR D i _ _ hA fun b o e _ => x4.kp b o e
  cases hp : p i with
  | false =>
    obtain ⟨ys, hl, hy⟩ := hA4
    exact ⟨⟨ys, hl, by rw [filter_skip hp]; exact hy⟩, x4.b⟩
  | true =>
    simp only [if_true]
    unfold lbody
    refine wpAny_bind (wpAny_mono (h₄ hp) (fun y s₅ h₅ => ?_) fun _ _ x => x)
    obtain ⟨hy, x5⟩ := h₅
    obtain ⟨ys, hl, hp5⟩ := LAcc.stb hR D i _ _ hA4 fun b o e _ => x5.kp b o e
    have hlen : ys.size ≤ sizeLine := by
      have := hp5.length
      have h2 : ((List.range i).filter p).length ≤ i := by have := List.length_filter_le p (List.range i); simpa using this
      have h3 : ys.toList.length = ys.size := by simp
      omega
    refine wpAny_bind (wpAny_list_append hl (fun h' hl' hs' => ?_) hlen)
    have kt : ∀ b o, s₅.heap.get? b = some o → o.cls = .type "tuple" → IsSeq o → h'.get? b = some o := fun b o e hc _ => hs'.extBut b o (fun q => by
      obtain ⟨o', ho', hc', _⟩ := hl
      rw [q, ho'] at e; cases e; rw [hc'] at hc; exact absurd (Value.type.inj hc) (by decide)) e
    refine wpAny_pure ⟨⟨ys.push y, hl', ?_⟩, fun b o hb e => hs'.extBut b o hb (x5.kp b o (x4.kp b o e)), fun g => x5.gens (x4.gens g), x5.os.trans x4.os⟩
    rw [Array.toList_push]
    exact Paired.snocIf (F := fun j y => R j y h') (Paired.imp (fun j y hr => hR j y _ _ hr kt) hp5) hp (hR i y _ _ hy kt)

theorem turn_c {m : Sem Bool} {b : Sem Unit} {Acc : Heap → Prop} {D : Addr} {cenv : Env} {s₃ : Shared} (hO : Out cenv D)
    (h : wpAny (model prog w) A m (fun ok s₄ => if ok = true then wpAny (model prog w) A b (fun _ s₅ => Acc s₅.heap ∧ ExB D s₃ s₅) E s₄ else Acc s₄.heap ∧ ExB D s₃ s₄) E s₃) :
    wpAny (model prog w) A m (fun ok s₄ => if ok = true then wpAny (model prog w) A b (fun _ s₅ => Acc s₅.heap ∧ ExC D env cenv s₃ s₅) E s₄ else Acc s₄.heap ∧ ExC D env cenv s₃ s₄) E s₃ := by
  refine wpAny_mono h (fun ok s₄ h₄ => ?_) fun _ _ x => x
  cases ok with
  | true => exact wpAny_mono h₄ (fun _ s₅ h₅ => ⟨h₅.1, h₅.2.c hO⟩) fun _ _ x => x
  | false => exact ⟨h₄.1, h₄.2.c hO⟩

theorem t_none {cenv : Env} {Q : Bool → Shared → Prop} (h : Q true s) : wpAny (model prog w) A (testsM [] cenv) Q E s := wpAny_tests_nil h
theorem t_one {c : Expr} {cenv : Env} {Q : Bool → Shared → Prop} (h : wpAny (model prog w) A (isTrue c cenv (eval c cenv)) Q E s) : wpAny (model prog w) A (testsM [c] cenv) Q E s := wpAny_tests_one h

/-- [elt for x in it if ..], within an expression -/
theorem lc_eval {elt iter : Expr} {x : Str} {px : Pos} {ifs : List Expr} {scope : Scope} {pos : Pos} {Q : Value → Shared → Prop} (p : Nat → Bool) (R : Nat → Value → Heap → Prop) (hR : TupStb R)
    (F : Fm env hb) (Lv : Live env s.heap) (hok : compOk scope = true) (hfree : ∀ x ∈ scope.names, x.2 = .free → (env.cells.lookup x.1).isSome = true)
    (hx : scope.names.lookup x = some .local ∨ scope.names.lookup x = some .cell) (hxo : okName x = true)
    (h : wpAny (model prog w) A (eval iter env) (fun xv s₁ => wpAny (model prog w) A (pyIter xv) (fun it s₂ => ∃ I fp wr n P St, it = .ref I ∧ n ≤ sizeLine ∧ SrcIn prog w A s s₂ I fp wr n P St ∧
      (∀ cenv i v s₃ (E' : Value → Shared → Prop), CEnv env cenv scope s.heap → i < n → P i v → Live cenv s₃.heap → VarAt s₃.heap cenv x v → (∀ b o, s.heap.get? b = some o → s₃.heap.get? b = some o) →
        wpAny (model prog w) A (testsM ifs cenv) (fun ok s₄ => ok = p i ∧ Ex s₃ s₄ ∧ (p i = true → wpAny (model prog w) A (eval elt cenv) (fun y s₅ => R i y s₅.heap ∧ Ex s₄ s₅) E' s₄)) E' s₃) ∧
      (∀ D ys s', s.heap.get? D = none → s'.heap.IsList D ys → Paired (fun j y => R j y s'.heap) ((List.range n).filter p) ys.toList → Ex s s' → Q (.ref D) s')) E s₁) E s)
    (hs : ∀ x, foldedSetIterable iter env x = pure x := by intro _; rfl)
    (hsh : CompShape (.ListComp elt [⟨.Name x px, iter, ifs, 0⟩] scope pos) x px iter.pos ifs (lbody elt) prog w A := by exact ⟨fun _ _ _ => rfl, fun _ _ _ => rfl, fun _ _ _ => rfl, fun _ _ _ => rfl, fun _ _ _ => rfl, fun _ _ _ => rfl, fun _ _ => rfl⟩) :
    wpAny (model prog w) A (eval (.ListComp elt [⟨.Name x px, iter, ifs, 0⟩] scope pos) env) Q E s := by
  rw [eval_ListComp]
  refine comp_eval rfl rfl hs hsh F Lv hok hfree hx hxo (LAcc p R) (LAcc.stb hR) (fun s₂ Q E' _ h => new_list h) ?_
  refine wpAny_mono h (fun xv s₁ h₁ => wpAny_mono h₁ (fun it s₂ h₂ => ?_) fun _ _ x => x) fun _ _ x => x
  obtain ⟨I, fp, wr, n, P, St, rfl, hn, S, turn, done⟩ := h₂
  refine ⟨I, fp, wr, n, P, St, rfl, S.walks, S.st, S.fpOld, S.wrNew, fun i h hs b hb o ho ⟨xs, k, hd⟩ => ?_, S.ex, fun cenv D i v s₃ E' CE hi hP hL hV hk hA hO _ => turn_c hO (l_turn hR hi hn hA (turn cenv i v s₃ E' CE hi hP hL hV hk)), fun D s' hD ⟨ys, hl, hp⟩ hx => done D ys s' hD hl hp hx⟩
  obtain ⟨fs, hf⟩ := S.cls i h hs b hb o ho
  rw [hf] at hd; cases hd

/-- y = [elt for x in it if ..], y a local of the same line -/
theorem lc_use {elt iter : Expr} {x y : Str} {px py : Pos} {ifs : List Expr} {scope : Scope} {pos spos : Pos} {Q : Flow → Shared → Prop} (p : Nat → Bool) (R : Nat → Value → Heap → Prop) (hR : TupStb R)
    (F : Fm env hb) (Lv : Live env s.heap) (hok : compOk scope = true) (hfree : ∀ x ∈ scope.names, x.2 = .free → (env.cells.lookup x.1).isSome = true)
    (hx : scope.names.lookup x = some .local ∨ scope.names.lookup x = some .cell) (hxo : okName x = true) (hy : env.kindOf y = some .local) (hyo : okName y = true)
    (hsw : swapsWith (.ListComp elt [⟨.Name x px, iter, ifs, 0⟩] scope pos) (some (.Name y py)) spos.line env = pure true)
    (h : wpAny (model prog w) A (eval iter env) (fun xv s₁ => wpAny (model prog w) A (pyIter xv) (fun it s₂ => ∃ I fp wr n P St, it = .ref I ∧ n ≤ sizeLine ∧ SrcIn prog w A s s₂ I fp wr n P St ∧
      (∀ cenv i v s₃ (E' : Value → Shared → Prop), CEnv env cenv scope s.heap → i < n → P i v → Live cenv s₃.heap → VarAt s₃.heap cenv x v → (∀ b o, s.heap.get? b = some o → s₃.heap.get? b = some o) →
        wpAny (model prog w) A (testsM ifs cenv) (fun ok s₄ => ok = p i ∧ Ex s₃ s₄ ∧ (p i = true → wpAny (model prog w) A (eval elt cenv) (fun y s₅ => R i y s₅.heap ∧ Ex s₄ s₅) E' s₄)) E' s₃) ∧
      (∀ D ys s', s.heap.get? D = none → s'.heap.IsList D ys → Paired (fun j y => R j y s'.heap) ((List.range n).filter p) ys.toList → Stp env [y] s s' → VarAt s'.heap env y (.ref D) → Q .next s')) E s₁) E s)
    (hs : ∀ x, foldedSetIterable iter env x = pure x := by intro _; rfl)
    (hsh : CompShape (.ListComp elt [⟨.Name x px, iter, ifs, 0⟩] scope pos) x px iter.pos ifs (lbody elt) prog w A := by exact ⟨fun _ _ _ => rfl, fun _ _ _ => rfl, fun _ _ _ => rfl, fun _ _ _ => rfl, fun _ _ _ => rfl, fun _ _ _ => rfl, fun _ _ => rfl⟩) :
    wpAny (model prog w) A (exec (.Assign [.Name y py] (.ListComp elt [⟨.Name x px, iter, ifs, 0⟩] scope pos) spos) env) Q E s := by
  rw [exec_Assign_Name_used _ _ _ _ hsw]
  refine wpAny_bind (wpAny_standAt (wpAny_bind ?_))
  rw [arm_evalThenUse_ListComp]
  refine wpAny_bind (wpAny_mono (comp_use (y := y) (py := py) (Q := Q .next) rfl rfl hs hsh F Lv hok hfree hx hxo hy hyo (LAcc p R) (LAcc.stb hR) (fun s₂ Q E' _ h => new_list h) ?_) (fun _ s' q => wpAny_pure (wpAny_pure q)) fun _ _ x => x)
  refine wpAny_mono h (fun xv s₁ h₁ => wpAny_mono h₁ (fun it s₂ h₂ => ?_) fun _ _ x => x) fun _ _ x => x
  obtain ⟨I, fp, wr, n, P, St, rfl, hn, S, turn, done⟩ := h₂
  refine ⟨I, fp, wr, n, P, St, rfl, S.walks, S.st, S.fpOld, S.wrNew, fun i h hs b hb o ho ⟨xs, k, hd⟩ => ?_, S.ex, fun cenv D i v s₃ E' CE hi hP hL hV hk hA hO _ => turn_c hO (l_turn hR hi hn hA (turn cenv i v s₃ E' CE hi hP hL hV hk)), fun D s' hD ⟨ys, hl, hp⟩ hx => done D ys s' hD hl hp hx.1 hx.2⟩
  obtain ⟨fs, hf⟩ := S.cls i h hs b hb o ho
  rw [hf] at hd; cases hd
end
end Mine
end

section
open PySem PySem.W PyProof.Rows PySem.Calls
set_option maxRecDepth 100000
set_option linter.unusedVariables false
namespace Mine
def Up (xs : Array Nat) : Prop := ∀ i j (hi : i < xs.size) (hj : j < xs.size), i < j → xs[i] < xs[j]
theorem up_getD {xs : Array Nat} {i d : Nat} (h : i < xs.size) : xs.getD i d = xs[i] := by simp [Array.getD, h]

theorem below_go {xs : Array Nat} (hu : Up xs) (j : Nat) : ∀ (fuel lo hi : Nat), hi - lo ≤ fuel → lo ≤ hi → hi ≤ xs.size → (∀ i (h : i < xs.size), i < lo → xs[i] < j) → (∀ i (h : i < xs.size), hi ≤ i → j ≤ xs[i]) →
    lo ≤ SetTable.below.go xs j fuel lo hi ∧ SetTable.below.go xs j fuel lo hi ≤ hi ∧ (∀ i (h : i < xs.size), i < SetTable.below.go xs j fuel lo hi → xs[i] < j) ∧ (∀ i (h : i < xs.size), SetTable.below.go xs j fuel lo hi ≤ i → j ≤ xs[i]) := by
  intro fuel
  induction fuel with
  | zero =>
    intro lo hi h1 h2 h3 h4 h5
    have : lo = hi := by omega
    subst this
    exact ⟨Nat.le_refl _, Nat.le_refl _, h4, h5⟩
  | succ fuel ih =>
    intro lo hi h1 h2 h3 h4 h5
    unfold SetTable.below.go
    by_cases hlt : lo < hi
    · rw [if_pos hlt]
      have hm : (lo + hi) / 2 < xs.size := by omega
      dsimp only
      rw [up_getD hm]
      by_cases hx : xs[(lo + hi) / 2] < j
      · rw [if_pos hx]
        obtain ⟨a, b, c, d⟩ := ih ((lo + hi) / 2 + 1) hi (by omega) (by omega) h3 (fun i h hi' => by
          rcases Nat.lt_or_ge i ((lo + hi) / 2) with h6 | h6
          · exact Nat.lt_trans (hu i _ h hm h6) hx
          · have : i = (lo + hi) / 2 := by omega
            subst this; exact hx) h5
        exact ⟨by omega, b, c, d⟩
      · rw [if_neg hx]
        obtain ⟨a, b, c, d⟩ := ih lo ((lo + hi) / 2) (by omega) (by omega) (by omega) h4 (fun i h hi' => by
          rcases Nat.lt_or_ge ((lo + hi) / 2) i with h6 | h6
          · have := hu _ i hm h h6; omega
          · have : i = (lo + hi) / 2 := by omega
            subst this; omega)
        exact ⟨a, by omega, c, d⟩
    · rw [if_neg hlt]
      have : lo = hi := by omega
      subst this
      exact ⟨Nat.le_refl _, Nat.le_refl _, h4, h5⟩
theorem below_spec {xs : Array Nat} (hu : Up xs) (j : Nat) : SetTable.below xs j ≤ xs.size ∧ (∀ i (h : i < xs.size), i < SetTable.below xs j → xs[i] < j) ∧ (∀ i (h : i < xs.size), SetTable.below xs j ≤ i → j ≤ xs[i]) := by
  obtain ⟨_, b, c, d⟩ := below_go hu j xs.size 0 xs.size (by omega) (Nat.zero_le _) (Nat.le_refl _) (fun i _ h => absurd h (Nat.not_lt_zero _)) (fun i h h' => absurd h (Nat.not_lt.mpr h'))
  exact ⟨b, c, d⟩

theorem slot_free {t : SetTable} (hu : Up t.place) {j : Nat} (h : t.slot j = .empty ∨ t.slot j = .dummy) : ∀ i (hi : i < t.place.size), t.place[i] ≠ j := by
  intro i hi e
  obtain ⟨h1, h2, h3⟩ := below_spec hu j
  have hip : i = SetTable.below t.place j := by
    rcases Nat.lt_trichotomy i (SetTable.below t.place j) with h6 | h6 | h6
    · have := h2 i hi h6; omega
    · exact h6
    · have hp : SetTable.below t.place j < t.place.size := by omega
      have h7 := h3 _ hp (Nat.le_refl _)
      have h8 := hu _ i hp hi h6
      omega
  have hl : t.slot j = .live (SetTable.below t.place j) := by
    unfold SetTable.slot
    dsimp only
    rw [if_pos]
    rw [← hip, Array.getElem?_eq_getElem hi, e]; simp
  rw [hl] at h
  rcases h with h | h <;> cases h

theorem probe_free {t : SetTable} {hashAt : Nat → Int} {h : Int} : ∀ (fuel : Nat) (p : SetTable.Probe) (j : Nat) (dm : Option Nat), (∀ d, p.dummy = some d → t.slot d = .dummy) → SetTable.probe.go t hashAt h fuel p = some (.empty j dm) → t.slot j = .empty ∧ ∀ d, dm = some d → t.slot d = .dummy := by
  intro fuel
  induction fuel with
  | zero => intro p j dm _ h'; simp [SetTable.probe.go] at h'
  | succ fuel ih =>
    intro p j dm hp h'
    have adv : ∀ q : SetTable.Probe, (t.advance q).dummy = q.dummy := fun q => by unfold SetTable.advance; split <;> rfl
    unfold SetTable.probe.go at h'
    cases hs : t.slot p.j with
    | empty =>
      rw [hs] at h'
      simp only [Option.some.injEq, SetTable.Met.empty.injEq] at h'
      obtain ⟨rfl, rfl⟩ := h'
      exact ⟨hs, hp⟩
    | dummy =>
      rw [hs] at h'
      refine ih _ j dm (fun d hd => ?_) h'
      rw [adv] at hd
      simp only [Option.some.injEq] at hd
      subst hd; exact hs
    | live i =>
      rw [hs] at h'
      dsimp only at h'
      split at h'
      · cases h'
      · exact ih _ j dm (fun d hd => hp d (by rw [adv] at hd; exact hd)) h'
theorem freeSlot_free {t : SetTable} (hu : Up t.place) {h : Int} {j : Nat} {b : Bool} (e : t.freeSlot h = some (j, b)) : ∀ i (hi : i < t.place.size), t.place[i] ≠ j := by
  unfold SetTable.freeSlot at e
  split at e
  · rename_i j' dm hpr
    simp only [Option.some.injEq, Prod.mk.injEq] at e
    obtain ⟨h1, h2⟩ := probe_free _ _ _ _ (fun d hd => by simp [SetTable.probeStart] at hd) hpr
    cases dm with
    | none => simp at e; rw [← e.1]; exact slot_free hu (.inl h1)
    | some d => simp at e; rw [← e.1]; exact slot_free hu (.inr (h2 d rfl))
  · cases e

theorem up_iff {xs : Array Nat} : Up xs ↔ xs.toList.Pairwise (· < ·) := by
  rw [List.pairwise_iff_getElem]
  constructor
  · intro h i j hi hj hij
    rw [Array.getElem_toList, Array.getElem_toList]
    exact h i j (by simpa using hi) (by simpa using hj) hij
  · intro h i j hi hj hij
    have := h i j (by simpa using hi) (by simpa using hj) hij
    rw [Array.getElem_toList, Array.getElem_toList] at this
    exact this
theorem up_put {t : SetTable} (hu : Up t.place) {j : Nat} (hj : ∀ i (hi : i < t.place.size), t.place[i] ≠ j) : Up (t.put j).1.place := by
  obtain ⟨h1, h2, h3⟩ := below_spec hu j
  show Up (SetTable.insertAt t.place (SetTable.below t.place j) j)
  generalize SetTable.below t.place j = p at h1 h2 h3
  rw [up_iff]
  have e : (SetTable.insertAt t.place p j).toList = t.place.toList.take p ++ j :: t.place.toList.drop p := by
    unfold SetTable.insertAt
    simp [Array.toList_extract]
    rw [List.take_of_length_le (by simp)]
  rw [e, List.pairwise_append]
  have hup := up_iff.mp hu
  refine ⟨hup.sublist (List.take_sublist _ _), List.pairwise_cons.mpr ⟨fun y hy => ?_, hup.sublist (List.drop_sublist _ _)⟩, fun x hx y hy => ?_⟩
  · obtain ⟨i, hi, e⟩ := List.mem_iff_getElem.mp hy
    rw [List.getElem_drop] at e
    have hlt : p + i < t.place.size := by rw [List.length_drop] at hi; simp at hi; omega
    have h4 := h3 (p + i) hlt (Nat.le_add_right _ _)
    have h5 := hj (p + i) hlt
    have h6 : t.place[p + i] = y := by rw [← e]; simp
    omega
  · obtain ⟨i, hi, e⟩ := List.mem_iff_getElem.mp hx
    have hi' : i < p := by rw [List.length_take] at hi; omega
    have hlt : i < t.place.size := by rw [List.length_take] at hi; simp at hi; omega
    rw [List.getElem_take] at e
    have h4 := h2 i hlt hi'
    have h6 : t.place[i] = x := by rw [← e]; simp
    rcases List.mem_cons.mp hy with rfl | hy
    · omega
    · obtain ⟨i', hi'', e'⟩ := List.mem_iff_getElem.mp hy
      rw [List.getElem_drop] at e'
      have hlt' : p + i' < t.place.size := by rw [List.length_drop] at hi''; simp at hi''; omega
      have h7 := h3 (p + i') hlt' (Nat.le_add_right _ _)
      have h8 : t.place[p + i'] = y := by rw [← e']; simp
      omega
theorem up_standIn (t : SetTable) (n : Nat) : Up (t.standIn n).place := by
  show Up (Array.range n)
  intro i j hi hj hij
  simp; exact hij
theorem up_orStandIn {t : SetTable} (h : Up t.place) (n : Nat) : Up (t.orStandIn n).place := by
  unfold SetTable.orStandIn; split
  · exact h
  · exact up_standIn t n
theorem up_layNew {t : SetTable} (hu : Up t.place) (es : Array (Int × Value)) (h : Int) (x : Value) : Up (layNew t es h x).2.1.place := by
  unfold layNew
  split
  · rename_i j b e
    exact up_orStandIn (up_put hu (freeSlot_free hu e)) _
  · exact up_standIn t _
theorem up_relaid {t t' : SetTable} {hs : Array Int} {n : Nat} {o : Array Nat} (h : t.relaid hs n = some (t', o)) : Up t'.place := by
  unfold SetTable.relaid SetTable.laid at h
  simp only [Option.bind_eq_bind, Option.bind_eq_some_iff] at h
  obtain ⟨ow, _, h⟩ := h
  simp only [Option.pure_def, Option.some.injEq, Prod.mk.injEq] at h
  rw [← h.1]
  rw [up_iff]
  dsimp only
  generalize SetTable.sizeAbove n - 1 + 1 = m
  rw [List.map_filterMap]
  have key : ∀ (l : List Nat), l.Pairwise (· < ·) → (l.filterMap fun j => ((ow.getD j none).map (j, ·)).map (·.1)).Pairwise (· < ·) := by
    intro l hl
    refine List.Pairwise.filterMap _ (fun a a' haa b hb b' hb' => ?_) hl
    simp only [Option.map_map, Option.map_eq_some_iff] at hb hb'
    obtain ⟨_, _, rfl⟩ := hb
    obtain ⟨_, _, rfl⟩ := hb'
    exact haa
  exact key _ (List.pairwise_lt_range)
theorem up_relayAll {t : SetTable} (hu : Up t.place) (es : Array (Int × Value)) (n : Nat) : Up (relayAll t es n).2.1.place := by
  unfold relayAll
  split
  · rename_i t' o hr
    have := up_relaid hr
    dsimp only
    split
    · exact this
    · exact up_standIn t _
  · exact up_standIn t _
end Mine
end

section
open PySem PySem.W PyProof.Rows PySem.Calls
set_option maxRecDepth 100000
set_option linter.unusedVariables false
namespace Mine
/-- the order of sets is a setting -/
def byText (w : World) : Bool := w.params.followText "set-order"
def TabOk (w : World) (t : SetTable) : Prop := (byText w = true ∨ t.led = true) ∧ Up t.place
/-- the set's table may be walked -/
def LedAt (w : World) (h : Heap) (a : Addr) : Prop := ∃ o es ep t, h.get? a = some o ∧ o.data = .set es ep t ∧ TabOk w t
def IsSet (prog : Program) (w : World) (h : Heap) (a : Addr) (l : List Int) : Prop := (l.Nodup ∧ LedAt w h a) ∧ h.SetOf (intKind prog w) a (fun k => decide (k ∈ l)) l.length

theorem IsSet.at {prog : Program} {w : World} {h h' : Heap} {a : Addr} {l : List Int} (x : IsSet prog w h a l) (k : ∀ o, h.get? a = some o → h'.get? a = some o) : IsSet prog w h' a l :=
  ⟨⟨x.1.1, let ⟨o, es, ep, t, ho, r⟩ := x.1.2; ⟨o, es, ep, t, k o ho, r⟩⟩, let ⟨o, es, ep, t, ho, r⟩ := x.2; ⟨o, es, ep, t, k o ho, r⟩⟩
theorem IsSet.perm {prog : Program} {w : World} {h : Heap} {a : Addr} {l l' : List Int} (x : IsSet prog w h a l) (p : l.Perm l') : IsSet prog w h a l' :=
  ⟨⟨p.nodup_iff.mp x.1.1, x.1.2⟩, SetOf_congr x.2 (fun k => by simp [p.mem_iff]) p.length_eq⟩

theorem led_standIn (t : SetTable) (n : Nat) : (t.standIn n).led = t.led := rfl
theorem led_put (t : SetTable) (j : Nat) : (t.put j).1.led = t.led := rfl
theorem led_orStandIn (t : SetTable) (n : Nat) : (t.orStandIn n).led = t.led := by unfold SetTable.orStandIn; split <;> rfl
theorem led_layNew (t : SetTable) (es : Array (Int × Value)) (h : Int) (x : Value) : (layNew t es h x).2.1.led = t.led := by
  unfold layNew
  split
  · simp only [led_orStandIn, led_put]
  · rfl
theorem led_relaid (t t' : SetTable) (hs : Array Int) (n : Nat) (o : Array Nat) (h : t.relaid hs n = some (t', o)) : t'.led = t.led := by
  unfold SetTable.relaid SetTable.laid at h
  simp only [Option.bind_eq_bind, Option.bind_eq_some_iff] at h
  obtain ⟨ow, _, h⟩ := h
  simp only [Option.pure_def, Option.some.injEq, Prod.mk.injEq] at h
  rw [← h.1]
theorem led_relayAll (t : SetTable) (es : Array (Int × Value)) (n : Nat) : (relayAll t es n).2.1.led = t.led := by
  unfold relayAll
  split
  · rename_i t' o hr
    have := led_relaid t t' _ _ _ hr
    dsimp only
    split
    · exact this
    · rfl
  · rfl

section
variable {prog : Program} {w : World} {A : Around} {E : Value → Shared → Prop} {s : Shared}

theorem store_set {a : Addr} {o : Obj} {es : Array (Int × Value)} {ep : Nat} {t : SetTable} {es' : Array (Int × Value)} {t' : SetTable} {l : List Int} {Q : Unit → Shared → Prop} (ho : s.heap.get? a = some o) (hex : o.ExactSet) (hd : o.data = .set es ep t)
    (hel : ElemsOf (intKind prog w) es'.toList) (hmem : ∀ k, decide (k ∈ l) = true ↔ ∃ e ∈ es'.toList, (intKind prog w).is k e.2 = true) (hb : es'.size < scanBound) (hf : t'.fits es'.size = true) (hl : TabOk w t') (hn : l.Nodup) (hsz : es'.size = l.length)
    (h : ∀ h' o', Heap.SameBut a s.heap h' → h'.get? a = some o' → o'.ExactSet → o'.data = .set es' (ep + 1) t' → IsSet prog w h' a l → Q () { s with heap := h' }) : wpAny (model prog w) A (storeSet a es' t') Q E s := by
  refine wpAny_storeSet_of ho hd ?_ (fits_of_scanBound hb)
  obtain ⟨hg, hS⟩ := SetOf_store (knd := intKind prog w) ho hex hd hel hmem hb hf
  exact h _ _ (Heap.SameBut.update s.heap a _) hg hex rfl ⟨⟨hn, _, es', ep + 1, t', hg, rfl, hl⟩, SetOf_congr hS (fun _ => rfl) hsz⟩

theorem led_of {a : Addr} {o : Obj} {es : Array (Int × Value)} {ep : Nat} {t : SetTable} {h : Heap} (x : LedAt w h a) (ho : h.get? a = some o) (hd : o.data = .set es ep t) : TabOk w t := by
  obtain ⟨o', es', ep', t', ho', hd', hl⟩ := x
  rw [ho] at ho'; cases ho'; rw [hd] at hd'; cases hd'; exact hl

/-- a member more -/
theorem add_hashed {a : Addr} {l : List Int} {k : Int} {t : Tok} {Q : Bool → Shared → Prop} (hS : IsSet prog w s.heap a l) (hroom : l.length + 1 < scanBound)
    (h : ∀ h', Heap.SameBut a s.heap h' → IsSet prog w h' a (if k ∈ l then l else l ++ [k]) → Q (!decide (k ∈ l)) { s with heap := h' }) :
    wpAny (model prog w) A (setAddHashed a (.int k t) ((intKind prog w).hash k)) Q E s := by
  have hkey : (intKind prog w).is k (.int k t) = true := intKind_is _ _ _ _
  have hsc : (Value.int k t).scannable = true := rfl
  obtain ⟨⟨hnd, hLed⟩, o, es, ep, tb, ho, hex, hd, hel, hmem, hb, hf, hn⟩ := hS
  have hled := led_of hLed ho hd
  unfold setAddHashed setAddHashedIn
  refine wpAny_holding (wpAny_bind (wpAny_setState_of ho hd hf ?_))
  dsimp only
  rw [byScan_of hsc hb hel]
  simp only [↓reduceIte]
  unfold setAddByScan
  refine wpAny_bind (wpAny_bind (wpAny_rule ?_))
  refine wpAny_bind (wpAny_setScan_of (knd := intKind prog w) hkey ho hd hf hel ?_)
  cases hr : List.findIdx? (fun e => (intKind prog w).is k e.2) es.toList with
  | some j =>
    dsimp only
    obtain ⟨hj, hpj, _⟩ := List.findIdx?_eq_some_iff_getElem.mp hr
    have hkl : k ∈ l := of_decide_eq_true ((hmem k).mpr ⟨es.toList[j], List.getElem_mem hj, hpj⟩)
    refine wpAny_pure (wpAny_pure ?_)
    have := h s.heap (Heap.SameBut.refl a s.heap) (by rw [if_pos hkl]; exact ⟨⟨hnd, hLed⟩, o, es, ep, tb, ho, hex, hd, hel, hmem, hb, hf, hn⟩)
    rw [decide_eq_true hkl] at this
    exact this
  | none =>
    dsimp only
    have hkl : k ∉ l := fun hk => by
      obtain ⟨e, he, hp⟩ := (hmem k).mp (decide_eq_true hk)
      have := List.findIdx?_eq_none_iff.mp hr e he
      rw [hp] at this; exact Bool.noConfusion this
    have gave : ∀ (b : Bool) {s₁ : Shared} {Q' : Unit → Shared → Prop}, Q' () s₁ → wpAny (model prog w) A (match b with | true => rule "set.scan.the-table-gave-way" | false => pure ()) Q' E s₁ :=
      fun b s₁ Q' hq => by cases b <;> first | exact wpAny_pure hq | exact wpAny_rule hq
    have hperm := layNew_perm tb es ((intKind prog w).hash k) (.int k t)
    have hfits := layNew_fits tb es ((intKind prog w).hash k) (.int k t)
    have hled1 : TabOk w (layNew tb es ((intKind prog w).hash k) (.int k t)).2.1 := ⟨by rw [led_layNew]; exact hled.1, up_layNew hled.2 _ _ _⟩
    generalize layNew tb es ((intKind prog w).hash k) (.int k t) = Ln at hperm hfits hled1 ⊢
    obtain ⟨es1, t1, wasDummy, gv⟩ := Ln
    dsimp only at hperm hfits hled1 ⊢
    rw [Array.toList_push] at hperm
    have hnl : (l ++ [k]).Nodup := by
      rw [List.nodup_append]
      exact ⟨hnd, by simp, fun a ha b hb => by rw [List.mem_singleton] at hb; subst hb; exact fun e => hkl (e ▸ ha)⟩
    have hel1 : ElemsOf (intKind prog w) es1.toList := (hel.push hkey hsc).perm hperm
    have hmem1 : ∀ k', decide (k' ∈ l ++ [k]) = true ↔ ∃ e ∈ es1.toList, (intKind prog w).is k' e.2 = true := fun k' => by
      rw [← mem_push_iff (knd := intKind prog w) hkey hmem hperm k', Bool.or_eq_true]
      simp
    have hsz1 : es1.size = (l ++ [k]).length := by rw [← Array.length_toList, hperm.length_eq, List.length_append, Array.length_toList, hn, List.length_append]; rfl
    have hb1 : es1.size < scanBound := by rw [hsz1, List.length_append]; exact hroom
    have fin : ∀ (h' : Heap), Heap.SameBut a s.heap h' → IsSet prog w h' a (l ++ [k]) → Q true { s with heap := h' } := fun h' hsb hi => by
      have := h h' hsb (by rw [if_neg hkl]; exact hi)
      rw [decide_eq_false hkl] at this; exact this
    refine wpAny_bind (gave _ ?_)
    have tail : ∀ (t2 : SetTable), t2.fits es1.size = true → TabOk w t2 → wpAny (model prog w) A (do
        storeSet a es1 t2
        if (!wasDummy && t2.tooFull) = true then do
            (match (relayAll t2 es1 (SetTable.grown es1.size)).2.2 with | true => rule "set.scan.the-table-gave-way" | false => pure ())
            storeSet a (relayAll t2 es1 (SetTable.grown es1.size)).1 (relayAll t2 es1 (SetTable.grown es1.size)).2.1
            pure (some true)
          else pure (some true)) (fun r s' => r = some true ∧ Q true s') E s := fun t2 hf2 hl2 => by
      refine wpAny_bind (store_set ho hex hd hel1 hmem1 hb1 hf2 hl2 hnl hsz1 fun h' o' hsb ho' hex' hd' hi => ?_)
      split
      · have hp := relayAll_perm t2 es1 (SetTable.grown es1.size)
        have hfr := relayAll_fits t2 es1 (SetTable.grown es1.size)
        have hlr : TabOk w (relayAll t2 es1 (SetTable.grown es1.size)).2.1 := ⟨by rw [led_relayAll]; exact hl2.1, up_relayAll hl2.2 _ _⟩
        generalize relayAll t2 es1 (SetTable.grown es1.size) = Rl at hp hfr hlr ⊢
        obtain ⟨es2, t3, gave2⟩ := Rl
        dsimp only at hp hfr hlr ⊢
        have hsz : es2.size = es1.size := by rw [← Array.length_toList, hp.length_eq, Array.length_toList]
        refine wpAny_bind (gave _ ?_)
        refine wpAny_bind (store_set ho' hex' hd' (hel1.perm hp) (fun k' => (hmem1 k').trans ⟨fun ⟨e, he, q⟩ => ⟨e, hp.mem_iff.mpr he, q⟩, fun ⟨e, he, q⟩ => ⟨e, hp.mem_iff.mp he, q⟩⟩) (by rw [hsz]; exact hb1) hfr hlr hnl (hsz.trans hsz1) fun h'' o'' hsb' _ _ _ hi' => ?_)
        exact wpAny_pure ⟨rfl, fin h'' (hsb.trans hsb') hi'⟩
      · exact wpAny_pure ⟨rfl, fin h' hsb hi⟩
    split
    · refine wpAny_bind ?_
      rw [hashByValue_scannable 8 hsc]
      refine wpAny_pure ?_
      refine wpAny_mono (tail _ ?_ ?_) (fun r s' q => by obtain ⟨rfl, q⟩ := q; exact wpAny_pure q) fun _ _ x => x
      · split
        · exact hfits
        · exact SetTable.fits_plain_off hfits
      · split
        · exact hled1
        · exact hled1
    · refine wpAny_bind (wpAny_pure ?_)
      simp only [↓reduceIte]
      exact wpAny_mono (tail _ hfits hled1) (fun r s' q => by obtain ⟨rfl, q⟩ := q; exact wpAny_pure q) fun _ _ x => x

theorem set_add {a : Addr} {l : List Int} {k : Int} {t : Tok} {Q : Value → Shared → Prop} (hS : IsSet prog w s.heap a l) (hroom : l.length + 1 < scanBound)
    (h : ∀ h', Heap.SameBut a s.heap h' → IsSet prog w h' a (if k ∈ l then l else l ++ [k]) → Q .none { s with heap := h', toks := s.toks + 1 }) :
    wpAny (model prog w) A (call (.builtin "set.add") [.ref a, .int k t]) Q E s := by
  refine wpAny_call_entry PySem.F.slot_set_add hS.2.typeIs PySem.F.entry_set_add ?_ (PySem.F.args_set_add_2 _ _)
  unfold Builtin.«set.add» Builtin.Frozenset.oneOther
  simp only [List.isEmpty_nil, bind_assoc]
  unfold Builtin.Frozenset.addrOf setAdd
  refine wpAny_bind (wpAny_pure ?_)
  try dsimp only
  refine wpAny_bind (wpAny_pure ?_)
  try dsimp only
  refine wpAny_bind (wpAny_holding ?_)
  refine wpAny_bind ((intKind prog w).pyHash (k := k) (intKind_is _ _ _ _) ?_)
  refine add_hashed (s := { s with toks := s.toks + 1 }) hS hroom fun h' hs hi => ?_
  exact wpAny_pure ⟨_, rfl, h h' hs hi⟩

theorem newSet_led {Q : Value → Shared → Prop} (h : ∀ T s', s.heap.objs.size = T → Mv [] s s' → s'.toks = s.toks → s'.heap.objs.size = T + 1 → IsSet prog w s'.heap T [] → Q (.ref T) s') : wpAny (model prog w) A (newSet (.type "set")) Q E s := by
  unfold newSet setsByText
  refine wpAny_bind (wpAny_bind (wpAny_askSetting (wpAny_pure ?_)))
  dsimp only
  simp only [newObj]
  refine wpAny_bind (wpAny_alloc (wpAny_pure (h _ _ rfl (Mv.push s _ s.toks) rfl (Heap.size_push ..) ⟨⟨List.nodup_nil, _, _, _, _, Heap.get?_push_size _ rfl, rfl, ?_⟩, ?_⟩)))
  · exact ⟨by show byText w = true ∨ (!byText w) = true; cases byText w <;> simp, fun i j hi => absurd hi (Nat.not_lt_zero _)⟩
  · exact ⟨_, #[], 0, _, Heap.get?_push_size _ rfl, ⟨rfl, rfl, rfl⟩, rfl, fun e he => by simp at he, fun k => by simp, by decide, by rfl, rfl⟩

abbrev set0Obj (w : World) : Obj := { cls := .type "set", dict := none, data := .set #[] 0 (.fresh 0 0 (!byText w)) }
theorem set0_is : IsSet prog w (s.heap.push (set0Obj w)) s.heap.objs.size [] :=
  ⟨⟨List.nodup_nil, _, _, _, _, Heap.get?_push_size _ rfl, rfl, by show byText w = true ∨ (!byText w) = true; cases byText w <;> simp, fun i j hi => absurd hi (Nat.not_lt_zero _)⟩,
    ⟨_, #[], 0, _, Heap.get?_push_size _ rfl, ⟨rfl, rfl, rfl⟩, rfl, fun e he => by simp at he, fun k => by simp, by decide, by rfl, rfl⟩⟩
theorem code_set0 {Q₁ : Value → Shared → Prop} (h : Q₁ (.ref s.heap.objs.size) { s with heap := s.heap.push (set0Obj w) }) (rest : List Value) (hr : checkBuiltinCall "set.__new__" ⟨.type "set" :: rest, []⟩ = pure ()) (hl : rest = [] ∨ ∃ x, rest = [x]) :
    codeAny (model prog w) A (.call (.builtin "set.__new__") ⟨.type "set" :: rest, []⟩) (wants Q₁ E) s := by
  refine codeAny_of_tree ?_
  show wpAny _ A.in1 (do checkBuiltinCall "set.__new__" ⟨.type "set" :: rest, []⟩; again (.builtin "set.__new__" ⟨.type "set" :: rest, []⟩)) _ _ s
  refine wpAny_bind (wpAny_of_eq hr (wpAny_pure ⟨plainId_quiet PySem.F.plain_set_new _, codeAny_builtin PySem.F.entry_set_new ?_⟩))
  rw [Around.under_plainId PySem.F.plain_set_new _]
  unfold Builtin.«set.__new__» Builtin.Frozenset.newClass
  have hsub := sub_set_self
  obtain ⟨hp, g, d, tk, os⟩ := s
  rcases hl with rfl | ⟨x, rfl⟩
  · wp_walk
    refine wpAny_askSetting (wpAny_pure ?_)
    dsimp only
    simp only [newObj]
    exact wpAny_bind (wpAny_alloc (wpAny_pure (wpAny_pure h)))
  · wp_walk
    refine wpAny_askSetting (wpAny_pure ?_)
    dsimp only
    simp only [newObj]
    exact wpAny_bind (wpAny_alloc (wpAny_pure (wpAny_pure h)))

set_option maxHeartbeats 1000000 in
/-- set() -/
theorem set0 {Q : Value → Shared → Prop} (h : ∀ T s', s.heap.objs.size = T → Mv [] s s' → s'.toks = s.toks → IsSet prog w s'.heap T [] → Q (.ref T) s') : wpAny (model prog w) A (call (.type "set") []) Q E s := by
  have h0 : Q (.ref s.heap.objs.size) { s with heap := s.heap.push (set0Obj w) } := h _ _ rfl (Mv.push s _ s.toks) rfl set0_is
  obtain ⟨c, tl, hmro⟩ := PySem.F.called_set.mro
  have hmade := PySem.F.called_set.made
  have hsub := PySem.F.called_set.sub
  refine wpAny_call (codeAny_of_tree ?_)
  show wpAny _ _ (callAny (.type "set") _) _ _ _
  refine wpAny_pure ⟨Code.quiet_builtin _ (by decide +kernel), codeAny_builtin PySem.F.entry_type_call ?_⟩
  rw [Around.under_plain (weight_type_call_type "set" [] []) rfl]
  have h1 := PySem.F.called_set.notType
  have h2 := PySem.F.called_set.canCreate
  have hct := PySem.F.typeCall_set_0
  repeat (any_goals (first | assumption | wp_step))
  refine codeAny_mono (code_set0 (E := E) (Q₁ := fun obj s₁ => obj = .ref s.heap.objs.size ∧ s₁ = { s with heap := s.heap.push (set0Obj w) }) ⟨rfl, rfl⟩ [] PySem.F.newCall_set_0 (.inl rfl)) fun r s₁ hr => ?_
  cases r with
  | error e => exact hr
  | ok fl =>
    cases fl with
    | ret obj =>
      obtain ⟨rfl, rfl⟩ := hr
      have hS : (s.heap.push (set0Obj w)).get? s.heap.objs.size = some (set0Obj w) := Heap.get?_push_size _ rfl
      have hT : Shared.TypeIs { s with heap := s.heap.push (set0Obj w) } (.ref s.heap.objs.size) "set" := ⟨_, hS, rfl⟩
      have hli := PySem.F.called_set.init.lookup
      have hbi := PySem.F.called_set.init.bind (.ref s.heap.objs.size)
      repeat (any_goals (first | assumption | wp_step))
      refine codeAny_mono (codeAny_call_builtin (R := wants (fun r s₂ => r = .none ∧ Q (.ref s.heap.objs.size) s₂) E) PySem.F.called_set.init.plain PySem.F.entry_set_init (check_set_init hT ?_)) fun r₂ s₂ hr₂ => ?_
      · unfold Builtin.«set.__init__» noKeywords
        wp_walk
        exact ⟨rfl, h0⟩
      · cases r₂ with
        | error e => exact hr₂
        | ok fl₂ =>
          cases fl₂ with
          | ret r =>
            obtain ⟨rfl, hq⟩ := hr₂
            repeat (any_goals (first | assumption | wp_step))
          | _ => exact hr₂.elim
    | _ => exact hr.elim
end
end Mine
end

section
open PySem PySem.W PyProof.Rows PySem.Calls
set_option maxRecDepth 100000
set_option linter.unusedVariables false
namespace Mine
def ddStep (acc : List Int) (k : Int) : List Int := if k ∈ acc then acc else acc ++ [k]
def dd (ns : List Int) : List Int := ns.foldl ddStep []
theorem dd_snoc (ns : List Int) (k : Int) : dd (ns ++ [k]) = ddStep (dd ns) k := by unfold dd; rw [List.foldl_append]; rfl
theorem dd_len_le (ns : List Int) : (dd ns).length ≤ ns.length := by
  suffices ∀ acc : List Int, (ns.foldl ddStep acc).length ≤ acc.length + ns.length by have h := this []; simpa [dd] using h
  induction ns with
  | nil => intro acc; simp
  | cons k r ih =>
    intro acc
    rw [List.foldl_cons]
    have h1 := ih (ddStep acc k)
    have h2 : (ddStep acc k).length ≤ acc.length + 1 := by unfold ddStep; split <;> simp
    simp only [List.length_cons]; omega

theorem mem_dd {ns : List Int} {k : Int} : k ∈ dd ns ↔ k ∈ ns := by
  suffices ∀ acc : List Int, k ∈ ns.foldl ddStep acc ↔ k ∈ acc ∨ k ∈ ns by have h := this []; simpa [dd] using h
  induction ns with
  | nil => intro acc; simp
  | cons a r ih =>
    intro acc
    rw [List.foldl_cons, ih]
    unfold ddStep
    split
    · rename_i h; simp only [List.mem_cons]
      constructor
      · rintro (h1 | h1); exact .inl h1; exact .inr (.inr h1)
      · rintro (h1 | h1 | h1); exact .inl h1; exact .inl (h1 ▸ h); exact .inr h1
    · simp only [List.mem_append, List.mem_cons, List.not_mem_nil, or_false, or_assoc]
theorem dd_nodup {ns : List Int} (h : ns.Nodup) : dd ns = ns := by
  suffices ∀ acc : List Int, (acc ++ ns).Nodup → ns.foldl ddStep acc = acc ++ ns by simpa [dd] using this [] (by simpa using h)
  clear h
  induction ns with
  | nil => intro acc _; simp
  | cons a r ih =>
    intro acc ha
    rw [List.foldl_cons]
    have : ddStep acc a = acc ++ [a] := by
      unfold ddStep
      rw [if_neg]
      intro hm
      rw [List.nodup_append] at ha
      exact ha.2.2 a hm a List.mem_cons_self rfl
    rw [this, ih (acc ++ [a]) (by simpa using ha)]; simp

section
variable {prog : Program} {w : World} {A : Around} {E : Value → Shared → Prop} {s : Shared} {R : Result → Shared → Prop}

theorem upd_loop {I l S : Addr} {items : Array Value} {ns : List Int} (hh : A.handled = none) (hi : IntsAre items.toList ns) (hb : ns.length + 1 < scanBound) (hSI : S ≠ I) (hSl : S ≠ l) (hIl : I ≠ l) :
    ∀ (k i : Nat) (s : Shared), ns.length - i = k → i ≤ ns.length → s.heap.IsListIter I l i → s.heap.IsList l items → IsSet prog w s.heap S (dd (ns.take i)) →
      (∀ s', (∀ b o, b ≠ S → b ≠ I → s.heap.get? b = some o → s'.heap.get? b = some o) → s'.gens = s.gens → s'.drawn = s.drawn → s'.os = s.os → s.toks ≤ s'.toks → IsSet prog w s'.heap S (dd ns) → R (.ok (.ret .none)) s') →
      codeAny (model prog w) A (.builtin "set.update.loop" ⟨[.ref S, .ref I], []⟩) R s := by
  have hsz : items.size = ns.length := by rw [← hi.length]; simp
  intro k
  induction k with
  | zero =>
    intro i s hk hin it hl hS hR
    have hie : i = ns.length := by omega
    subst hie
    refine codeAny_builtin F.entry_set_update_loop ?_
    rw [Around.under_plainId F.plain_set_update_loop _]
    show wpAny _ A.in1 (pyNext (.ref I) >>= _) _ _ s
    refine wpAny_bind (wpAny_pyNext_list_end hh it hl (by simp; omega) fun h' he => ?_)
    show wpAny _ A.in1 (ret Value.none) _ _ _
    rw [List.take_length] at hS
    exact wpAny_pure (hR { s with heap := h' } (fun b o _ hb e => he b o hb e) rfl rfl rfl (Nat.le_refl _) (hS.at fun o e => he _ o hSI e))
  | succ k ih =>
    intro i s hk hin it hl hS hR
    have hlt : i < ns.length := by omega
    obtain ⟨v, hv⟩ : ∃ v, items[i]? = some v := ⟨items[i]'(by omega), by simp [show i < items.size by omega]⟩
    obtain ⟨t, rfl⟩ := IntsAre.int_at hi i v (by rw [Array.getElem?_toList]; exact hv)
    have hg : ns.getD i 0 = ns[i] := by rw [List.getD_eq_getElem?_getD, List.getElem?_eq_getElem hlt]; rfl
    rw [hg] at hv
    refine codeAny_builtin F.entry_set_update_loop ?_
    rw [Around.under_plainId F.plain_set_update_loop _]
    show wpAny _ A.in1 (pyNext (.ref I) >>= _) _ _ s
    refine wpAny_bind (wpAny_pyNext_list_item it hl hv fun h1 it1 hs1 => ?_)
    show wpAny _ A.in1 (holding [Value.int ns[i] t] (setAdd S (.int ns[i] t)) >>= _) _ _ _
    refine wpAny_bind (wpAny_holding ?_)
    unfold setAdd
    refine wpAny_holding ?_
    refine wpAny_bind ((intKind prog w).pyHash (k := ns[i]) (intKind_is _ _ _ _) ?_)
    have hS1 : IsSet prog w h1 S (dd (ns.take i)) := hS.at fun o e => hs1.extBut _ _ hSI e
    have hroom : (dd (ns.take i)).length + 1 < scanBound := by have := dd_len_le (ns.take i); rw [List.length_take] at this; omega
    refine add_hashed (s := { s with heap := h1, toks := s.toks + 1 }) hS1 hroom fun h2 hs2 hS2 => ?_
    have hS2' : IsSet prog w h2 S (dd (ns.take (i + 1))) := by
      rw [List.take_succ_eq_append_getElem hlt, dd_snoc]; exact hS2
    refine wpAny_pure ⟨plainId_quiet F.plain_set_update_loop _, ih (i + 1) { s with heap := h2, toks := s.toks + 1 } (by omega) hlt (it1.at fun o e => hs2.extBut _ _ (Ne.symm hSI) e) ((hl.at fun o e => hs1.extBut _ _ (Ne.symm hIl) e).at fun o e => hs2.extBut _ _ (Ne.symm hSl) e) hS2' fun s' h1' h2' h3' h4' h5' h6' => ?_⟩
    exact hR s' (fun b o hb1 hb2 e => h1' b o hb1 hb2 (hs2.extBut b o hb1 (hs1.extBut b o hb2 e))) h2' h3' h4' (Nat.le_trans (Nat.le_succ _) h5') h6'

set_option maxHeartbeats 3200000 in
/-- set(l) of a list of ints -/
theorem set_list {l : Addr} {items : Array Value} {ns : List Int} {Q : Value → Shared → Prop}
    (hh : A.handled = none) (hl : s.heap.IsList l items) (hi : IntsAre items.toList ns) (hb : ns.length + 1 < scanBound)
    (h : ∀ T s', Mv [] s s' → s.toks ≤ s'.toks → s.heap.get? T = none → IsSet prog w s'.heap T (dd ns) → Q (.ref T) s') :
    wpAny (model prog w) A (call (.type "set") [.ref l]) Q E s := by
  obtain ⟨c, tl, hmro⟩ := PySem.F.called_set.mro
  have hmade := PySem.F.called_set.made
  have hsub := PySem.F.called_set.sub
  refine wpAny_call (codeAny_of_tree ?_)
  show wpAny _ _ (callAny (.type "set") _) _ _ _
  refine wpAny_pure ⟨Code.quiet_builtin _ (by decide +kernel), codeAny_builtin PySem.F.entry_type_call ?_⟩
  rw [Around.under_plain (weight_type_call_type "set" [.ref l] []) rfl]
  have h1 := PySem.F.called_set.notType
  have h2 := PySem.F.called_set.canCreate
  have hct := PySem.F.typeCall_set_1 (.ref l)
  repeat (any_goals (first | assumption | wp_step))
  refine codeAny_mono (code_set0 (E := E) (Q₁ := fun obj s₁ => obj = .ref s.heap.objs.size ∧ s₁ = { s with heap := s.heap.push (set0Obj w) }) ⟨rfl, rfl⟩ [.ref l] (PySem.F.newCall_set_1 _) (.inr ⟨_, rfl⟩)) fun r s₁ hr => ?_
  cases r with
  | error e => exact hr
  | ok fl =>
    cases fl with
    | ret obj =>
      obtain ⟨rfl, rfl⟩ := hr
      have hS : (s.heap.push (set0Obj w)).get? s.heap.objs.size = some (set0Obj w) := Heap.get?_push_size _ rfl
      have hT : Shared.TypeIs { s with heap := s.heap.push (set0Obj w) } (.ref s.heap.objs.size) "set" := ⟨_, hS, rfl⟩
      have hli := PySem.F.called_set.init.lookup
      have hbi := PySem.F.called_set.init.bind (.ref s.heap.objs.size)
      repeat (any_goals (first | assumption | wp_step))
      refine codeAny_mono (codeAny_call_builtin (R := wants (fun r s₂ => r = .none ∧ Q (.ref s.heap.objs.size) s₂) E) PySem.F.called_set.init.plain PySem.F.entry_set_init (check_set_init_1 hT ?_)) fun r₂ s₂ hr₂ => ?_
      · obtain ⟨ol, hol, hcl, nl, hdl⟩ := id hl
        obtain ⟨ocls, odict, odata, oslots⟩ := ol
        simp only at hcl hdl
        subst hcl; subst hdl
        have hol' : (s.heap.push (set0Obj w)).get? l = some { cls := .type "list", dict := odict, data := .seq items nl, slots := oslots } := Heap.get?_push_of_some _ hol
        have hsls := PySem.F.sub_list_set
        have hslf := PySem.F.sub_list_frozenset
        have hne : (Value.type "list" == Value.type "dict") = false := by decide
        have hl1 : (s.heap.push (set0Obj w)).IsList l items := ⟨_, hol', rfl, nl, rfl⟩
        unfold Builtin.«set.__init__» noKeywords Builtin.Frozenset.updateFrom
        generalize hPI : pyIter = PI
        wp_walk
        subst hPI
        refine wpAny_pyIter_list hl1 ?_
        refine wpAny_bind (wpAny_runValue ?_)
        have hlS : l < s.heap.objs.size := Heap.lt_size hol
        have hISz : (s.heap.push (set0Obj w)).objs.size = s.heap.objs.size + 1 := Heap.size_push ..
        have hSI : s.heap.objs.size ≠ (s.heap.push (set0Obj w)).objs.size := by rw [hISz]; exact Nat.ne_of_lt (Nat.lt_succ_self _)
        refine upd_loop (A := A.in1.in1) hh hi hb hSI (Nat.ne_of_gt hlS) (by rw [hISz]; exact Nat.ne_of_gt (Nat.lt_succ_of_lt hlS)) _ 0 _ rfl (Nat.zero_le _) ?it ?ls ?st ?fin
        case it => exact ⟨_, Heap.get?_push_size _ rfl, rfl, rfl⟩
        case ls => exact hl1.push _
        case st => exact IsSet.at (set0_is (s := s)) fun o e => Heap.get?_push_of_some _ e
        case fin =>
         intro s' k1 k2 k3 k4 k5 k6
         obtain ⟨h', g', d', tk', os'⟩ := s'
         show wpAny _ _ _ _ _ _
         refine wpAny_pure ?_
         show wpAny _ _ (ret Value.none) _ _ _
         refine wpAny_pure ⟨rfl, h _ _ ⟨fun b o _ e => k1 b o (Nat.ne_of_lt (Heap.lt_size e)) (by rw [hISz]; exact Nat.ne_of_lt (Nat.lt_succ_of_lt (Heap.lt_size e))) (Heap.get?_push_of_some _ (Heap.get?_push_of_some _ e)), k2, k3, k4⟩ k5 (fresh_size _) k6⟩
      · cases r₂ with
        | error e => exact hr₂
        | ok fl₂ =>
          cases fl₂ with
          | ret r =>
            obtain ⟨rfl, hq⟩ := hr₂
            repeat (any_goals (first | assumption | wp_step))
          | _ => exact hr₂.elim
    | _ => exact hr.elim
end
end Mine
end

section
open PySem PySem.W PyProof.Rows PySem.Calls
set_option maxRecDepth 100000
set_option linter.unusedVariables false
namespace Mine

abbrev DictI (prog : Program) (w : World) (h : Heap) (a : Addr) (kvs : List (Int × Value)) : Prop := h.DictOf (intKind prog w) a kvs
section
variable {prog : Program} {w : World} {A : Around} {E : Value → Shared → Prop} {s : Shared} {env : Env} {hb : Heap}

def SeqStb (R : Nat → Value → Heap → Prop) : Prop := ∀ j y h h', R j y h → (∀ b o, h.get? b = some o → IsSeq o → h'.get? b = some o) → R j y h'
def DAcc (prog : Program) (w : World) (p : Nat → Bool) (kf : Nat → Int) (R : Nat → Value → Heap → Prop) (D : Addr) (i : Nat) (h : Heap) : Prop :=
  (D == sysModules) = false ∧ ∃ kvs, DictI prog w h D kvs ∧ Paired (fun j kv => kv.1 = kf j ∧ R j kv.2 h) ((List.range i).filter p) kvs
theorem DAcc.stb {p : Nat → Bool} {kf : Nat → Int} {R : Nat → Value → Heap → Prop} (hR : SeqStb R) (D : Addr) (i : Nat) : Stb D (DAcc prog w p kf R D i) := by
  rintro h h' ⟨hs, kvs, hl, hp⟩ hk
  exact ⟨hs, kvs, hl.at fun o e => hk D o e (.inl rfl), Paired.imp (fun j y hr => ⟨hr.1, hR j y.2 h h' hr.2 fun b o e hs => hk b o e (.inr hs)⟩) hp⟩

def dbody (kx vx : Expr) (acc : Value) (env : Env) : Sem Unit := do
  let kv ← eval kx env
  let vv ← holding [kv] (eval vx env)
  match acc with
  | .ref d => do
    standAt { kx.pos with endLine := vx.pos.endLine, endCol := vx.pos.endCol }
    holding [kv, vv] (dictSet d kv vv)
  | _ => unsupported "internal:dictcomp"

theorem Paired.mem {α β : Type} {F : α → β → Prop} : ∀ {l : List α} {l' : List β}, Paired F l l' → ∀ b ∈ l', ∃ a ∈ l, F a b
  | _, _, .cons h t, b, hb => by
    rcases List.mem_cons.mp hb with rfl | hb
    · exact ⟨_, List.mem_cons_self, h⟩
    · obtain ⟨a, ha, f⟩ := Paired.mem t b hb
      exact ⟨a, List.mem_cons_of_mem _ ha, f⟩

theorem d_turn {kx vx : Expr} {ifs : List Expr} {cenv : Env} {D : Addr} {i n : Nat} {p : Nat → Bool} {kf : Nat → Int} {R : Nat → Value → Heap → Prop} {s₃ : Shared} (hR : SeqStb R) (hi : i < n) (hn : n ≤ sizeLine)
    (hinj : ∀ i j, i < n → j < n → p i = true → p j = true → kf i = kf j → i = j) (hA : DAcc prog w p kf R D i s₃.heap)
    (h : wpAny (model prog w) A (testsM ifs cenv) (fun ok s₄ => ok = p i ∧ Ex s₃ s₄ ∧ (p i = true → wpAny (model prog w) A (eval kx cenv) (fun k s₅ => (∃ t, k = .int (kf i) t) ∧ wpAny (model prog w) A (eval vx cenv) (fun y s₆ => R i y s₆.heap ∧ Ex s₄ s₆) E s₅) E s₄)) E s₃) :
    wpAny (model prog w) A (testsM ifs cenv) (fun ok s₄ => if ok = true then wpAny (model prog w) A (dbody kx vx (.ref D) cenv) (fun _ s₅ => DAcc prog w p kf R D (i + 1) s₅.heap ∧ ExB D s₃ s₅) E s₄ else DAcc prog w p kf R D (i + 1) s₄.heap ∧ ExB D s₃ s₄) E s₃ := by
  refine wpAny_mono h (fun ok s₄ h₄ => ?_) fun _ _ x => x
  obtain ⟨rfl, x4, h₄⟩ := h₄
  have hA4 := DAcc.stb (prog := prog) (w := w) (kf := kf) (p := p) hR D i _ _ hA fun b o e _ => x4.kp b o e
  cases hp : p i with
  | false =>
    obtain ⟨hs, ys, hl, hy⟩ := hA4
    exact ⟨⟨hs, ys, hl, by rw [filter_skip hp]; exact hy⟩, x4.b⟩
  | true =>
    simp only [if_true]
    unfold dbody
    refine wpAny_bind (wpAny_mono (h₄ hp) (fun k s₅ h₅ => ?_) fun _ _ x => x)
    obtain ⟨⟨t, rfl⟩, h₅⟩ := h₅
    refine wpAny_bind (wpAny_holding (wpAny_mono h₅ (fun y s₆ h₆ => ?_) fun _ _ x => x))
    obtain ⟨hy, x6⟩ := h₆
    obtain ⟨hs, kvs, hl, hp6⟩ := DAcc.stb (prog := prog) (w := w) (kf := kf) (p := p) hR D i _ _ hA4 fun b o e _ => x6.kp b o e
    have hlen : kvs.length ≤ sizeLine := by
      have := hp6.length
      have h2 : ((List.range i).filter p).length ≤ i := by have := List.length_filter_le p (List.range i); simpa using this
      omega
    refine wpAny_bind (wpAny_standAt (wpAny_holding (wpAny_dictSet_pairs (hsz := hlen) (intKind_is _ _ _ _) hl fun h' hl' hs' => ?_)))
    have hnew : stored kvs (kf i) y = kvs ++ [(kf i, y)] := by
      unfold stored
      rw [if_neg]
      intro hany
      rw [List.any_eq_true] at hany
      obtain ⟨kv, hkv, e⟩ := hany
      obtain ⟨j, hj, f, _⟩ := Paired.mem hp6 kv hkv
      rw [List.mem_filter, List.mem_range] at hj
      have e2 : kv.1 = kf i := by simpa using e
      have := hinj j i (by omega) hi hj.2 hp (f.symm.trans e2)
      omega
    rw [hnew] at hl'
    have kt : ∀ b o, s₆.heap.get? b = some o → IsSeq o → h'.get? b = some o := fun b o e ⟨xs, k, hc⟩ => hs'.extBut b o (fun q => by
      obtain ⟨o', es, ep, ho', _, hd', _⟩ := hl
      rw [q, ho'] at e; cases e; rw [hd'] at hc; cases hc) e
    refine ⟨⟨hs, _, hl', ?_⟩, fun b o hb e => hs'.extBut b o hb (x6.kp b o (x4.kp b o e)), fun g => x6.gens (x4.gens g), x6.os.trans x4.os⟩
    exact Paired.snocIf (F := fun j (kv : Int × Value) => kv.1 = kf j ∧ R j kv.2 h') (Paired.imp (fun j y hr => ⟨hr.1, hR j y.2 _ _ hr.2 kt⟩) hp6) hp ⟨rfl, hR i y _ _ hy kt⟩

theorem new_dict {s₂ : Shared} {Q : Value → Shared → Prop} {p : Nat → Bool} {kf : Nat → Int} {R : Nat → Value → Heap → Prop} (hsm : sysModules < s₂.heap.objs.size)
    (h : ∀ D s₃ o, s₂.heap.objs.size ≤ D → s₃.heap.get? D = some o → s₂.heap.objs.size ≤ s₃.heap.objs.size → Mv [] s₂ s₃ → DAcc prog w p kf R D 0 s₃.heap → Q (.ref D) s₃) : wpAny (model prog w) A newDict Q E s₂ := by
  refine wpAny_newObj_type (h _ _ _ (Nat.le_refl _) (Heap.get?_push_size _ rfl) ?_ (Mv.push s₂ _ s₂.toks) ⟨?_, [], Heap.DictOf.new s₂.heap, .nil⟩)
  · show s₂.heap.objs.size ≤ (s₂.heap.push _).objs.size
    rw [Heap.size_push]; exact Nat.le_succ _
  · exact beq_eq_false_iff_ne.mpr (Nat.ne_of_gt hsm)
theorem lt_of_get {h : Heap} {a : Addr} {o : Obj} (e : h.get? a = some o) : a < h.objs.size := Heap.lt_size e
theorem Wd.sys {mg mb : Str → Option Value} {h : Heap} (D : Wd mg mb h) : sysModules < h.objs.size := by
  obtain ⟨o, es, ep, ho, _⟩ := D.g
  exact Nat.lt_trans (by decide : sysModules < mainGlobals) (Heap.lt_size ho)

/-- {kx: vx for x in it if ..}, within an expression -/
theorem dc_eval {kx vx iter : Expr} {x : Str} {px : Pos} {ifs : List Expr} {scope : Scope} {pos : Pos} {Q : Value → Shared → Prop} {mg mb : Str → Option Value} (p : Nat → Bool) (kf : Nat → Int) (R : Nat → Value → Heap → Prop) (hR : SeqStb R)
    (F : Fm env hb) (Lv : Live env s.heap) (Dw : Wd mg mb s.heap) (hok : compOk scope = true) (hfree : ∀ x ∈ scope.names, x.2 = .free → (env.cells.lookup x.1).isSome = true)
    (hx : scope.names.lookup x = some .local ∨ scope.names.lookup x = some .cell) (hxo : okName x = true)
    (h : wpAny (model prog w) A (eval iter env) (fun xv s₁ => wpAny (model prog w) A (pyIter xv) (fun it s₂ => ∃ I fp wr n P St, it = .ref I ∧ n ≤ sizeLine ∧ SrcIn prog w A s s₂ I fp wr n P St ∧
      (∀ i j, i < n → j < n → p i = true → p j = true → kf i = kf j → i = j) ∧
      (∀ cenv i v s₃ (E' : Value → Shared → Prop), CEnv env cenv scope s.heap → i < n → P i v → Live cenv s₃.heap → VarAt s₃.heap cenv x v → (∀ b o, s.heap.get? b = some o → s₃.heap.get? b = some o) →
        wpAny (model prog w) A (testsM ifs cenv) (fun ok s₄ => ok = p i ∧ Ex s₃ s₄ ∧ (p i = true → wpAny (model prog w) A (eval kx cenv) (fun k s₅ => (∃ t, k = .int (kf i) t) ∧ wpAny (model prog w) A (eval vx cenv) (fun y s₆ => R i y s₆.heap ∧ Ex s₄ s₆) E' s₅) E' s₄)) E' s₃) ∧
      (∀ D kvs s', s.heap.get? D = none → (D == sysModules) = false → DictI prog w s'.heap D kvs → Paired (fun j kv => kv.1 = kf j ∧ R j kv.2 s'.heap) ((List.range n).filter p) kvs → Ex s s' → Q (.ref D) s')) E s₁) E s)
    (hs : ∀ x, foldedSetIterable iter env x = pure x := by intro _; rfl)
    (hsh : CompShape (.DictComp kx vx [⟨.Name x px, iter, ifs, 0⟩] scope pos) x px iter.pos ifs (dbody kx vx) prog w A := by exact ⟨fun _ _ _ => rfl, fun _ _ _ => rfl, fun _ _ _ => rfl, fun _ _ _ => rfl, fun _ _ _ => rfl, fun _ _ _ => rfl, fun _ _ => rfl⟩) :
    wpAny (model prog w) A (eval (.DictComp kx vx [⟨.Name x px, iter, ifs, 0⟩] scope pos) env) Q E s := by
  rw [arm_eval_DictComp]
  refine comp_eval rfl rfl hs hsh F Lv hok hfree hx hxo (DAcc prog w p kf R) (DAcc.stb hR) (fun s₂ Q E' x2 h => new_dict (Dw.keeps x2.kp).sys h) ?_
  refine wpAny_mono h (fun xv s₁ h₁ => wpAny_mono h₁ (fun it s₂ h₂ => ?_) fun _ _ x => x) fun _ _ x => x
  obtain ⟨I, fp, wr, n, P, St, rfl, hn, S, hinj, turn, done⟩ := h₂
  refine ⟨I, fp, wr, n, P, St, rfl, S.walks, S.st, S.fpOld, S.wrNew, fun i h hs b hb o ho ⟨xs, k, hd⟩ => ?_, S.ex, fun cenv D i v s₃ E' CE hi hP hL hV hk hA hO _ => turn_c hO (d_turn hR hi hn hinj hA (turn cenv i v s₃ E' CE hi hP hL hV hk)), fun D s' hD ⟨hsm, ys, hl, hp⟩ hx => done D ys s' hD hsm hl hp hx⟩
  obtain ⟨fs, hf⟩ := S.cls i h hs b hb o ho
  rw [hf] at hd; cases hd

theorem dc_use {kx vx iter : Expr} {x y : Str} {px py : Pos} {ifs : List Expr} {scope : Scope} {pos spos : Pos} {Q : Flow → Shared → Prop} {mg mb : Str → Option Value} (p : Nat → Bool) (kf : Nat → Int) (R : Nat → Value → Heap → Prop) (hR : SeqStb R)
    (F : Fm env hb) (Lv : Live env s.heap) (Dw : Wd mg mb s.heap) (hok : compOk scope = true) (hfree : ∀ x ∈ scope.names, x.2 = .free → (env.cells.lookup x.1).isSome = true)
    (hx : scope.names.lookup x = some .local ∨ scope.names.lookup x = some .cell) (hxo : okName x = true) (hy : env.kindOf y = some .local) (hyo : okName y = true)
    (hsw : swapsWith (.DictComp kx vx [⟨.Name x px, iter, ifs, 0⟩] scope pos) (some (.Name y py)) spos.line env = pure true)
    (h : wpAny (model prog w) A (eval iter env) (fun xv s₁ => wpAny (model prog w) A (pyIter xv) (fun it s₂ => ∃ I fp wr n P St, it = .ref I ∧ n ≤ sizeLine ∧ SrcIn prog w A s s₂ I fp wr n P St ∧
      (∀ i j, i < n → j < n → p i = true → p j = true → kf i = kf j → i = j) ∧
      (∀ cenv i v s₃ (E' : Value → Shared → Prop), CEnv env cenv scope s.heap → i < n → P i v → Live cenv s₃.heap → VarAt s₃.heap cenv x v → (∀ b o, s.heap.get? b = some o → s₃.heap.get? b = some o) →
        wpAny (model prog w) A (testsM ifs cenv) (fun ok s₄ => ok = p i ∧ Ex s₃ s₄ ∧ (p i = true → wpAny (model prog w) A (eval kx cenv) (fun k s₅ => (∃ t, k = .int (kf i) t) ∧ wpAny (model prog w) A (eval vx cenv) (fun y s₆ => R i y s₆.heap ∧ Ex s₄ s₆) E' s₅) E' s₄)) E' s₃) ∧
      (∀ D kvs s', s.heap.get? D = none → (D == sysModules) = false → DictI prog w s'.heap D kvs → Paired (fun j kv => kv.1 = kf j ∧ R j kv.2 s'.heap) ((List.range n).filter p) kvs → Stp env [y] s s' → VarAt s'.heap env y (.ref D) → Q .next s')) E s₁) E s)
    (hs : ∀ x, foldedSetIterable iter env x = pure x := by intro _; rfl)
    (hsh : CompShape (.DictComp kx vx [⟨.Name x px, iter, ifs, 0⟩] scope pos) x px iter.pos ifs (dbody kx vx) prog w A := by exact ⟨fun _ _ _ => rfl, fun _ _ _ => rfl, fun _ _ _ => rfl, fun _ _ _ => rfl, fun _ _ _ => rfl, fun _ _ _ => rfl, fun _ _ => rfl⟩) :
    wpAny (model prog w) A (exec (.Assign [.Name y py] (.DictComp kx vx [⟨.Name x px, iter, ifs, 0⟩] scope pos) spos) env) Q E s := by
  rw [exec_Assign_Name_used _ _ _ _ hsw]
  refine wpAny_bind (wpAny_standAt (wpAny_bind ?_))
  rw [arm_evalThenUse_DictComp]
  refine wpAny_bind (wpAny_mono (comp_use (y := y) (py := py) (Q := Q .next) rfl rfl hs hsh F Lv hok hfree hx hxo hy hyo (DAcc prog w p kf R) (DAcc.stb hR) (fun s₂ Q E' x2 h => new_dict (Dw.keeps x2.kp).sys h) ?_) (fun _ s' q => wpAny_pure (wpAny_pure q)) fun _ _ x => x)
  refine wpAny_mono h (fun xv s₁ h₁ => wpAny_mono h₁ (fun it s₂ h₂ => ?_) fun _ _ x => x) fun _ _ x => x
  obtain ⟨I, fp, wr, n, P, St, rfl, hn, S, hinj, turn, done⟩ := h₂
  refine ⟨I, fp, wr, n, P, St, rfl, S.walks, S.st, S.fpOld, S.wrNew, fun i h hs b hb o ho ⟨xs, k, hd⟩ => ?_, S.ex, fun cenv D i v s₃ E' CE hi hP hL hV hk hA hO _ => turn_c hO (d_turn hR hi hn hinj hA (turn cenv i v s₃ E' CE hi hP hL hV hk)), fun D s' hD ⟨hsm, ys, hl, hp⟩ hx => done D ys s' hD hsm hl hp hx.1 hx.2⟩
  obtain ⟨fs, hf⟩ := S.cls i h hs b hb o ho
  rw [hf] at hd; cases hd

/-! set comprehensions of ints -/
def sbody (elt : Expr) (acc : Value) (env : Env) : Sem Unit := do let v ← eval elt env; standAt elt.pos; let _ ← call (.builtin "set.add") [acc, v]
def SAcc (prog : Program) (w : World) (p : Nat → Bool) (kf : Nat → Int) (D : Addr) (i : Nat) (h : Heap) : Prop := IsSet prog w h D (((List.range i).filter p).map kf)
theorem SAcc.stb {p : Nat → Bool} {kf : Nat → Int} (D : Addr) (i : Nat) : Stb D (SAcc prog w p kf D i) := fun h h' x hk => IsSet.at x fun o e => hk D o e (.inl rfl)

theorem s_turn {elt : Expr} {ifs : List Expr} {cenv : Env} {D : Addr} {i n : Nat} {p : Nat → Bool} {kf : Nat → Int} {s₃ : Shared} (hi : i < n) (hn : n + 1 < scanBound)
    (hinj : ∀ i j, i < n → j < n → p i = true → p j = true → kf i = kf j → i = j) (hA : SAcc prog w p kf D i s₃.heap)
    (h : wpAny (model prog w) A (testsM ifs cenv) (fun ok s₄ => ok = p i ∧ Ex s₃ s₄ ∧ (p i = true → wpAny (model prog w) A (eval elt cenv) (fun k s₅ => (∃ t, k = .int (kf i) t) ∧ Ex s₄ s₅) E s₄)) E s₃) :
    wpAny (model prog w) A (testsM ifs cenv) (fun ok s₄ => if ok = true then wpAny (model prog w) A (sbody elt (.ref D) cenv) (fun _ s₅ => SAcc prog w p kf D (i + 1) s₅.heap ∧ ExB D s₃ s₅) E s₄ else SAcc prog w p kf D (i + 1) s₄.heap ∧ ExB D s₃ s₄) E s₃ := by
  refine wpAny_mono h (fun ok s₄ h₄ => ?_) fun _ _ x => x
  obtain ⟨rfl, x4, h₄⟩ := h₄
  have hA4 := SAcc.stb (prog := prog) (w := w) (kf := kf) (p := p) D i _ _ hA fun b o e _ => x4.kp b o e
  cases hp : p i with
  | false =>
    exact ⟨by unfold SAcc; rw [filter_skip hp]; exact hA4, x4.b⟩
  | true =>
    simp only [if_true]
    unfold sbody
    refine wpAny_bind (wpAny_mono (h₄ hp) (fun k s₅ h₅ => ?_) fun _ _ x => x)
    obtain ⟨⟨t, rfl⟩, x5⟩ := h₅
    have hA5 := SAcc.stb (prog := prog) (w := w) (kf := kf) (p := p) D i _ _ hA4 fun b o e _ => x5.kp b o e
    have hlen : (((List.range i).filter p).map kf).length + 1 < scanBound := by
      have h2 : ((List.range i).filter p).length ≤ i := by have := List.length_filter_le p (List.range i); simpa using this
      rw [List.length_map]; omega
    refine wpAny_bind (wpAny_standAt (wpAny_bind (set_add hA5 hlen fun h' hs' hS' => wpAny_pure ⟨?_, fun b o hb e => hs'.extBut b o hb (x5.kp b o (x4.kp b o e)), fun g => x5.gens (x4.gens g), x5.os.trans x4.os⟩)))
    rw [if_neg] at hS'
    · unfold SAcc
      rw [List.range_succ, List.filter_append, List.map_append]
      have : [i].filter p = [i] := by simp [hp]
      rw [this]; exact hS'
    · intro hm
      obtain ⟨j, hj, e⟩ := List.mem_map.mp hm
      rw [List.mem_filter, List.mem_range] at hj
      have := hinj j i (by omega) hi hj.2 hp e
      omega

theorem new_set {s₂ : Shared} {Q : Value → Shared → Prop} {p : Nat → Bool} {kf : Nat → Int}
    (h : ∀ D s₃ o, s₂.heap.objs.size ≤ D → s₃.heap.get? D = some o → s₂.heap.objs.size ≤ s₃.heap.objs.size → Mv [] s₂ s₃ → SAcc prog w p kf D 0 s₃.heap → Q (.ref D) s₃) : wpAny (model prog w) A (newSet (.type "set")) Q E s₂ := by
  refine newSet_led fun T s' hT m ht hsz hS => ?_
  obtain ⟨_, o, _, _, _, ho, _⟩ := id hS
  exact h T s' o (Nat.le_of_eq hT) ho (by omega) m (by simpa [SAcc] using hS)

theorem sc_eval {elt iter : Expr} {x : Str} {px : Pos} {ifs : List Expr} {scope : Scope} {pos : Pos} {Q : Value → Shared → Prop} (p : Nat → Bool) (kf : Nat → Int)
    (F : Fm env hb) (Lv : Live env s.heap) (hok : compOk scope = true) (hfree : ∀ x ∈ scope.names, x.2 = .free → (env.cells.lookup x.1).isSome = true)
    (hx : scope.names.lookup x = some .local ∨ scope.names.lookup x = some .cell) (hxo : okName x = true)
    (h : wpAny (model prog w) A (eval iter env) (fun xv s₁ => wpAny (model prog w) A (pyIter xv) (fun it s₂ => ∃ I fp wr n P St, it = .ref I ∧ n + 1 < scanBound ∧ SrcIn prog w A s s₂ I fp wr n P St ∧
      (∀ i j, i < n → j < n → p i = true → p j = true → kf i = kf j → i = j) ∧
      (∀ cenv i v s₃ (E' : Value → Shared → Prop), CEnv env cenv scope s.heap → i < n → P i v → Live cenv s₃.heap → VarAt s₃.heap cenv x v → (∀ b o, s.heap.get? b = some o → s₃.heap.get? b = some o) →
        wpAny (model prog w) A (testsM ifs cenv) (fun ok s₄ => ok = p i ∧ Ex s₃ s₄ ∧ (p i = true → wpAny (model prog w) A (eval elt cenv) (fun k s₅ => (∃ t, k = .int (kf i) t) ∧ Ex s₄ s₅) E' s₄)) E' s₃) ∧
      (∀ D s', s.heap.get? D = none → IsSet prog w s'.heap D (((List.range n).filter p).map kf) → Ex s s' → Q (.ref D) s')) E s₁) E s)
    (hs : ∀ x, foldedSetIterable iter env x = pure x := by intro _; rfl)
    (hsh : CompShape (.SetComp elt [⟨.Name x px, iter, ifs, 0⟩] scope pos) x px iter.pos ifs (sbody elt) prog w A := by exact ⟨fun _ _ _ => rfl, fun _ _ _ => rfl, fun _ _ _ => rfl, fun _ _ _ => rfl, fun _ _ _ => rfl, fun _ _ _ => rfl, fun _ _ => rfl⟩) :
    wpAny (model prog w) A (eval (.SetComp elt [⟨.Name x px, iter, ifs, 0⟩] scope pos) env) Q E s := by
  rw [arm_eval_SetComp]
  refine comp_eval rfl rfl hs hsh F Lv hok hfree hx hxo (SAcc prog w p kf) SAcc.stb (fun s₂ Q E' x2 h => new_set h) ?_
  refine wpAny_mono h (fun xv s₁ h₁ => wpAny_mono h₁ (fun it s₂ h₂ => ?_) fun _ _ x => x) fun _ _ x => x
  obtain ⟨I, fp, wr, n, P, St, rfl, hn, S, hinj, turn, done⟩ := h₂
  refine ⟨I, fp, wr, n, P, St, rfl, S.walks, S.st, S.fpOld, S.wrNew, fun i h hs b hb o ho ⟨xs, k, hd⟩ => ?_, S.ex, fun cenv D i v s₃ E' CE hi hP hL hV hk hA hO _ => turn_c hO (s_turn hi hn hinj hA (turn cenv i v s₃ E' CE hi hP hL hV hk)), fun D s' hD hA hx => done D s' hD hA hx⟩
  obtain ⟨fs, hf⟩ := S.cls i h hs b hb o ho
  rw [hf] at hd; cases hd
end
end Mine
end

section
open PySem PySem.W PyProof.Rows PySem.Calls
set_option maxRecDepth 100000
set_option linter.unusedVariables false
namespace Mine

/-! ### data -/
def LI (h : Heap) (a : Addr) (ns : List Int) : Prop := ∃ vs, h.IsList a vs.toArray ∧ IntsAre vs ns
def PairV (h : Heap) (v : Value) (p : Int × Int) : Prop := ∃ U t u, v = .ref U ∧ h.IsTuple U #[.int p.1 t, .int p.2 u]
def PairsV (h : Heap) (vs : List Value) (ps : List (Int × Int)) : Prop := Paired (PairV h) vs ps
def LP (h : Heap) (a : Addr) (ps : List (Int × Int)) : Prop := ∃ vs, h.IsList a vs.toArray ∧ PairsV h vs ps

theorem IsList.seq {h : Heap} {a : Addr} {xs : Array Value} (x : h.IsList a xs) : ∃ o, h.get? a = some o ∧ IsSeq o := let ⟨o, ho, _, n, hd⟩ := x; ⟨o, ho, xs, n, hd⟩
theorem IsTuple.seq {h : Heap} {a : Addr} {xs : Array Value} (x : h.IsTuple a xs) : ∃ o, h.get? a = some o ∧ IsSeq o := let ⟨o, ho, _, n, hd⟩ := x; ⟨o, ho, xs, n, hd⟩

theorem PairV.keeps {h h' : Heap} {v : Value} {p : Int × Int} (x : PairV h v p) (k : ∀ b o, h.get? b = some o → IsSeq o → h'.get? b = some o) : PairV h' v p :=
  let ⟨U, t, u, e, ht⟩ := x
  let ⟨o, ho, hs⟩ := IsTuple.seq ht
  ⟨U, t, u, e, ht.at fun o' e' => by rw [ho] at e'; cases e'; exact k U o ho hs⟩
theorem PairV.tup {h h' : Heap} {v : Value} {p : Int × Int} (x : PairV h v p) (k : ∀ b o, h.get? b = some o → o.cls = .type "tuple" → IsSeq o → h'.get? b = some o) : PairV h' v p :=
  let ⟨U, t, u, e, ht⟩ := x
  let ⟨o, ho, hc, n, hd⟩ := ht
  ⟨U, t, u, e, o, k U o ho hc ⟨_, n, hd⟩, hc, n, hd⟩
theorem PairsV.keeps {h h' : Heap} {vs : List Value} {ps : List (Int × Int)} (x : PairsV h vs ps) (k : ∀ b o, h.get? b = some o → IsSeq o → h'.get? b = some o) : PairsV h' vs ps := Paired.imp (fun _ _ y => y.keeps k) x
theorem LI.keeps {h h' : Heap} {a : Addr} {ns : List Int} (x : LI h a ns) (k : ∀ b o, h.get? b = some o → IsSeq o → h'.get? b = some o) : LI h' a ns :=
  let ⟨vs, hl, hi⟩ := x
  let ⟨o, ho, hs⟩ := IsList.seq hl
  ⟨vs, hl.at fun o' e' => by rw [ho] at e'; cases e'; exact k a o ho hs, hi⟩
theorem LP.keeps {h h' : Heap} {a : Addr} {ps : List (Int × Int)} (x : LP h a ps) (k : ∀ b o, h.get? b = some o → IsSeq o → h'.get? b = some o) : LP h' a ps :=
  let ⟨vs, hl, hi⟩ := x
  let ⟨o, ho, hs⟩ := IsList.seq hl
  ⟨vs, hl.at fun o' e' => by rw [ho] at e'; cases e'; exact k a o ho hs, hi.keeps k⟩
theorem Ex.seq {s s' : Shared} (x : Ex s s') : ∀ b o, s.heap.get? b = some o → IsSeq o → s'.heap.get? b = some o := fun b o e _ => x.kp b o e
theorem Stp.seq {env : Env} {N : List Str} {s s' : Shared} (x : Stp env N s s') (L : Live env s.heap) : ∀ b o, s.heap.get? b = some o → IsSeq o → s'.heap.get? b = some o := fun b o e hs => x.fs.kp b o (L.seqOut e hs) (fun q => nomatch q) e
theorem Stp.set {env : Env} {N : List Str} {s s' : Shared} {prog : Program} {w : World} {a : Addr} {l : List Int} (x : Stp env N s s') (L : Live env s.heap) (h : IsSet prog w s.heap a l) : IsSet prog w s'.heap a l :=
  h.at fun o e => x.fs.kp a o (by
    obtain ⟨_, o', es, ep, t, ho, _, hd, _⟩ := h
    exact L.setOut ho ⟨es, ep, t, hd⟩) (fun q => nomatch q) e
theorem Stp.dict {env : Env} {N : List Str} {s s' : Shared} {prog : Program} {w : World} {a : Addr} {kvs : List (Int × Value)} (x : Stp env N s s') (L : Live env s.heap) (h : DictI prog w s.heap a kvs) (ha : a ≠ env.locals) : DictI prog w s'.heap a kvs :=
  h.at fun o e => x.fs.kp a o (by
    obtain ⟨o', es, ep, ho, _, hd, _⟩ := h
    exact L.dictOut ho ⟨es, ep, hd⟩ ha) (fun q => nomatch q) e
theorem Stp.old {env : Env} {N : List Str} {s s' : Shared} (x : Stp env N s s') {b : Addr} {o : Obj} (hb : Out env b) (e : s.heap.get? b = some o) : s'.heap.get? b = some o := x.fs.kp b o hb (fun q => nomatch q) e

theorem Paired.length' {α β : Type} {F : α → β → Prop} {l : List α} {l' : List β} (h : Paired F l l') : l.length = l'.length := h.length
theorem Paired.get {α β : Type} {F : α → β → Prop} : ∀ {l : List α} {l' : List β}, Paired F l l' → ∀ (i : Nat) (b : β), l'[i]? = some b → ∃ a, l[i]? = some a ∧ F a b
  | _, _, .nil, i, b, h => by simp at h
  | _, _, .cons f t, 0, b, h => by simp at h; subst h; exact ⟨_, rfl, f⟩
  | _, _, .cons f t, i + 1, b, h => by simp at h; simpa using Paired.get t i b h
theorem Paired.getL {α β : Type} {F : α → β → Prop} : ∀ {l : List α} {l' : List β}, Paired F l l' → ∀ (i : Nat) (a : α), l[i]? = some a → ∃ b, l'[i]? = some b ∧ F a b
  | _, _, .nil, i, b, h => by simp at h
  | _, _, .cons f t, 0, b, h => by simp at h; subst h; exact ⟨_, rfl, f⟩
  | _, _, .cons f t, i + 1, b, h => by simp at h; simpa using Paired.getL t i b h
theorem Paired.append {α β : Type} {F : α → β → Prop} : ∀ {l k : List α} {l' k' : List β}, Paired F l l' → Paired F k k' → Paired F (l ++ k) (l' ++ k')
  | _, _, _, _, .nil, h => h
  | _, _, _, _, .cons f t, h => .cons f (Paired.append t h)
theorem Paired.take {α β : Type} {F : α → β → Prop} : ∀ {l : List α} {l' : List β} (n : Nat), Paired F l l' → Paired F (l.take n) (l'.take n)
  | _, _, 0, _ => by simp; exact .nil
  | _, _, n + 1, .nil => by simp; exact .nil
  | _, _, n + 1, .cons f t => by simp; exact .cons f (Paired.take n t)
theorem Paired.map {α β γ : Type} {F : α → β → Prop} {G : γ → β → Prop} {f : γ → α} (h : ∀ c b, F (f c) b → G c b) : ∀ {l : List γ} {l' : List β}, Paired F (l.map f) l' → Paired G l l'
  | [], _, .nil => .nil
  | c :: l, _, .cons x t => .cons (h c _ x) (Paired.map h t)
theorem ints_get {vs : List Value} {ns : List Int} (h : IntsAre vs ns) : ∀ (i : Nat) (k : Int), ns[i]? = some k → ∃ t, vs[i]? = some (.int k t) := by
  induction h with
  | nil => intro i k e; simp at e
  | cons n t r ih =>
    intro i k e
    cases i with
    | zero => simp at e; subst e; exact ⟨t, rfl⟩
    | succ i => simp at e; simpa using ih i k e
theorem ints_take {vs : List Value} {ns : List Int} (h : IntsAre vs ns) : ∀ n, IntsAre (vs.take n) (ns.take n) := by
  induction h with
  | nil => intro n; simp; exact .nil
  | cons n t r ih =>
    intro m
    cases m with
    | zero => simp; exact .nil
    | succ m => simp; exact .cons n t (ih m)
theorem ints_drop {vs : List Value} {ns : List Int} (h : IntsAre vs ns) : ∀ n, IntsAre (vs.drop n) (ns.drop n) := by
  induction h with
  | nil => intro n; simp; exact .nil
  | cons n t r ih =>
    intro m
    cases m with
    | zero => simp; exact .cons n t r
    | succ m => simp; exact ih m
/-- a list comprehension of ints -/
theorem ints_of_paired {f : Nat → Int} : ∀ {l : List Nat} {ys : List Value}, Paired (fun j y => ∃ t, y = .int (f j) t) l ys → IntsAre ys (l.map f)
  | _, _, .nil => .nil
  | _, _, .cons ⟨t, e⟩ r => by subst e; exact .cons _ t (ints_of_paired r)
theorem pairs_of_paired {h : Heap} {f : Nat → Int × Int} : ∀ {l : List Nat} {ys : List Value}, Paired (fun j y => PairV h y (f j)) l ys → PairsV h ys (l.map f)
  | _, _, .nil => .nil
  | _, _, .cons x r => .cons x (pairs_of_paired r)
theorem toList_list {h : Heap} {a : Addr} {ys : Array Value} (x : h.IsList a ys) : h.IsList a ys.toList.toArray := by simpa using x

section
variable {prog : Program} {w : World} {A : Around} {E : Value → Shared → Prop} {s : Shared} {env : Env} {hb : Heap}

/-! ### lists told equal -/
theorem EqAt.pair {v u : Value} {p : Int × Int} (a : PairV s.heap v p) (b : PairV s.heap u p) (hu : A.units < cLine) : SeqAt.EqAt A s v u true := by
  obtain ⟨U, t1, t2, rfl, h1⟩ := a
  obtain ⟨V, t3, t4, rfl, h2⟩ := b
  by_cases e : U = V
  · subst e; exact SeqAt.EqAt.same _
  · refine SeqAt.EqAt.of_refs e ?_
    have := SeqAt.RcAt.tuples (A := A) (e := fun _ => true) h1 h2 hu fun j hj1 hj2 => ?_
    · exact this
    · match j, hj1 with
      | 0, _ => have := SeqAt.EqAt.int_int (A := A.in1) (s := s) p.1 t1 p.1 t3; simpa using this
      | 1, _ => have := SeqAt.EqAt.int_int (A := A.in1) (s := s) p.2 t2 p.2 t4; simpa using this

theorem ne_same {l b : Addr} {xs ys : Array Value} {Q : Value → Shared → Prop} (hl : s.heap.IsList l xs) (hb : s.heap.IsList b ys) (hsz : xs.size = ys.size) (hu : A.units < cLine)
    (he : ∀ j (h1 : j < xs.size) (h2 : j < ys.size), SeqAt.EqAt A.in1 s xs[j] ys[j] true) (h : Q (.bool false) s) : wpAny (model prog w) A (compareOp .NotEq (.ref l) (.ref b)) Q E s :=
  SeqAt.RcNeAt.lists (e := fun _ => true) hl hb hsz hu he prog w E Q (by rw [show (List.range xs.size).all (fun _ => true) = true from List.all_eq_true.mpr fun _ _ => rfl]; exact h)
theorem ne_LI {a b : Addr} {ns ms : List Int} {Q : Value → Shared → Prop} (ha : LI s.heap a ns) (hb : LI s.heap b ms) (hu : A.units + 64 < cLine) (h : Q (.bool (!decide (ns = ms))) s) :
    wpAny (model prog w) A (compareOp .NotEq (.ref a) (.ref b)) Q E s := by
  obtain ⟨vs, hl, hi⟩ := ha
  obtain ⟨us, hl', hi'⟩ := hb
  exact ke_ne_ints hl hl' hi hi' hu h
theorem eq_LI {a b : Addr} {ns ms : List Int} {Q : Value → Shared → Prop} (ha : LI s.heap a ns) (hb : LI s.heap b ms) (hu : A.units + 64 < cLine) (h : Q (.bool (decide (ns = ms))) s) :
    wpAny (model prog w) A (compareOp .Eq (.ref a) (.ref b)) Q E s := by
  obtain ⟨vs, hl, hi⟩ := ha
  obtain ⟨us, hl', hi'⟩ := hb
  exact ke_eq_ints hl hl' hi hi' hu h
theorem ne_LP {a b : Addr} {ps : List (Int × Int)} {Q : Value → Shared → Prop} (ha : LP s.heap a ps) (hb : LP s.heap b ps) (hu : A.units + 64 < cLine) (h : Q (.bool false) s) :
    wpAny (model prog w) A (compareOp .NotEq (.ref a) (.ref b)) Q E s := by
  obtain ⟨vs, hl, hi⟩ := ha
  obtain ⟨us, hl', hi'⟩ := hb
  have e1 := hi.length; have e2 := hi'.length
  refine ne_same hl hl' (by simp; omega) (by omega) (fun j h1 h2 => ?_) h
  have hj : j < ps.length := by simp at h1; omega
  obtain ⟨v, hv, pv⟩ := Paired.get hi j ps[j] (by simp [hj])
  obtain ⟨u, hu', pu⟩ := Paired.get hi' j ps[j] (by simp [hj])
  have g1 : vs.toArray[j] = v := by
    have : vs.toArray[j]? = some v := by simpa using hv
    rw [Array.getElem?_eq_getElem h1] at this; exact Option.some.inj this
  have g2 : us.toArray[j] = u := by
    have : us.toArray[j]? = some u := by simpa using hu'
    rw [Array.getElem?_eq_getElem h2] at this; exact Option.some.inj this
  rw [g1, g2]
  exact EqAt.pair pv pu (by show A.in1.units < cLine; have : A.in1.units ≤ A.units + 1 := by first | rfl | exact Nat.le_refl _ | (unfold Around.in1; simp)
                            omega)

/-! ### iter, next -/
theorem bi_iter {v : Value} {Q : Value → Shared → Prop} (h : wpAny (model prog w) A.in1 (pyIter v) Q E s) : wpAny (model prog w) A (call (.builtin "iter") [v]) Q E s := by
  refine call_function_entry (by decide +kernel) (by decide +kernel) kdk_entry_iter (kdk_args_iter _) ?_
  unfold Builtin.«iter»
  refine wpAny_bind (m := someArgs "iter" 1 2 _) (wpAny_of_eq (a := [v]) (by first | rfl | kernel_rfl!) ?_)
  show wpAny _ _ (pyIter v >>= _) _ _ _
  exact wpAny_bind (wpAny_mono h (fun x s' q => wpAny_pure ⟨_, rfl, q⟩) fun _ _ x => x)
theorem bi_next {it : Addr} {T : String} {f : Value} {Q : Value → Shared → Prop} (hT : s.TypeIs (.ref it) T) (hs : typeLookup (.type T) "__next__" = pure (some f))
    (h : wpAny (model prog w) A.in1 (callSpecial? (.ref it) (Str.ofString "__next__")) (fun r s' => ∃ v, r = some v ∧ Q v s') E s) : wpAny (model prog w) A (call (.builtin "next") [.ref it]) Q E s := by
  refine call_function_entry (by decide +kernel) (by decide +kernel) kdk_entry_next (kdk_args_next _) ?_
  unfold Builtin.«next»
  refine wpAny_bind (m := someArgs "next" 1 2 _) (wpAny_of_eq (a := [Value.ref it]) (by first | rfl | kernel_rfl!) ?_)
  dsimp only
  refine wpAny_bind (wpAny_specialOf (name := Str.ofString "__next__") hT hs ?_)
  refine wpAny_ite_split (fun hab => absurd hab (by simp)) (fun _ => ?_)
  refine wpAny_bind (wpAny_mono h (fun r s' hr => ?_) fun _ _ x => x)
  obtain ⟨v, rfl, hq⟩ := hr
  exact wpAny_pure ⟨_, rfl, hq⟩

theorem sp_list {it l : Addr} {i : Nat} {items : Array Value} {x : Value} {Q : Option Value → Shared → Prop} (hit : s.heap.IsListIter it l i) (hl : s.heap.IsList l items) (hx : items[i]? = some x)
    (hQ : ∀ h', h'.IsListIter it l (i + 1) → Heap.SameBut it s.heap h' → Q (some x) { s with heap := h' }) : wpAny (model prog w) A (callSpecial? (.ref it) (Str.ofString "__next__")) Q E s := by
  obtain ⟨o, ho, hc, hd⟩ := id hit
  obtain ⟨ol, hol, _, nl, hdl⟩ := hl
  refine wpAny_callSpecial?_slot (name := Str.ofString "__next__") hit.typeIs slot_listiter_next
    (wpAny_call_entry slot_listiter_next hit.typeIs entry_listiter_next ?_ (args_listiter_next _))
  show wpAny _ _ (field (.ref it) 0 >>= _) _ _ s
  refine wpAny_bind (wpAny_field ho hd (x := .ref l) rfl ?_)
  show wpAny _ _ (if (Value.ref l == Value.none) = true then _ else _) _ _ s
  rw [if_neg (show ¬ ((Value.ref l == Value.none) = true) from Bool.false_ne_true)]
  show wpAny _ _ (field (.ref it) 1 >>= _) _ _ s
  refine wpAny_bind (wpAny_field ho hd (x := .int i 0) rfl ?_)
  show wpAny _ _ (seqItems? (.ref l) >>= _) _ _ s
  refine wpAny_bind (wpAny_seqItems hol hdl ?_)
  simp only [Int.toNat_natCast, hx]
  refine wpAny_bind (wpAny_setField ho hd (by simp) (wpAny_pure ⟨x, rfl, (hQ _ ?_ (Heap.SameBut.update ..))⟩))
  exact ⟨_, Heap.get?_update_self _ ho (Obj.isFreed_of_fields (Obj.data_mapFields hd _)), (Obj.cls_mapFields ..).trans hc, by
    rw [Obj.data_mapFields hd]; simp [rawInt]⟩
theorem sp_tuple {it l : Addr} {i : Nat} {items : Array Value} {x : Value} {Q : Option Value → Shared → Prop} (hit : s.heap.IsTupleIter it l i) (hl : s.heap.IsTuple l items) (hx : items[i]? = some x)
    (hQ : ∀ h', h'.IsTupleIter it l (i + 1) → Heap.SameBut it s.heap h' → Q (some x) { s with heap := h' }) : wpAny (model prog w) A (callSpecial? (.ref it) (Str.ofString "__next__")) Q E s := by
  obtain ⟨o, ho, hc, hd⟩ := id hit
  obtain ⟨ol, hol, _, nl, hdl⟩ := hl
  refine wpAny_callSpecial?_slot (name := Str.ofString "__next__") hit.typeIs PySem.F.slot_tuple_iterator_next
    (wpAny_call_entry PySem.F.slot_tuple_iterator_next hit.typeIs PySem.F.entry_tuple_iterator_next ?_ (PySem.F.args_tuple_iterator_next_1 _))
  show wpAny _ _ (field (.ref it) 0 >>= _) _ _ s
  refine wpAny_bind (wpAny_field ho hd (x := .ref l) rfl ?_)
  show wpAny _ _ (if (Value.ref l == Value.none) = true then _ else _) _ _ s
  rw [if_neg (show ¬ ((Value.ref l == Value.none) = true) from Bool.false_ne_true)]
  show wpAny _ _ (field (.ref it) 1 >>= _) _ _ s
  refine wpAny_bind (wpAny_field ho hd (x := .int i 0) rfl ?_)
  show wpAny _ _ (seqItems? (.ref l) >>= _) _ _ s
  refine wpAny_bind (wpAny_seqItems hol hdl ?_)
  simp only [Int.toNat_natCast, hx]
  refine wpAny_bind (wpAny_setField ho hd (by simp) (wpAny_pure ⟨x, rfl, (hQ _ ?_ (Heap.SameBut.update ..))⟩))
  exact ⟨_, Heap.get?_update_self _ ho (Obj.isFreed_of_fields (Obj.data_mapFields hd _)), (Obj.cls_mapFields ..).trans hc, by
    rw [Obj.data_mapFields hd]; simp [rawInt]⟩
theorem sp_str {it : Addr} {x : Str} {t : Tok} {i c : Nat} {Q : Option Value → Shared → Prop} (hit : s.heap.IsStrIter it "str_ascii_iterator" x t i) (hx : x.cps[i]? = some c)
    (hQ : ∀ h', h'.IsStrIter it "str_ascii_iterator" x t (i + 1) → Heap.SameBut it s.heap h' → Q (some (.str ⟨#[c]⟩ s.toks)) { s with heap := h', toks := s.toks + 1 }) : wpAny (model prog w) A (callSpecial? (.ref it) (Str.ofString "__next__")) Q E s := by
  obtain ⟨o, ho, hc, hd⟩ := id hit
  refine wpAny_callSpecial?_slot (name := Str.ofString "__next__") hit.typeIs PySem.F.slot_str_ascii_iterator_next
    (wpAny_call_entry PySem.F.slot_str_ascii_iterator_next hit.typeIs PySem.F.entry_str_ascii_iterator_next ?_ (PySem.F.args_str_ascii_iterator_next_1 _))
  show wpAny _ _ (field (.ref it) 0 >>= _) _ _ s
  refine wpAny_bind (wpAny_field ho hd (x := .str x t) rfl ?_)
  show wpAny _ _ (field (.ref it) 1 >>= _) _ _ s
  refine wpAny_bind (wpAny_field ho hd (x := .int i 0) rfl ?_)
  simp only [Int.toNat_natCast, hx]
  refine wpAny_bind (wpAny_setField ho hd (by simp) (wpAny_bind (wpAny_mkStr (wpAny_pure ⟨_, rfl, (hQ _ ?_ (Heap.SameBut.update ..))⟩) (by show 1 ≤ sizeLine; decide))))
  exact ⟨_, Heap.get?_update_self _ ho (Obj.isFreed_of_fields (Obj.data_mapFields hd _)), (Obj.cls_mapFields ..).trans hc, by
    rw [Obj.data_mapFields hd]; simp [rawInt]⟩

/-! ### slices, items, sums of lists -/
theorem ev_upto {value : Expr} {up : Expr} {p pos : Pos} {Q : Value → Shared → Prop}
    (h : wpAny (model prog w) A (eval value env) (fun o s₁ => wpAny (model prog w) A (eval up env) (fun vu s₃ => ∃ l items n t, o = .ref l ∧ s₃.heap.IsList l items ∧ items.size ≤ sizeLine ∧ vu = .int (n : Nat) t ∧
      ∀ D s', Mv [] s₃ s' → s₃.heap.get? D = none → s'.heap.IsList D (items.toList.take n).toArray → Q (.ref D) s') E s₁) E s)
    (ht : ∀ o r, letTemporaryGo value o r = pure () := by intro _ _; rfl) :
    wpAny (model prog w) A (eval (.Subscript value (.Slice none (some up) none p) pos) env) Q E s := by
  refine wpAny_Subscript_list_slice (wpAny_mono h (fun o s₁ h₁ => ?_) fun _ _ x => x) ht
  rw [evalPart_none]
  refine wpAny_pure ?_
  show wpAny _ _ (eval up env) _ _ _
  refine wpAny_mono h₁ (fun vu s₃ h₃ => ?_) fun _ _ x => x
  obtain ⟨l, items, n, t, rfl, hl, hz, rfl, hq⟩ := h₃
  refine ⟨l, items, none, some n, rfl, hl, hz, .none, .int _ _, hq _ _ (Mv.ofAll (tk := s₃.toks) fun b o e => Heap.get?_push_of_some _ (Heap.get?_push_of_some _ e)) ?_ ?_⟩
  · exact none_ge (Nat.le_succ _)
  · rw [← slicePick_upto' items n]
    have : s₃.heap.objs.size + 1 = (s₃.heap.push { cls := .type "slice", data := .fields #[.none, .int n t, .none] }).objs.size := by rw [Heap.size_push]
    rw [this]; exact ⟨_, Heap.get?_push_size _ rfl, rfl, 0, rfl⟩
theorem ev_from {value : Expr} {lo : Expr} {p pos : Pos} {Q : Value → Shared → Prop}
    (h : wpAny (model prog w) A (eval value env) (fun o s₁ => wpAny (model prog w) A (eval lo env) (fun vu s₃ => ∃ l items n t, o = .ref l ∧ s₃.heap.IsList l items ∧ items.size ≤ sizeLine ∧ vu = .int (n : Nat) t ∧
      ∀ D s', Mv [] s₃ s' → s₃.heap.get? D = none → s'.heap.IsList D (items.toList.drop n).toArray → Q (.ref D) s') E s₁) E s)
    (ht : ∀ o r, letTemporaryGo value o r = pure () := by intro _ _; rfl) :
    wpAny (model prog w) A (eval (.Subscript value (.Slice (some lo) none none p) pos) env) Q E s := by
  refine wpAny_Subscript_list_slice (wpAny_mono h (fun o s₁ h₁ => ?_) fun _ _ x => x) ht
  show wpAny _ _ (eval lo env) _ _ _
  refine wpAny_mono h₁ (fun vu s₃ h₃ => ?_) fun _ _ x => x
  rw [evalPart_none]
  refine wpAny_pure ?_
  obtain ⟨l, items, n, t, rfl, hl, hz, rfl, hq⟩ := h₃
  refine ⟨l, items, some n, none, rfl, hl, hz, .int _ _, .none, hq _ _ (Mv.ofAll (tk := s₃.toks) fun b o e => Heap.get?_push_of_some _ (Heap.get?_push_of_some _ e)) ?_ ?_⟩
  · exact none_ge (Nat.le_succ _)
  · rw [← slicePick_from' items n]
    have : s₃.heap.objs.size + 1 = (s₃.heap.push { cls := .type "slice", data := .fields #[.int n t, .none, .none] }).objs.size := by rw [Heap.size_push]
    rw [this]; exact ⟨_, Heap.get?_push_size _ rfl, rfl, 0, rfl⟩
theorem add_ll {l b : Addr} {xs ys : Array Value} {Q : Value → Shared → Prop} (hl : s.heap.IsList l xs) (hb : s.heap.IsList b ys) (hsz : xs.size + ys.size ≤ sizeLine)
    (h : ∀ D s', Mv [] s s' → s.heap.get? D = none → s'.heap.IsList D (xs ++ ys) → Q (.ref D) s') : wpAny (model prog w) A (binaryOp .Add (.ref l) (.ref b)) Q E s := by
  obtain ⟨⟨cls, dd, data, sl⟩, ho, hc, n, hd⟩ := id hl
  obtain ⟨⟨cls2, dd2, data2, sl2⟩, ho2, hc2, n2, hd2⟩ := id hb
  simp only at hc hd hc2 hd2
  subst hc hd hc2 hd2
  exact concat_meets ⟨_, ho, rfl⟩ ⟨_, ho2, rfl⟩ noFill_list_add seq_list_add PySem.F.slot_list_add PySem.F.entry_list_add (PySem.F.args_list_add_2 _ _) (list_addW l b xs ys n n2 dd dd2 sl sl2 hsz)
    ⟨ho, ho2, h _ _ (Mv.push s _ s.toks) (fresh_size _) ⟨_, Heap.get?_push_size _ rfl, rfl, 0, rfl⟩⟩
end
end Mine
end

section
open PySem PySem.W PyProof.Rows PySem.Calls
set_option maxRecDepth 100000
set_option linter.unusedVariables false
namespace Mine
/-- the def that stands at a row of the text's top -/
def pick (i : Nat) : DefRec := match PySem.Challenge.pw_aw6014_01.main.body.getD i (.Pass default) with
  | .FunctionDef name args body _ _ _ scope _ _ pos => ⟨name, args, body, scope, pos⟩
  | _ => ⟨"", ⟨[], [], none, [], [], none, []⟩, [], default, default⟩
def dr (i : Nat) : DefRec := pick ([1, 3, 5, 7, 9, 10, 11].getD i 0)
abbrev AtF (h : Heap) (mg : Str → Option Value) (i : Nat) (a : Addr) : Prop := FnAt h mg (dr i).name (dr i).params (dr i).body (dr i).scope a
def nm (s : String) : Str := Str.ofString s
/-- room for k calls deeper -/
structure Rm (A : Around) (k : Nat) : Prop where
  hh : A.handled = none
  dep : A.depth + k < recursionLimit
  un : A.units + 100 + 10 * k < cLine
theorem Rm.deeper {A : Around} {k : Nat} (x : Rm A (k + 1)) (env : Env) : Rm (A.deeper env) k :=
  ⟨x.hh, by have := x.dep; show A.depth + 1 + k < _; omega, by have := x.un; show A.units + 3 + 100 + 10 * k < _; omega⟩
theorem Rm.in1 {A : Around} {k : Nat} (x : Rm A (k + 1)) : Rm A.in1 k :=
  ⟨x.hh, by have := x.dep; show A.depth + k < _; omega, by have := x.un; show A.units + 1 + 100 + 10 * k < _; omega⟩
theorem Rm.less {A : Around} {k j : Nat} (x : Rm A k) (h : j ≤ k) : Rm A j := ⟨x.hh, by have := x.dep; omega, by have := x.un; omega⟩
theorem Rm.room {A : Around} {k : Nat} (x : Rm A k) : A.depth < recursionLimit := by have := x.dep; omega
theorem Rm.u {A : Around} {k : Nat} (x : Rm A k) : A.units + 64 < cLine := by have := x.un; omega
section
variable {prog : Program} {w : World} {A : Around} {E : Value → Shared → Prop} {s : Shared} {mg mb : Str → Option Value}

/-- arbitrary_element(v): what the first draw of a fresh iterator gives -/
theorem arb {a : Addr} {v : Value} {Q : Value → Shared → Prop} {k : Nat} (hr : Rm A (k + 1)) (X : AtF s.heap mg 0 a) (D : Wd mg mb s.heap)
    (h : ∀ A' s₁ (E' : Value → Shared → Prop), A'.handled = none → Mv [] s s₁ → wpAny (model prog w) A' (pyIter v) (fun it s₂ => ∃ I T f, it = .ref I ∧ s₂.TypeIs (.ref I) T ∧ typeLookup (.type T) "__next__" = pure (some f) ∧ Ex s₁ s₂ ∧
      ∀ A'' (E'' : Value → Shared → Prop), A''.handled = none → wpAny (model prog w) A'' (callSpecial? (.ref I) (Str.ofString "__next__")) (fun r s₃ => ∃ x, r = some x ∧ Q x s₃) E'' s₂) E' s₁) :
    wpAny (model prog w) A (call (.ref a) [v]) Q E s := by
  refine call_at (binds := [(nm "iterable", v)]) hr.room X D (fun pm code doc => by rfl) [nm "iterable"] rfl (by decide +kernel) (by decide) fun env s₁ E' hs hc F L M V => ?_
  have V1 : VarAt s₁.heap env (nm "iterable") v := V _ List.mem_cons_self
  have D1 := D.keeps M.all
  refine wpAny_execs_cons ?_
  refine wpAny_Return_some ?_
  refine ev_cB F D1 (Kin.of hs) (kB_of (by decide +kernel) kv_next : kB (dr 0).scope "next" (.builtin "next") = true) (arg1 ?_)
  refine ev_cB F D1 (Kin.of hs) (kB_of (by decide +kernel) kv_iter : kB (dr 0).scope "iter" (.builtin "iter") = true) (arg1 ?_)
  refine ev_name F.kind V1 ?_
  refine bi_iter (wpAny_mono (h _ s₁ _ hr.hh M) (fun it s₂ h₂ => ?_) fun _ _ x => x)
  obtain ⟨I, T, f, rfl, hT, hf, x2, hn⟩ := h₂
  exact bi_next hT hf (wpAny_mono (hn _ _ hr.hh) (fun r s₃ q => q) fun _ _ x => x)

theorem arb_list {a l : Addr} {items : Array Value} {x : Value} {Q : Value → Shared → Prop} {k : Nat} (hr : Rm A (k + 1)) (X : AtF s.heap mg 0 a) (D : Wd mg mb s.heap) (hl : s.heap.IsList l items) (hx : items[0]? = some x)
    (h : ∀ s', Ex s s' → Q x s') : wpAny (model prog w) A (call (.ref a) [.ref l]) Q E s := by
  refine arb hr X D fun A' s₁ E' hA M => ?_
  have hl1 : s₁.heap.IsList l items := hl.at fun o e => M.all _ _ e
  refine wpAny_pyIter_list hl1 ⟨_, "list_iterator", _, rfl, ⟨_, Heap.get?_push_size _ rfl, rfl⟩, slot_listiter_next.lookup, (Mv.push s₁ _ s₁.toks).ex, fun A'' E'' hA' => ?_⟩
  refine sp_list ⟨_, Heap.get?_push_size _ rfl, rfl, rfl⟩ (hl1.push _) hx fun h' _ hs => ⟨x, rfl, h _ ?_⟩
  exact M.ex.trans ⟨fun b o e => hs.extBut b o (Nat.ne_of_lt (Heap.lt_size e)) (Heap.get?_push_of_some _ e), id, rfl⟩
theorem arb_tuple {a l : Addr} {items : Array Value} {x : Value} {Q : Value → Shared → Prop} {k : Nat} (hr : Rm A (k + 1)) (X : AtF s.heap mg 0 a) (D : Wd mg mb s.heap) (hl : s.heap.IsTuple l items) (hx : items[0]? = some x)
    (h : ∀ s', Ex s s' → Q x s') : wpAny (model prog w) A (call (.ref a) [.ref l]) Q E s := by
  refine arb hr X D fun A' s₁ E' hA M => ?_
  have hl1 : s₁.heap.IsTuple l items := hl.at fun o e => M.all _ _ e
  refine wpAny_pyIter_tuple hl1 ⟨_, "tuple_iterator", _, rfl, ⟨_, Heap.get?_push_size _ rfl, rfl⟩, PySem.F.slot_tuple_iterator_next.lookup, (Mv.push s₁ _ s₁.toks).ex, fun A'' E'' hA' => ?_⟩
  refine sp_tuple ⟨_, Heap.get?_push_size _ rfl, rfl, rfl⟩ (hl1.push _) hx fun h' _ hs => ⟨x, rfl, h _ ?_⟩
  exact M.ex.trans ⟨fun b o e => hs.extBut b o (Nat.ne_of_lt (Heap.lt_size e)) (Heap.get?_push_of_some _ e), id, rfl⟩
theorem arb_dict {a d : Addr} {kvs : List (Int × Value)} {k0 : Int} {x : Value} {Q : Value → Shared → Prop} {k : Nat} (hr : Rm A (k + 1)) (X : AtF s.heap mg 0 a) (D : Wd mg mb s.heap) (hs : (d == sysModules) = false) (hd : DictI prog w s.heap d kvs) (hx : kvs[0]? = some (k0, x))
    (h : ∀ s' t, Ex s s' → Q (.int k0 t) s') : wpAny (model prog w) A (call (.ref a) [.ref d]) Q E s := by
  refine arb hr X D fun A' s₁ E' hA M => ?_
  have hd1 : DictI prog w s₁.heap d kvs := hd.at fun o e => M.all _ _ e
  obtain ⟨ep, hat⟩ := hd1.dictAt
  refine wpAny_pyIter_dict hs hat ⟨_, "dict_keyiterator", _, rfl, ⟨_, Heap.get?_push_size _ rfl, rfl⟩, PySem.F.slot_dict_keyiterator_next.lookup, (Mv.push s₁ _ s₁.toks).ex, fun A'' E'' hA' => ?_⟩
  refine kdk_special (knd := intKind prog w) ⟨_, Heap.get?_push_size _ rfl, rfl, rfl⟩ (hat.at' fun o e => Heap.get?_push_of_some _ e) hx fun key h' hk _ hs' => ⟨key, rfl, ?_⟩
  obtain ⟨t, rfl⟩ := Value.isInt_shape hk
  exact h _ _ (M.ex.trans ⟨fun b o e => hs'.extBut b o (Nat.ne_of_lt (Heap.lt_size e)) (Heap.get?_push_of_some _ e), id, rfl⟩)
theorem arb_str {a : Addr} {x : Str} {t : Tok} {c : Nat} {Q : Value → Shared → Prop} {k : Nat} (hr : Rm A (k + 1)) (X : AtF s.heap mg 0 a) (D : Wd mg mb s.heap) (ha : x.cps.all (· < 128) = true) (hx : x.cps[0]? = some c)
    (h : ∀ s' t, Ex s s' → Q (.str ⟨#[c]⟩ t) s') : wpAny (model prog w) A (call (.ref a) [.str x t]) Q E s := by
  refine arb hr X D fun A' s₁ E' hA M => ?_
  refine wpAny_pyIter_ascii ha ⟨_, "str_ascii_iterator", _, rfl, ⟨_, Heap.get?_push_size _ rfl, rfl⟩, PySem.F.slot_str_ascii_iterator_next.lookup, (Mv.push s₁ _ s₁.toks).ex, fun A'' E'' hA' => ?_⟩
  refine sp_str (x := x) (t := t) ⟨_, Heap.get?_push_size _ rfl, rfl, rfl⟩ hx fun h' _ hs => ⟨_, rfl, h _ _ ?_⟩
  exact M.ex.trans ⟨fun b o e => hs.extBut b o (Nat.ne_of_lt (Heap.lt_size e)) (Heap.get?_push_of_some _ e), id, rfl⟩
end
end Mine
end

section
open PySem PySem.W PyProof.Rows PySem.Calls
set_option maxRecDepth 100000
set_option linter.unusedVariables false
namespace Mine
/-- all but W is kept -/
structure ExW (W : List Addr) (s s' : Shared) : Prop where
  kp : ∀ b o, b ∉ W → s.heap.get? b = some o → s'.heap.get? b = some o
  gens : AllBare s.gens → AllBare s'.gens
  os : s'.os = s.os
theorem ExW.refl (W : List Addr) (s : Shared) : ExW W s s := ⟨fun _ _ _ e => e, id, rfl⟩
theorem Ex.w {W : List Addr} {s s' : Shared} (x : Ex s s') : ExW W s s' := ⟨fun b o _ e => x.kp b o e, x.gens, x.os⟩
theorem ExW.trans {W : List Addr} {s s' s'' : Shared} (x : ExW W s s') (y : ExW W s' s'') : ExW W s s'' := ⟨fun b o h e => y.kp b o h (x.kp b o h e), fun h => y.gens (x.gens h), y.os.trans x.os⟩
theorem ExW.ex {W : List Addr} {s₀ s s' : Shared} (y : Ex s₀ s) (x : ExW W s s') (hW : ∀ b ∈ W, s₀.heap.get? b = none) : Ex s₀ s' :=
  ⟨fun b o e => x.kp b o (fun h => by rw [hW b h] at e; cases e) (y.kp b o e), fun h => x.gens (y.gens h), x.os.trans y.os⟩
theorem ExW.nil {s s' : Shared} (x : ExW [] s s') : Ex s s' := ⟨fun b o e => x.kp b o (fun h => nomatch h) e, x.gens, x.os⟩
theorem ExW.wide {W W' : List Addr} {s s' : Shared} (x : ExW W s s') (h : ∀ b ∈ W, b ∈ W' ∨ s.heap.get? b = none) : ExW W' s s' :=
  ⟨fun b o hb e => x.kp b o (fun hm => (h b hm).elim hb fun hn => by rw [e] at hn; cases hn) e, x.gens, x.os⟩
theorem Live.butW {env : Env} {s s' : Shared} {W : List Addr} (x : Live env s.heap) (hW : ∀ b ∈ W, Out env b) (k : ExW W s s') : Live env s'.heap :=
  ⟨let ⟨m, o, es, ep, ho, r⟩ := x.ns; ⟨m, o, es, ep, k.kp _ _ (fun h => (hW _ h).1 rfl) ho, r⟩, fun n c e => let ⟨v, o, ho, hd⟩ := x.cell n c e; ⟨v, o, k.kp _ _ (fun h => (hW _ h).2 n e) ho, hd⟩⟩
theorem VarAt.butW {env : Env} {s s' : Shared} {W : List Addr} {n : Str} {v : Value} (x : VarAt s.heap env n v) (hW : ∀ b ∈ W, Out env b) (k : ExW W s s') : VarAt s'.heap env n v :=
  ⟨x.ok, x.is.imp (fun ⟨a, m, ⟨o, es, ep, ho, r⟩, c⟩ => ⟨a, m, ⟨o, es, ep, k.kp _ _ (fun h => (hW _ h).1 rfl) ho, r⟩, c⟩) fun ⟨a, c, b, o, ho, hd⟩ => ⟨a, c, b, o, k.kp _ _ (fun h => (hW _ h).2 n b) ho, hd⟩⟩
theorem Stored.fsw {env : Env} {n : Str} {v : Value} {s s' s₀ : Shared} {W : List Addr} (F : Fm env s₀.heap) (x : ExW W s₀ s) (st : Stored env n v s s') : ExW W s₀ s' :=
  ⟨fun b o h e => st.fs.kp b o (F.out e) (fun q => nomatch q) (x.kp b o h e), fun g => st.fs.gens (x.gens g), st.fs.os.trans x.os⟩

def WOk (W : List Addr) (h : Heap) : Prop := ∀ b ∈ W, ∃ o fs, h.get? b = some o ∧ o.data = .fields fs
theorem Ns.notW {W : List Addr} {h : Heap} {a : Addr} {m : Str → Option Value} (hW : WOk W h) (n : h.Ns a m) : a ∉ W := fun hm => by
  obtain ⟨o, fs, e, d⟩ := hW a hm
  obtain ⟨o', es, ep, e', d', _⟩ := n
  rw [e] at e'; cases e'; rw [d] at d'; cases d'
theorem Wd.w {W : List Addr} {mg mb : Str → Option Value} {s s' : Shared} (D : Wd mg mb s.heap) (hW : WOk W s.heap) (x : ExW W s s') : Wd mg mb s'.heap :=
  ⟨D.g.at' fun o e => x.kp _ o (Ns.notW hW D.g) e, D.b.at' fun o e => x.kp _ o (Ns.notW hW D.b) e, D.lim.at fun o e => x.kp _ o (let ⟨mc, n, _⟩ := D.lim; Ns.notW hW n) e, D.bi, D.nob⟩
structure WOut (env : Env) : Prop where
  g : Out env mainGlobals
  b : Out env builtinsNs
  c : Out env cStatics
theorem Wd.out {mg mb : Str → Option Value} {h : Heap} {env : Env} (D : Wd mg mb h) (F : Fm env h) : WOut env :=
  ⟨let ⟨o, _, _, e, _⟩ := D.g; F.out e, let ⟨o, _, _, e, _⟩ := D.b; F.out e, let ⟨_, ⟨o, _, _, e, _⟩, _⟩ := D.lim; F.out e⟩
theorem Wd.fs {mg mb : Str → Option Value} {s s' : Shared} {env : Env} (D : Wd mg mb s.heap) (O : WOut env) (x : Fs env [] s s') : Wd mg mb s'.heap :=
  ⟨D.g.at' fun o e => x.kp _ o O.g (fun q => nomatch q) e, D.b.at' fun o e => x.kp _ o O.b (fun q => nomatch q) e, D.lim.at fun o e => x.kp _ o O.c (fun q => nomatch q) e, D.bi, D.nob⟩

def kL (sc : Scope) (n : Str) : Bool := sc.names.lookup n == some .local && okName n
def kC (sc : Scope) (n : Str) : Bool := sc.names.lookup n == some .cell && okName n && ((cellsFrom 0 sc.names []).lookup n).isSome
section
variable {prog : Program} {w : World} {A : Around} {E : Value → Shared → Prop} {s : Shared} {env : Env} {hb : Heap}
/-- x = e, x a local -/
theorem as_l {n : Str} {pos' pos : Pos} {e : Expr} {sc : Scope} {Q : Flow → Shared → Prop} (F : Fm env hb) (hs : Kin env sc) (hk : kL sc n = true)
    (h : wpAny (model prog w) A (eval e env) (fun v s₁ => Live env s₁.heap ∧ ∀ s', Stored env n v s₁ s' → Q .next s') E s)
    (hsw : swapsWith e (some (.Name n pos')) pos.line env = pure false := by rfl) : wpAny (model prog w) A (exec (.Assign [.Name n pos'] e pos) env) Q E s := by
  simp only [kL, Bool.and_eq_true, beq_iff_eq] at hk
  exact wpAny_Assign_Name (wpAny_mono h (fun v s₁ h₁ => st_name F h₁.1 (.inl (hs n _ (by decide) hk.1)) hk.2 fun s' st => h₁.2 s' st) fun _ _ x => x) hsw
/-- x = e, x a cell -/
theorem as_c {n : Str} {pos' pos : Pos} {e : Expr} {sc : Scope} {Q : Flow → Shared → Prop} (F : Fm env hb) (hs : Kin env sc) (hk : sc.names.lookup n = some .cell) (hok : okName n = true) (hc : (env.cells.lookup n).isSome = true)
    (h : wpAny (model prog w) A (eval e env) (fun v s₁ => Live env s₁.heap ∧ ∀ s', Stored env n v s₁ s' → Q .next s') E s)
    (hsw : swapsWith e (some (.Name n pos')) pos.line env = pure false) : wpAny (model prog w) A (exec (.Assign [.Name n pos'] e pos) env) Q E s := by
  exact wpAny_Assign_Name (wpAny_mono h (fun v s₁ h₁ => st_name F h₁.1 (.inr ⟨hs n _ (by decide) hk, hc⟩) hok fun s' st => h₁.2 s' st) fun _ _ x => x) hsw

def pd : DefRec := pick 2
/-- pairwise stands at a -/
structure PwAt (h : Heap) (mg : Str → Option Value) (a : Addr) : Prop where
  glob : mg "pairwise" = some (.ref a)
  is : ∃ o pm code doc T, h.get? a = some o ∧ o.data = .func { docDef pd.name pd.params pd.body pd.scope pm code doc with defaults := .ref T } ∧ h.CodeRec code pd.name ∧ h.IsTuple T #[.bool false]
theorem PwAt.keeps {h h' : Heap} {mg : Str → Option Value} {a : Addr} (x : PwAt h mg a) (k : ∀ b o, h.get? b = some o → h'.get? b = some o) : PwAt h' mg a :=
  ⟨x.glob, let ⟨o, pm, code, doc, T, e, d, c, t⟩ := x.is; ⟨o, pm, code, doc, T, k _ _ e, d, c.keeps k, t.at fun o e => k _ _ e⟩⟩

def rolled (ns : List Int) (cyc : Bool) : List Int := if cyc then ns.drop 1 ++ ns.take 1 else ns.drop 1

theorem pw_call {a : Addr} {v : Value} {mg mb : Str → Option Value} {kw : List (Str × Value)} {cyc : Bool} {ns : List Int} {k : Nat} {Q : Value → Shared → Prop} (hr : Rm A (k + 1)) (X : PwAt s.heap mg a) (D : Wd mg mb s.heap)
    (hkw : (kw = [] ∧ cyc = false) ∨ (kw = [(nm "cyclic", .bool true)] ∧ cyc = true)) (hlen : ns.length ≤ 100) (W : List Addr) (hW : WOk W s.heap)
    (hl : ∀ A' s₁ (E' : Value → Shared → Prop) (Q' : Value → Shared → Prop), A'.handled = none → Mv [] s s₁ → (∀ L s₂, ExW W s₁ s₂ → s₁.heap.get? L = none → LI s₂.heap L ns → Q' (.ref L) s₂) → wpAny (model prog w) A' (call (.type "list") [v]) Q' E' s₁)
    (h : ∀ z s' TI TO i1 i2 l1 l2 xs ys, ExW W s s' → ZipApart z TI TO i1 i2 l1 l2 → ZipSt z TI TO i1 i2 l1 l2 xs ys 0 s'.heap → IntsAre xs.toList ns → IntsAre ys.toList (rolled ns cyc) → (∀ b ∈ [z, TO, i1, i2], b ∈ W ∨ s.heap.get? b = none) → Q (.ref z) s') :
    wpAny (model prog w) A (call (.ref a) [v] kw) Q E s := by
  obtain ⟨o, pm, code, doc, T, ho, hd, hc, hT⟩ := X.is
  obtain ⟨oT, hoT, hcT, nT, hdT⟩ := hT
  have hbind : BindsTo s { docDef pd.name pd.params pd.body pd.scope pm code doc with defaults := .ref T } ⟨[v], kw⟩ [(nm "iterable", v), (nm "cyclic", .bool cyc)] := by
    rcases hkw with ⟨rfl, rfl⟩ | ⟨rfl, rfl⟩
    · exact BindsTo.of_defaults rfl hoT hdT rfl rfl
    · exact BindsTo.of_defaults rfl hoT hdT rfl rfl
  refine call_fn (args := ⟨[v], kw⟩) hr.room ho hd D.lim hc rfl hbind rfl rfl rfl (by show pd.scope.kind = .function; decide +kernel) (by show pd.scope.isCoroutine = false; decide +kernel) (by show pd.scope.isGenerator = false; decide +kernel) (by show bindsOk pd.scope [nm "iterable", nm "cyclic"] = true; decide +kernel) (by show [nm "iterable", nm "cyclic"].Nodup; decide) fun env s₁ E' hs hL0 hcel F L M V => ?_
  have KI : Kin env pd.scope := Kin.of hs
  have V1 : VarAt s₁.heap env (nm "iterable") v := V _ List.mem_cons_self
  have V2 : VarAt s₁.heap env (nm "cyclic") (.bool cyc) := V _ (List.mem_cons_of_mem _ List.mem_cons_self)
  have D1 := D.keeps M.all
  have hWo : ∀ b ∈ W, Out env b := fun b hb => let ⟨o, _, e, _⟩ := hW b hb; F.out e
  refine wpAny_execs_cons ?_
  refine as_l F KI (by decide +kernel) ?_
  refine ev_cT F D1 KI (kB_of (by decide +kernel) kv_list : kB pd.scope "list" (.type "list") = true) (arg1 ?_)
  refine ev_name F.kind V1 ?_
  refine hl _ s₁ _ _ hr.hh M fun L1 s₂ x2 hn2 hI2 => ?_
  have L2 := L.butW hWo x2
  refine ⟨L2, fun s₃ st3 => ?_⟩
  have x3 : ExW W s s₃ := st3.fsw F (M.ex.w.trans x2)
  have hI3 : LI s₃.heap L1 ns := hI2.keeps (st3.stp.seq L2)
  have V23 := st3.vars _ _ (by decide) (V2.butW hWo x2)
  obtain ⟨vs, hlv, hvi⟩ := id hI3
  have hvl : vs.length = ns.length := hvi.length
  refine wpAny_execs_cons ?_
  refine as_l F KI (by decide +kernel) ?_
  refine ev_from (ev_name F.kind st3.var (wpAny_Constant_int ⟨L1, vs.toArray, 1, _, rfl, hlv, by show vs.toArray.size ≤ _; rw [List.size_toArray]; unfold sizeLine; omega, rfl, fun L4 s₄ m4 hn4 hl4 => ?_⟩))
  have x34 : Ex s₃ s₄ := (Ex.toks s₃ _).trans m4.ex
  have Lv4 := st3.live.keeps x34.kp
  refine ⟨Lv4, fun s₅ st5 => ?_⟩
  have x5 : ExW W s s₅ := st5.fsw F (x3.trans x34.w)
  have V25 := st5.vars _ _ (by decide) (V23.keeps x34.kp)
  have Va5 := st5.vars _ _ (by decide) (st3.var.keeps x34.kp)
  have hlv5 : s₅.heap.IsList L1 vs.toArray := by
    obtain ⟨o, e, q⟩ := IsList.seq hlv
    exact hlv.at fun o' e' => by rw [e] at e'; cases e'; exact st5.stp.seq Lv4 _ _ (x34.kp _ _ e) q
  have hl5 : s₅.heap.IsList L4 (vs.toArray.toList.drop 1).toArray := by
    obtain ⟨o, e, q⟩ := IsList.seq hl4
    exact hl4.at fun o' e' => by rw [e] at e'; cases e'; exact st5.stp.seq Lv4 _ _ e q
  have hvd : IntsAre (vs.drop 1) (ns.drop 1) := ints_drop hvi 1
  have D5 : Wd mg mb s₅.heap := D.w hW x5
  refine wpAny_execs_cons ?_
  refine wpAny_Return_some ?_
  refine ev_cT F D5 KI (kB_of (by decide +kernel) kv_zip : kB pd.scope "zip" (.type "zip") = true) (arg_cons ?_)
  refine ev_name F.kind Va5 (arg1 ?_)
  -- the second list
  have fin : ∀ (L6 : Addr) (us : List Value) (s₆ : Shared), Ex s₅ s₆ → s₆.heap.IsList L6 us.toArray → IntsAre us (rolled ns cyc) →
      wpAny (model prog w) (A.deeper env) (call (.type "zip") [.ref L1, .ref L6]) (fun v s' => (fun f s' => Q (match f with | .ret v => v | _ => .none) s') (Flow.ret v) s') E' s₆ := fun L6 us s₆ x56 hl6 hu6 => by
    have hl1 : s₆.heap.IsList L1 vs.toArray := hlv5.at fun o e => x56.kp _ _ e
    refine call_zip_2 hl1 hl6 fun h' hz hp hp3 hi1 hi2 hsz hk => ?_
    have lt1 : L1 < s₆.heap.objs.size := by obtain ⟨o, e, _⟩ := hl1; exact Heap.lt_size e
    have lt2 : L6 < s₆.heap.objs.size := by obtain ⟨o, e, _⟩ := hl6; exact Heap.lt_size e
    have none6 : ∀ b, s₆.heap.objs.size ≤ b → b ∈ W ∨ s.heap.get? b = none := fun b hb => by
      by_cases hbW : b ∈ W
      · exact .inl hbW
      · refine .inr ?_
        cases e : s.heap.get? b with
        | none => rfl
        | some o => exact absurd (Heap.lt_size (x56.kp _ _ (x5.kp _ _ hbW e))) (Nat.not_lt.mpr hb)
    refine h _ _ _ _ _ _ L1 L6 vs.toArray us.toArray ((x5.trans x56.w).trans (Mv.ofAll (s := s₆) (tk := s₆.toks) hk).ex.w) ⟨?_, ?_, ?_, ?_, ?_, ?_, ?_, ?_, ?_, ?_, ?_, ?_, ?_, ?_, ?_, ?_, ?_, ?_⟩
      ⟨hp, hi1, hi2, hl1.at fun o e => hk _ _ e, hl6.at fun o e => hk _ _ e, ⟨_, hp3, rfl⟩, .inl ⟨hz, _, _, hp3⟩⟩ (by simpa using hvi) (by simpa using hu6) (fun b hb => ?_)
    all_goals first | exact Nat.ne_of_lt lt1 | exact Nat.ne_of_lt lt2 | exact Nat.ne_of_lt (Nat.lt_of_lt_of_le lt1 (Nat.le_add_right _ _)) | exact Nat.ne_of_lt (Nat.lt_of_lt_of_le lt2 (Nat.le_add_right _ _)) | (simp only [List.mem_cons, List.not_mem_nil, or_false] at hb; exact none6 b (by rcases hb with rfl | rfl | rfl | rfl <;> first | exact Nat.le_refl _ | exact Nat.le_add_right _ _)) | (show (_ : Nat) ≠ _; intro hq; have := lt1; have := lt2; revert hq; show (_ : Nat) = _ → False; omega) | skip
  refine wpAny_IfExp (wpAny_isTrue_value (ev_name F.kind V25 (wpAny_truthy_bool ?_)))
  cases cyc with
  | false => exact ev_name F.kind st5.var (fin L4 (vs.drop 1) s₅ (Ex.refl _) (by simpa using hl5) hvd)
  | true =>
    refine wpAny_BinOp (ev_name F.kind st5.var ?_)
    refine ev_upto (ev_name F.kind Va5 (wpAny_Constant_int ⟨L1, vs.toArray, 1, _, rfl, hlv5, by show vs.toArray.size ≤ _; rw [List.size_toArray]; unfold sizeLine; omega, rfl, fun L6 s₆ m6 hn6 hl6 => ?_⟩))
    have x56 : Ex s₅ s₆ := (Ex.toks s₅ _).trans m6.ex
    have hl56 : s₆.heap.IsList L4 (vs.toArray.toList.drop 1).toArray := hl5.at fun o e => x56.kp _ _ e
    refine add_ll hl56 hl6 (by simp; unfold sizeLine; omega) fun L7 s₇ m7 hn7 hl7 => ?_
    refine fin L7 (vs.drop 1 ++ vs.take 1) s₇ (x56.trans m7.ex) (by simpa using hl7) ?_
    exact hvd.append (ints_take hvi 1)
end
end Mine
end

section
open PySem PySem.W PyProof.Rows PySem.Calls
set_option maxRecDepth 100000
set_option linter.unusedVariables false
namespace Mine
def IsSetObj (o : Obj) : Prop := ∃ es ep t, o.data = .set es ep t
theorem IsSet.obj {prog : Program} {w : World} {h : Heap} {a : Addr} {l : List Int} (x : IsSet prog w h a l) : ∃ o, h.get? a = some o ∧ IsSetObj o :=
  let ⟨_, o, es, ep, t, ho, _, hd, _⟩ := x; ⟨o, ho, es, ep, t, hd⟩
theorem IsSet.keeps {prog : Program} {w : World} {h h' : Heap} {a : Addr} {l : List Int} (x : IsSet prog w h a l) (k : ∀ o, h.get? a = some o → IsSetObj o → h'.get? a = some o) : IsSet prog w h' a l := by
  obtain ⟨o, ho, hs⟩ := x.obj
  exact x.at fun o' e => by rw [ho] at e; cases e; exact k o ho hs

def grpAdd : List (Int × List Int) → Int → Int → List (Int × List Int)
  | [], k, v => [(k, [v])]
  | (k', l) :: r, k, v => if k' = k then (k', if v ∈ l then l else l ++ [v]) :: r else (k', l) :: grpAdd r k v
def groupsOf (ps : List (Int × Int)) : List (Int × List Int) := ps.foldl (fun gs p => grpAdd gs p.2 p.1) []

def GRow (prog : Program) (w : World) (h : Heap) (g : Int × List Int) (kv : Int × Value) : Prop := kv.1 = g.1 ∧ ∃ S, kv.2 = .ref S ∧ IsSet prog w h S g.2
structure GS (prog : Program) (w : World) (h : Heap) (D : Addr) (gs : List (Int × List Int)) : Prop where
  is : ∃ kvs, DictI prog w h D kvs ∧ Paired (GRow prog w h) gs kvs ∧ (kvs.map (·.2)).Nodup
theorem GS.keeps {prog : Program} {w : World} {h h' : Heap} {D : Addr} {gs : List (Int × List Int)} (x : GS prog w h D gs) (k : ∀ b o, h.get? b = some o → (b = D ∨ IsSetObj o) → h'.get? b = some o) : GS prog w h' D gs :=
  let ⟨kvs, hd, hp, hn⟩ := x.is
  ⟨kvs, hd.at fun o e => k D o e (.inl rfl), Paired.imp (fun g kv ⟨e, S, e', hs⟩ => ⟨e, S, e', hs.keeps fun o e hs => k S o e (.inr hs)⟩) hp, hn⟩

section
variable {prog : Program} {w : World} {A : Around} {E : Value → Shared → Prop} {s : Shared} {env : Env} {hb : Heap}

theorem valueAt_cons {p : Int × Value} {r : List (Int × Value)} {k : Int} : valueAt (p :: r) k = if p.1 = k then some p.2 else valueAt r k := by
  unfold valueAt
  rw [List.find?_cons]
  by_cases h : p.1 = k
  · simp [h]
  · simp [h]
theorem gs_there {h : Heap} {k v : Int} {x : Value} : ∀ {gs : List (Int × List Int)} {kvs : List (Int × Value)}, Paired (GRow prog w h) gs kvs → (kvs.map (·.2)).Nodup → valueAt kvs k = some x →
    ∃ S l, x = .ref S ∧ IsSet prog w h S l ∧ (∃ g ∈ gs, g.2 = l) ∧ ∀ h', IsSet prog w h' S (if v ∈ l then l else l ++ [v]) → (∀ b o, b ≠ S → h.get? b = some o → IsSetObj o → h'.get? b = some o) → Paired (GRow prog w h') (grpAdd gs k v) kvs
  | _, _, .nil, _, hv => by simp [valueAt] at hv
  | g :: gs, kv :: kvs, .cons ⟨e, S, e', hs⟩ t, hn, hv => by
    rw [valueAt_cons] at hv
    simp only [List.map_cons, List.nodup_cons] at hn
    by_cases hk : kv.1 = k
    · rw [if_pos hk] at hv
      cases hv
      refine ⟨S, g.2, e', hs, ⟨g, List.mem_cons_self, rfl⟩, fun h' hs' hkp => ?_⟩
      obtain ⟨k', l⟩ := g
      unfold grpAdd
      rw [if_pos (e.symm.trans hk)]
      refine .cons ⟨e, S, e', hs'⟩ ?_
      have : ∀ {gs : List (Int × List Int)} {kvs : List (Int × Value)}, Paired (GRow prog w h) gs kvs → kv.2 ∉ kvs.map (·.2) → Paired (GRow prog w h') gs kvs := fun hp hnot => by
        induction hp with
        | nil => exact .nil
        | cons f _ ih =>
          simp only [List.map_cons, List.mem_cons, not_or] at hnot
          obtain ⟨f1, S', f2, f3⟩ := f
          refine .cons ⟨f1, S', f2, f3.keeps fun o eo ho => hkp S' o (fun q => hnot.1 ?_) eo ho⟩ (ih hnot.2)
          rw [e', f2, q]
      exact this t hn.1
    · rw [if_neg hk] at hv
      obtain ⟨S', l, r1, r2, ⟨g', hg', r3⟩, r4⟩ := gs_there t hn.2 hv
      refine ⟨S', l, r1, r2, ⟨g', List.mem_cons_of_mem _ hg', r3⟩, fun h' hs' hkp => ?_⟩
      obtain ⟨k', l'⟩ := g
      unfold grpAdd
      rw [if_neg (fun q => hk (e.trans q))]
      refine .cons ⟨e, S, e', hs.keeps fun o eo ho => hkp S o (fun q => hn.1 ?_) eo ho⟩ (r4 h' hs' hkp)
      rw [e', q, ← r1]
      unfold valueAt at hv
      cases hf : kvs.find? (fun kv => kv.1 = k) with
      | none => rw [hf] at hv; cases hv
      | some p =>
        rw [hf] at hv
        simp only [Option.map_some, Option.some.injEq] at hv
        rw [← hv]
        exact List.mem_map_of_mem (List.mem_of_find?_eq_some hf)
theorem gs_new {h : Heap} {k v : Int} {T : Addr} (hT : IsSet prog w h T [v]) : ∀ {gs : List (Int × List Int)} {kvs : List (Int × Value)}, Paired (GRow prog w h) gs kvs → valueAt kvs k = none → Paired (GRow prog w h) (grpAdd gs k v) (kvs ++ [(k, .ref T)])
  | _, _, .nil, hv => .cons ⟨rfl, T, rfl, hT⟩ .nil
  | (k', l) :: gs, kv :: kvs, .cons f t, hv => by
    rw [valueAt_cons] at hv
    by_cases hk : kv.1 = k
    · rw [if_pos hk] at hv; cases hv
    · rw [if_neg hk] at hv
      unfold grpAdd
      rw [if_neg (fun q => hk (f.1.trans q))]
      exact .cons f (gs_new hT t hv)
theorem grpAdd_len (gs : List (Int × List Int)) (k v : Int) : (grpAdd gs k v).length ≤ gs.length + 1 := by
  induction gs with
  | nil => exact Nat.le_refl _
  | cons g r ih =>
    obtain ⟨k', l⟩ := g
    unfold grpAdd
    split
    · simp
    · simp; omega
theorem grpAdd_mem {N : Nat} (gs : List (Int × List Int)) (k v : Int) (h : ∀ g ∈ gs, g.2.length ≤ N) : ∀ g ∈ grpAdd gs k v, g.2.length ≤ N + 1 := by
  induction gs with
  | nil => intro g hg; simp only [grpAdd, List.mem_singleton] at hg; subst hg; simp
  | cons g r ih =>
    obtain ⟨k', l⟩ := g
    intro g hg
    have hl := h (k', l) List.mem_cons_self
    have hr := ih fun g hg => h g (List.mem_cons_of_mem _ hg)
    unfold grpAdd at hg
    split at hg
    · rcases List.mem_cons.mp hg with rfl | hg
      · simp only
        split
        · simp only at hl; omega
        · simp only [List.length_append, List.length_singleton]; simp only at hl; omega
      · have := h g (List.mem_cons_of_mem _ hg); omega
    · rcases List.mem_cons.mp hg with rfl | hg
      · simp only at hl ⊢; omega
      · exact hr g hg
theorem valueAt_none {kvs : List (Int × Value)} {k : Int} (h : valueAt kvs k = none) : kvs.any (fun kv => kv.1 = k) = false := by
  unfold valueAt at h
  simp only [Option.map_eq_none_iff, List.find?_eq_none] at h
  rw [List.any_eq_false]
  exact fun x hx => h x hx

/-- o.name(args) -/
theorem ev_m {o : Expr} {name : Str} {apos pos : Pos} {args : List Expr} {T id : String} {Q : Value → Shared → Prop}
    (pa : PlainAttrs T) (slot : Slot T name id) (hty : typeOf (.builtin id) = pure (.type "method_descriptor"))
    (h : wpAny (model prog w) A (eval o env) (fun ov s₁ => s₁.TypeIs ov T ∧ (∀ a, ov = .ref a → ∃ ob, s₁.heap.get? a = some ob ∧ ob.dict = none) ∧
      wpAny (model prog w) A (spliced (backTo pos (starEach args env))) (fun vs s₂ => wpAny (model prog w) A (call (.builtin id) (ov :: vs)) Q E s₂) E s₁) E s)
    (hbase : attributeBase o name env (eval o env) = eval o env := by rfl)
    (hfew : ((backTo pos (starEach args env)).all (fun x => !x.1) && (backToKw pos (keywordEach [] env)).all (fun x => x.1.isSome)
      && decide (args.length + ([] : List Keyword).length + (if ([] : List Keyword).isEmpty then 0 else 1) < 30)) = true := by rfl)
    (hline : (apos.endLine == pos.line) = true := by rfl)
    (hpl : (backTo pos (starEach args env)).any (·.1) = false := by rfl) :
    wpAny (model prog w) A (eval (.Call (.Attribute o name apos) args [] pos) env) Q E s := by
  refine wpAny_Call_method hbase hfew hline pa slot hty (wpAny_mono h (fun ov s₁ h₁ => ⟨h₁.1, h₁.2.1, ?_⟩) fun _ _ x => x)
  obtain ⟨-, -, h₁⟩ := h₁
  refine Calls.callWith_builtin (first := [ov]) hpl ?_
  cases hse : backTo pos (starEach args env) with
  | nil =>
    rw [hse] at h₁
    refine PySem.evalArgs_none ?_
    have : wpAny (model prog w) A (spliced []) (fun vs s₂ => wpAny (model prog w) A (call (.builtin id) (ov :: vs)) Q E s₂) E s₁ := h₁
    intro Γ p hΓ
    exact (this Γ p hΓ) Γ p hΓ
  | cons x r =>
    rw [hse] at h₁ hpl
    obtain ⟨b, t⟩ := x
    simp only [List.any_cons, Bool.or_eq_false_iff] at hpl
    obtain rfl : b = false := hpl.1
    exact evalArgs_plain h₁
end
end Mine
end

section
open PySem PySem.W PyProof.Rows PySem.Calls
set_option maxRecDepth 100000
set_option linter.unusedVariables false
namespace Mine
def IntRow (p : Int × Int) (kv : Int × Value) : Prop := kv.1 = p.1 ∧ ∃ t, kv.2 = .int p.2 t
def GInv (prog : Program) (w : World) (env : Env) (s : Shared) (ps : List (Int × Int)) (kvs : List (Int × Value)) (d G I : Addr) (ep : Nat) (n : Nat) (s' : Shared) : Prop :=
  ∃ i ok ov gk, i ≤ kvs.length ∧ n = kvs.length + 1 - i ∧ IsItemIter s'.heap I d i kvs.length ep ok ov ∧ DictI prog w s'.heap G gk ∧ Paired (GRow prog w s'.heap) (groupsOf (ps.take i)) gk ∧ (gk.map (·.2)).Nodup ∧
    (∀ kv ∈ gk, ∀ S, kv.2 = .ref S → s.heap.get? S = none) ∧ (∀ g ∈ groupsOf (ps.take i), g.2.length ≤ i) ∧ (groupsOf (ps.take i)).length ≤ i ∧ Live env s'.heap ∧ VarAt s'.heap env (nm "one_to_many") (.ref G) ∧ Ex s s'
section
variable {prog : Program} {w : World} {A : Around} {E : Value → Shared → Prop} {s : Shared} {env : Env} {hb : Heap}

theorem new_dict' {s₂ : Shared} {Q : Value → Shared → Prop} (h : ∀ D s₃, s₂.heap.objs.size ≤ D → Mv [] s₂ s₃ → DictI prog w s₃.heap D [] → Q (.ref D) s₃) : wpAny (model prog w) A newDict Q E s₂ :=
  wpAny_newObj_type (h _ _ (Nat.le_refl _) (Mv.push s₂ _ s₂.toks) (Heap.DictOf.new s₂.heap))

/-- groups(d) -/
theorem groups_call {a d : Addr} {kvs : List (Int × Value)} {ps : List (Int × Int)} {mg mb : Str → Option Value} {k : Nat} {Q : Value → Shared → Prop} (hr : Rm A (k + 1)) (X : AtF s.heap mg 1 a) (D : Wd mg mb s.heap)
    (hds : (d == sysModules) = false) (hd : DictI prog w s.heap d kvs) (hps : Paired IntRow ps kvs) (hlen : ps.length ≤ 20)
    (h : ∀ G s', Ex s s' → s.heap.get? G = none → (G == sysModules) = false → GS prog w s'.heap G (groupsOf ps) → Q (.ref G) s') :
    wpAny (model prog w) A (call (.ref a) [.ref d]) Q E s := by
  refine call_at (binds := [(nm "many_to_one", .ref d)]) hr.room X D (fun pm code doc => by rfl) [nm "many_to_one"] rfl (by decide +kernel) (by decide) fun env s₁ E' hs hc F L M V => ?_
  have KI : Kin env (dr 1).scope := Kin.of hs
  have V1 : VarAt s₁.heap env (nm "many_to_one") (.ref d) := V _ List.mem_cons_self
  have D1 := D.keeps M.all
  have hA : A.handled = none := hr.hh
  have hdo : Out env d := by obtain ⟨o, _, _, e, _⟩ := hd; exact F.out e
  have hWo : WOut env := D.out F
  refine wpAny_execs_cons ?_
  refine as_l F KI (by decide +kernel) ?_
  rw [eval_Dict_empty]
  refine wpAny_bind (wpAny_standAt (new_dict' fun G s₂ hG m₂ hGd => ?_))
  have hGn : s₁.heap.get? G = none := none_ge hG
  have L2 := L.keeps m₂.all
  refine ⟨L2, fun s₃ st3 => ?_⟩
  have hGo : Out env G := L.out hGn
  have hGs : s.heap.get? G = none := old_none M hGn (fun h => nomatch h)
  have hGsys : (G == sysModules) = false := beq_eq_false_iff_ne.mpr fun e => by
    have h1 := D1.sys
    rw [e] at hG
    exact Nat.lt_irrefl _ (Nat.lt_of_lt_of_le h1 hG)
  have x3 : Ex s s₃ := ⟨fun b o e => st3.fs.kp b o (F.out e) (fun q => nomatch q) (m₂.all _ _ (M.all _ _ e)), fun g => st3.fs.gens (m₂.ex.gens (M.ex.gens g)), st3.fs.os.trans (m₂.os.trans M.os)⟩
  have hGd3 : DictI prog w s₃.heap G [] := hGd.at fun o e => st3.fs.kp _ _ hGo (fun q => nomatch q) e
  have V3 : VarAt s₃.heap env (nm "many_to_one") (.ref d) := st3.vars _ _ (by decide) (V1.keeps m₂.all)
  have hd3 : DictI prog w s₃.heap d kvs := hd.at fun o e => x3.kp _ _ e
  refine wpAny_execs_cons ?_
  refine wpAny_For (wpAny_Call_items (knd := intKind prog w) hds hd3 rfl rfl (fun Q' q => ev_name F.kind V3 q) ?_)
  obtain ⟨ep, hat⟩ := hd3.dictAt
  refine wpAny_pyIter_items (knd := intKind prog w) (d := d) (kvs := kvs) (ep := ep) ⟨_, Heap.get?_push_size _ rfl, rfl, rfl⟩ (hat.push _) ?_
  generalize hit0 : ({ s₃ with heap := s₃.heap.push { cls := .type "dict_items", data := .fields #[.ref d] } } : Shared) = s₄
  have m4 : Mv [] s₃ s₄ := by rw [← hit0]; exact Mv.push s₃ _ s₃.toks
  have hat4 : s₄.heap.DictAt (intKind prog w) d kvs ep := hat.at' fun o e => m4.all _ _ e
  show codeAny _ _ (.forLoop _ (.ref s₄.heap.objs.size) _ _ _) _ { s₄ with heap := s₄.heap.push _ }
  generalize hI : s₄.heap.objs.size = I
  have hIn : s₄.heap.get? I = none := none_ge (Nat.le_of_eq hI)
  have hIs : s.heap.get? I = none := (x3.trans m4.ex).none hIn
  have hIo : Out env I := (st3.live.keeps m4.all).out hIn
  have x4 : Ex s s₄ := x3.trans m4.ex
  refine codeAny_forLoop_any (GInv prog w env s ps kvs d G I ep) ?_ (kvs.length + 1)
    ⟨0, .none, .none, [], Nat.zero_le _, rfl, by rw [← hI]; exact Heap.get?_push_size _ rfl, hGd3.at fun o e => Heap.get?_push_of_some _ (m4.all _ _ e), .nil, .nil, by simp, by simp [groupsOf], by simp [groupsOf],
      (st3.live.keeps m4.all).keeps fun b o e => Heap.get?_push_of_some _ e, (st3.var.keeps m4.all).keeps fun b o e => Heap.get?_push_of_some _ e, x4.trans (Mv.push s₄ _ s₄.toks).ex⟩
  rintro n s' ⟨i, ok, ov, gk, hi, rfl, hit, hgd, hgp, hgn, hgnew, hgl, hgll, hL, hV, hx⟩
  have hat' : s'.heap.DictAt (intKind prog w) d kvs ep := by
    obtain ⟨ep0, hat0⟩ := hd.dictAt
    have e1 := hat0.at' (h' := s₃.heap) fun o e => x3.kp _ _ e
    obtain ⟨o, es, ho, hex, hdat, hr⟩ := hat0
    have hs' := hx.kp _ _ ho
    obtain ⟨o2, es2, ho2, hex2, hdat2, hr2⟩ := hat
    have := x3.kp _ _ ho
    rw [ho2] at this; cases this
    exact ⟨o, es2, hs', hex2, hdat2, hr2⟩
  have Wd' : Wd mg mb s'.heap := D.keeps hx.kp
  cases hv : kvs[i]? with
  | none =>
    have hin : i = kvs.length := Nat.le_antisymm hi (by simpa using hv)
    refine wpAny_pyNext_items_end hA hit hat' hv fun h₁ he₁ => wpAny_execs_nil ?_
    have hip : i = ps.length := by rw [hin]; exact hps.length.symm
    have x1 : Ex s { s' with heap := h₁ } := ⟨fun b o e => he₁ b o (fun q => by rw [q, hIs] at e; cases e) (hx.kp b o e), hx.gens, hx.os⟩
    have kp1 : ∀ b o, b ≠ I → s'.heap.get? b = some o → h₁.get? b = some o := fun b o hb e => he₁ b o hb e
    have L1 : Live env h₁ := hL.butOut hIo kp1
    have V1' : VarAt h₁ env (nm "one_to_many") (.ref G) := hV.butOut hIo kp1
    have hGI : G ≠ I := fun e => by
      obtain ⟨o, es, ep', ho, _, hdd, _⟩ := hgd
      rw [e, hit] at ho; cases ho; cases hdd
    have gd1 : DictI prog w h₁ G gk := hgd.at fun o e => kp1 _ _ hGI e
    have gp1 : Paired (GRow prog w h₁) (groupsOf ps) gk := by
      have : groupsOf (ps.take i) = groupsOf ps := by rw [hip, List.take_length]
      rw [this] at hgp
      exact Paired.imp (fun g kv ⟨e, S, e', hs⟩ => ⟨e, S, e', hs.keeps fun o eo ⟨es, ep', t, hd'⟩ => kp1 _ _ (fun q => by rw [q, hit] at eo; cases eo; cases hd') eo⟩) hgp
    refine wpAny_execs_cons ?_
    refine wpAny_Return_some ?_
    refine ev_cT F (D.keeps x1.kp) KI (kB_of (by decide +kernel) kv_dict : kB (dr 1).scope "dict" (.type "dict") = true) (arg1 ?_)
    refine ev_name F.kind V1' ?_
    have hglen : gk.length ≤ sizeLine := by
      have e : groupsOf (ps.take i) = groupsOf ps := by rw [hip, List.take_length]
      rw [e] at hgll
      have := gp1.length
      unfold sizeLine; omega
    refine kt_call_dict (s := { s' with heap := h₁ }) (knd := intKind prog w) hGsys gd1 hglen fun h₂ hd2 hs2 => ?_
    have kp2 : ∀ b o, h₁.get? b = some o → h₂.get? b = some o := fun b o e => hs2.extBut b o (Nat.ne_of_lt (Heap.lt_size e)) (Heap.get?_push_of_some _ e)
    refine h _ _ (x1.trans ⟨kp2, id, rfl⟩) (x1.none (fresh_size _)) ?_ ⟨gk, hd2, Paired.imp (fun g kv ⟨e, S, e', hs⟩ => ⟨e, S, e', hs.keeps fun o eo _ => kp2 _ _ eo⟩) gp1, hgn⟩
    exact beq_eq_false_iff_ne.mpr (Nat.ne_of_gt (D.keeps x1.kp).sys)
  | some kv =>
    obtain ⟨key0, val0⟩ := kv
    have hlt : i < kvs.length := (List.getElem?_eq_some_iff.mp hv).1
    obtain ⟨p, hp, hrow⟩ := Paired.get hps i (key0, val0) hv
    obtain ⟨hk0, tv, hv0⟩ := hrow
    simp only at hk0 hv0
    subst hk0 hv0
    have hIlt : I < s'.heap.objs.size := Heap.lt_size hit
    refine wpAny_pyNext_items_item hit hat' hv fun key h₁ hkey heo ht₁ hz₁ hk₁ => ?_
    obtain ⟨tk, rfl⟩ := Value.isInt_shape hkey
    refine wpAny_letOwnedTupleGo_items heo fun h₂ he₂ hs₂ => ?_
    have ht₂ : h₂.IsTuple s'.heap.objs.size #[.int p.1 tk, .int p.2 tv] := ⟨_, (hs₂.2 _ (Nat.ne_of_gt hIlt)).trans ht₁, rfl, _, rfl⟩
    have hz₂ : h₂.objs.size = s'.heap.objs.size + 1 := hs₂.1.trans hz₁
    refine wpAny_assign_Tuple hA ht₂ rfl rfl fun h₃ hx₃ => ?_
    have hx3' : Heap.ExtBut h₂.objs.size h₂ h₃ := hx₃
    have old₃ : ∀ b o, b < s'.heap.objs.size → h₂.get? b = some o → h₃.get? b = some o := fun b o hb x => hx3' b o (by rw [hz₂]; exact Nat.ne_of_lt (Nat.lt_succ_of_lt hb)) x
    have up₃ : ∀ b o, b ≠ I → s'.heap.get? b = some o → h₃.get? b = some o := fun b o hb x => old₃ b o (Heap.lt_size x) (hs₂.extBut b o hb (hk₁ b o hb x))
    have hit3 : IsItemIter h₃ I d (i + 1) kvs.length ep (.int p.1 tk) (.int p.2 tv) := old₃ _ _ hIlt he₂
    have L3 : Live env h₃ := hL.butOut hIo up₃
    have V3' : VarAt h₃ env (nm "one_to_many") (.ref G) := hV.butOut hIo up₃
    show wpAny _ _ (do holding [Value.int p.2 tv] (assign (.Name (nm "v") _) env (.int p.1 tk)); holding [] (assign (.Name (nm "k") _) env (.int p.2 tv)); pure ()) _ _ _
    refine wpAny_bind (wpAny_holding (wpAny_assign_Name (st_name (s := { s' with heap := h₃ }) F L3 (.inl (KI _ _ (by decide) (by decide +kernel))) (by decide) fun s₅ st5 => ?_)))
    refine wpAny_bind (wpAny_holding (wpAny_assign_Name (st_name F st5.live (.inl (KI _ _ (by decide) (by decide +kernel))) (by decide) fun s₆ st6 => wpAny_pure ?_)))
    have up6 : ∀ b o, b ≠ I → Out env b → s'.heap.get? b = some o → s₆.heap.get? b = some o := fun b o hb ho e => st6.fs.kp b o ho (fun q => nomatch q) (st5.fs.kp b o ho (fun q => nomatch q) (up₃ b o hb e))
    have hit6 : IsItemIter s₆.heap I d (i + 1) kvs.length ep (.int p.1 tk) (.int p.2 tv) := st6.fs.kp _ _ hIo (fun q => nomatch q) (st5.fs.kp _ _ hIo (fun q => nomatch q) hit3)
    have x6 : Ex s s₆ := ⟨fun b o e => up6 b o (fun q => by rw [q, hIs] at e; cases e) (F.out e) (hx.kp b o e), fun g => st6.fs.gens (st5.fs.gens (hx.gens g)), st6.fs.os.trans (st5.fs.os.trans hx.os)⟩
    have hGI : G ≠ I := fun e => by
      obtain ⟨o, es, ep', ho, _, hdd, _⟩ := hgd
      rw [e, hit] at ho; cases ho; cases hdd
    have gd6 : DictI prog w s₆.heap G gk := hgd.at fun o e => up6 _ _ hGI hGo e
    have gp6 : Paired (GRow prog w s₆.heap) (groupsOf (ps.take i)) gk :=
      Paired.imp (fun g kv ⟨e, S, e', hs⟩ => ⟨e, S, e', hs.keeps fun o eo hso => up6 _ _ (fun q => by rw [q, hit] at eo; cases eo; obtain ⟨_, _, _, hd'⟩ := hso; cases hd') (hL.setOut eo hso) eo⟩) hgp
    have Vg6 : VarAt s₆.heap env (nm "one_to_many") (.ref G) := st6.vars _ _ (by decide) (st5.vars _ _ (by decide) V3')
    have Vv6 : VarAt s₆.heap env (nm "v") (.int p.1 tk) := st6.vars _ _ (by decide) st5.var
    have Vk6 : VarAt s₆.heap env (nm "k") (.int p.2 tv) := st6.var
    have L6 := st6.live
    have hgs : groupsOf (ps.take (i + 1)) = grpAdd (groupsOf (ps.take i)) p.2 p.1 := by
      unfold groupsOf
      rw [List.take_add_one, hp]
      simp [List.foldl_append]
    have hpl : ps.length = kvs.length := hps.length
    -- the row is at its end: what stays is the state
    have fin : ∀ (s₉ : Shared) (gk' : List (Int × Value)), IsItemIter s₉.heap I d (i + 1) kvs.length ep (.int p.1 tk) (.int p.2 tv) → DictI prog w s₉.heap G gk' → Paired (GRow prog w s₉.heap) (groupsOf (ps.take (i + 1))) gk' → (gk'.map (·.2)).Nodup →
        (∀ kv ∈ gk', ∀ S, kv.2 = .ref S → s.heap.get? S = none) → Live env s₉.heap → VarAt s₉.heap env (nm "one_to_many") (.ref G) → Ex s s₉ →
        ∃ m, m < kvs.length + 1 - i ∧ GInv prog w env s ps kvs d G I ep m s₉ :=
      fun s₉ gk' h1 h2 h3 h4 h5 h6 h7 h8 => ⟨kvs.length + 1 - (i + 1), by omega, i + 1, _, _, gk', hlt, rfl, h1, h2, h3, h4, h5, by rw [hgs]; exact grpAdd_mem _ _ _ hgl, by rw [hgs]; have := grpAdd_len (groupsOf (ps.take i)) p.2 p.1; omega, h6, h7, h8⟩
    refine wpAny_execs_cons ?_
    refine wpAny_Expr (hi := by unfold interactive; rw [F.kind]; rfl) ?_
    refine ev_m (T := "set") (id := "set.add") PySem.F.plainAttrs_set PySem.F.slot_set_add PySem.F.type_set_add ?_
    refine ev_m (T := "dict") (id := "dict.setdefault") PySem.F.plainAttrs_dict PySem.F.slot_dict_setdefault PySem.F.type_dict_setdefault ?_
    refine ev_name F.kind Vg6 ⟨gd6.typeIs, gd6.mapOf.noDict, arg_cons (ev_name F.kind Vk6 (arg1 ?_))⟩
    refine ev_cT0 F (D.keeps x6.kp) KI (kB_of (by decide +kernel) kv_set : kB (dr 1).scope "set" (.type "set") = true) ?_
    refine set0 fun T s₇ hT m7 ht7 hTset => ?_
    have hTn : s₆.heap.get? T = none := none_ge (Nat.le_of_eq hT)
    have x7 : Ex s s₇ := x6.trans m7.ex
    have gd7 : DictI prog w s₇.heap G gk := gd6.at fun o e => m7.all _ _ e
    have gp7 : Paired (GRow prog w s₇.heap) (groupsOf (ps.take i)) gk := Paired.imp (fun g kv ⟨e, S, e', hs⟩ => ⟨e, S, e', hs.keeps fun o eo _ => m7.all _ _ eo⟩) gp6
    have hit7 := m7.all _ _ hit6
    have L7 := L6.keeps m7.all
    have hgkl : gk.length ≤ 20 := by have := gp7.length; omega
    have hgklz : gk.length ≤ sizeLine := by unfold sizeLine; omega
    have hTs : s.heap.get? T = none := x6.none hTn
    -- S gets its new member
    have addS : ∀ (S : Addr) (l : List Int) (s₈ : Shared) (gk' : List (Int × Value)), Ex s s₈ → Live env s₈.heap → VarAt s₈.heap env (nm "one_to_many") (.ref G) → IsItemIter s₈.heap I d (i + 1) kvs.length ep (.int p.1 tk) (.int p.2 tv) →
        DictI prog w s₈.heap G gk' → IsSet prog w s₈.heap S l → (gk'.map (·.2)).Nodup → (∀ kv ∈ gk', ∀ S, kv.2 = .ref S → s.heap.get? S = none) → s.heap.get? S = none →
        (∀ h', IsSet prog w h' S (if p.1 ∈ l then l else l ++ [p.1]) → (∀ b o, b ≠ S → s₈.heap.get? b = some o → IsSetObj o → h'.get? b = some o) → Paired (GRow prog w h') (groupsOf (ps.take (i + 1))) gk') →
        ∀ h', Heap.SameBut S s₈.heap h' → IsSet prog w h' S (if p.1 ∈ l then l else l ++ [p.1]) → ∃ m, m < kvs.length + 1 - i ∧ GInv prog w env s ps kvs d G I ep m { s₈ with heap := h', toks := s₈.toks + 1 } :=
      fun S l s₈ gk' h1 h2 h4 h5 h6 h7 h9 h10 h11 h12 h' hs' hS' => by
        have kS : ∀ b o, b ≠ S → s₈.heap.get? b = some o → h'.get? b = some o := fun b o hb e => hs'.extBut b o hb e
        obtain ⟨oS, eS, qS⟩ := h7.obj
        have hSo : Out env S := h2.setOut eS qS
        refine fin { s₈ with heap := h', toks := s₈.toks + 1 } gk' (kS _ _ (fun q => ?_) h5) (h6.at fun o e => kS _ _ (fun q => ?_) e) (h12 h' hS' fun b o hb e _ => kS b o hb e) h9 h10 (h2.butOut hSo kS) (h4.butOut hSo kS) ⟨fun b o e => kS b o (fun q => by rw [q, h11] at e; cases e) (h1.kp b o e), h1.gens, h1.os⟩
        · rw [← q, h5] at eS; cases eS; obtain ⟨_, _, _, hd'⟩ := qS; cases hd'
        · obtain ⟨o', es, ep', ho', _, hdd, _⟩ := h6
          rw [← q, ho'] at eS; cases eS; obtain ⟨_, _, _, hd'⟩ := qS; rw [hdd] at hd'; cases hd'
    refine call_meetsIn PySem.F.slot_dict_setdefault gd7.typeIs PySem.F.entry_dict_setdefault (PySem.F.args_dict_setdefault_3 _ _ _) (kt_meets_setdefault (intKind prog w) (k := p.2) G (intKind_is _ _ _ _) hGsys (.ref T)) ⟨gk, gd7, hgklz, fun v hval => ?_, fun hnone h' hd' hs' => ?_⟩
    · obtain ⟨S, l, rfl, hSet, ⟨g, hg, rfl⟩, hnext⟩ := gs_there (v := p.1) gp7 hgn hval
      have hSn : s.heap.get? S = none := by
        unfold valueAt at hval
        cases hf : gk.find? (fun kv => kv.1 = p.2) with
        | none => rw [hf] at hval; cases hval
        | some q =>
          rw [hf] at hval
          simp only [Option.map_some, Option.some.injEq] at hval
          exact hgnew q (List.mem_of_find?_eq_some hf) S hval
      refine ⟨hSet.2.typeIs, hSet.2.noDict, arg1 (ev_name F.kind (Vv6.keeps m7.all) (set_add (s := { s₇ with toks := s₇.toks + 1 }) hSet (by have := hgl g hg; unfold scanBound; omega) fun h' hs' hS' => wpAny_execs_nil ?_))⟩
      exact addS S g.2 { s₇ with toks := s₇.toks + 1 } gk (x7.trans (Ex.toks _ _)) L7 (Vg6.keeps m7.all) hit7 gd7 hSet hgn hgnew hSn (fun h' h1 h2 => by rw [hgs]; exact hnext h' h1 h2) h' hs' hS'
    · have hnew : stored gk p.2 (.ref T) = gk ++ [(p.2, .ref T)] := by
        unfold stored
        rw [if_neg (by rw [valueAt_none hnone]; simp)]
      rw [hnew] at hd'
      have kG : ∀ b o, b ≠ G → s₇.heap.get? b = some o → h'.get? b = some o := fun b o hb e => hs'.extBut b o hb e
      obtain ⟨oG, esG, epG, eG, _, hdG, _⟩ := id gd7
      have setNe : ∀ {b o}, s₇.heap.get? b = some o → IsSetObj o → b ≠ G := fun e ⟨_, _, _, hd⟩ q => by rw [q, eG] at e; cases e; rw [hdG] at hd; cases hd
      have hTset' : IsSet prog w h' T [] := hTset.keeps fun o e hs => kG _ _ (setNe e hs) e
      refine ⟨hTset'.2.typeIs, hTset'.2.noDict, arg1 (ev_name F.kind ((Vv6.keeps m7.all).butOut hGo kG) (set_add (s := { s₇ with heap := h', toks := s₇.toks + 1 }) hTset' (by unfold scanBound; simp) fun h3 hs3 hS3 => wpAny_execs_nil ?_))⟩
      refine addS T [] { s₇ with heap := h', toks := s₇.toks + 1 } (gk ++ [(p.2, .ref T)]) ⟨fun b o e => kG b o (fun q => by rw [q, hGs] at e; cases e) (x7.kp b o e), x7.gens, x7.os⟩ (L7.butOut hGo kG) ((Vg6.keeps m7.all).butOut hGo kG)
        (kG _ _ (Ne.symm hGI) hit7) hd' hTset' ?_ ?_ hTs (fun h'' h1 h2 => ?_) h3 hs3 hS3
      · rw [List.map_append, List.nodup_append]
        refine ⟨hgn, by simp, fun a ha b hb => ?_⟩
        simp only [List.map_cons, List.map_nil, List.mem_singleton] at hb
        subst hb
        intro q
        subst q
        obtain ⟨kv, hkv, e⟩ := List.mem_map.mp ha
        obtain ⟨g, hg, _, S, e', hSS⟩ := Paired.mem gp6 kv hkv
        rw [e] at e'
        cases e'
        obtain ⟨o, eo, _⟩ := hSS.obj
        rw [hTn] at eo; cases eo
      · intro kv hkv S e
        rcases List.mem_append.mp hkv with hkv | hkv
        · exact hgnew kv hkv S e
        · rw [List.mem_singleton] at hkv; subst hkv; cases e; exact hTs
      · rw [hgs]
        have h1' : IsSet prog w h'' T [p.1] := by simpa using h1
        exact gs_new h1' (Paired.imp (fun g kv ⟨e, S, e', hs⟩ => ⟨e, S, e', hs.keeps fun o eo hso => h2 _ _ (fun q => by rw [q, hTn] at eo; cases eo) (kG _ _ (setNe (m7.all _ _ eo) hso) (m7.all _ _ eo)) hso⟩) gp6) hnone
end
end Mine
end

section
open PySem PySem.W PyProof.Rows PySem.Calls
open Sem (wp)
set_option maxRecDepth 100000
set_option linter.unusedVariables false
namespace Mine
section
variable {M : Model} {A : Around} {R : GenEnd} {Y : Protocol} {n : Nat} {s₀ : Shared} {c : Code} {fs : List Frame} {s : Shared} {env : Env}
  {K : Flow → Sem Fin} {H : Value → Sem Fin} {gd : Bool → Bool} {lv : List Value → List Value}

theorem seg_bindW {α β : Type} {m : Sem α} {f : α → Sem β} {K : β → Sem Fin}
    (h : wpAny M (A.over c fs) m (fun a s' => Seg M A R Y n s₀ c ((f a).wrap K H gd lv) fs s') (fun x s' => Seg M A R Y n s₀ c (H x) fs s') s) :
    Seg M A R Y n s₀ c ((m >>= f).wrap K H gd lv) fs s := by
  rw [Sem.bind_eq_wrap', Sem.wrap_wrap]
  exact seg_wrap h

theorem seg_If {test : Expr} {body orelse : List Stmt} {pos : Pos}
    (h : wpAny M (A.over c fs) (isTrue test env (eval test env)) (fun b s' => if b = true then Seg M A R Y n s₀ c ((execs body env).wrap K H gd lv) fs s' else Seg M A R Y n s₀ c ((execs orelse env).wrap K H gd lv) fs s')
      (fun x s' => Seg M A R Y n s₀ c (H x) fs s') s) :
    Seg M A R Y n s₀ c ((exec (.If test body orelse pos) env).wrap K H gd lv) fs s := by
  rw [exec_If]
  refine seg_bindW (wpAny_standAt (seg_bindW (wpAny_mono h (fun b s' hb => ?_) fun _ _ x => x)))
  cases b <;> exact hb

theorem seg_For {target iter : Expr} {body orelse : List Stmt} {pos : Pos}
    (h : wpAny M (A.over c fs) (eval iter env) (fun x s₁ => wpAny M (A.over c fs) (pyIter x) (fun it s₂ =>
      ∀ p, Seg M A R Y n s₀ (.forLoop target it body orelse env) (M.den (.forLoop target it body orelse env))
      (.ret (fun r => ((match r with | .ok f => (.pure f : Sem Flow) | .error e => .raise e).onRaise fun (x : Value) => do
        if (← field x 1) == Value.none then unsupported "frame.own-activation:exception-without-traceback"
        setFlight x env.frame).wrap K H gd lv) none (gd false) (lv []) c p [] :: fs) s₂) (fun x s' => Seg M A R Y n s₀ c (H x) fs s') s₁) (fun x s' => Seg M A R Y n s₀ c (H x) fs s') s)
    (hs : ∀ x, foldedSetIterable iter env x = pure x := by intro _; rfl) :
    Seg M A R Y n s₀ c ((exec (.For target iter body orelse pos) env).wrap K H gd lv) fs s := by
  rw [exec_For]
  refine seg_bindW (wpAny_standAt (seg_bindW (wpAny_mono h (fun x s₁ h₁ => ?_) fun _ _ x => x)))
  refine seg_bindW (wpAny_of_eq (hs x) (seg_bindW (wpAny_standAt (seg_bindW (wpAny_holding (wpAny_mono h₁ (fun it s₂ h₂ => ?_) fun _ _ x => x))))))
  exact seg_call h₂
end

section
variable {prog : Program} {w : World} {A : Around} {R : GenEnd} {Y : Protocol} {n : Nat} {s₀ : Shared} {fs : List Frame} {s : Shared} {env : Env}

theorem seg_block_nil (h : Seg (model prog w) A R Y n s₀ (.block [] env) (.pure (.done .next)) fs s) : Seg (model prog w) A R Y n s₀ (.block [] env) ((model prog w).den (.block [] env)) fs s := by
  exact h

def forK (target : Expr) (it : Value) (body orelse : List Stmt) (env : Env) : Flow → Sem Fin := fun f => match f with
  | .next | .cont => .pure (.again (.forLoop target it body orelse env))
  | .brk => .pure (.done .next)
  | .ret v => .pure (.done (.ret v))
def noteH (env : Env) : Value → Sem Fin := fun e => (do noteFrame e env; theTreesLotGoes e : Sem Unit).wrap (fun _ => .raise e) .raise id id

theorem seg_forLoop {target : Expr} {it : Value} {body orelse : List Stmt}
    (h : wpAny (model prog w) (A.over (.forLoop target it body orelse env) fs) (pyNext it) (fun r s' => match r with
        | none => Seg (model prog w) A R Y n s₀ (.block orelse env) ((model prog w).den (.block orelse env)) fs s'
        | some v => wpAny (model prog w) (A.over (.forLoop target it body orelse env) fs) (assign target env v) (fun _ s₂ =>
            Seg (model prog w) A R Y n s₀ (.forLoop target it body orelse env) ((execs body env).wrap (forK target it body orelse env) (noteH env) id id) fs s₂)
            (fun x s' => Seg (model prog w) A R Y n s₀ (.forLoop target it body orelse env) (noteH env x) fs s') s')
      (fun x s' => wpAny (model prog w) (A.over (.forLoop target it body orelse env) fs) (standAt { target.pos with line := 0 }) (fun _ s'' => Seg (model prog w) A R Y n s₀ (.forLoop target it body orelse env) (noteH env x) fs s'') (fun x s' => Seg (model prog w) A R Y n s₀ (.forLoop target it body orelse env) (noteH env x) fs s') s') s)
    (hL : ∀ v, letOwnedTupleGo target it v = pure ()) :
    Seg (model prog w) A R Y n s₀ (.forLoop target it body orelse env) ((model prog w).den (.forLoop target it body orelse env)) fs s := by
  show Seg _ A R Y n s₀ _ ((forTurn target it body orelse env).onRaise (fun x => do noteFrame x env; theTreesLotGoes x)) fs s
  unfold forTurn
  rw [Sem.onRaise_eq_wrap]
  rw [Sem.wrap_congr (K' := Sem.pure) (H' := noteH env) _ _ _ (fun _ => rfl) (fun e => by
    unfold noteH
    exact Sem.bind_eq_wrap _ _)]
  refine seg_bindW (wpAny_standAt (seg_bindW (wpAny_onRaise (wpAny_mono h (fun r s' hr => ?_) fun x s' hx => hx))))
  cases r with
  | none => exact seg_again rfl hr
  | some v =>
    refine seg_bindW (wpAny_of_eq (hL v) (seg_bindW (wpAny_mono hr (fun _ s₂ h₂ => ?_) fun _ _ x => x)))
    rw [Sem.bind_eq_wrap', Sem.wrap_wrap]
    exact Eq.mpr (congrArg (fun t => Seg (model prog w) A R Y n s₀ _ t fs s₂) (Sem.wrap_congr (execs body env) id id (fun f => by cases f <;> rfl) (fun e => rfl))) h₂
end
end Mine
end

section
open PySem PySem.W PyProof.Rows PySem.Calls
open Sem (wp)
set_option maxRecDepth 100000
set_option linter.unusedVariables false
namespace Mine

/-- what a generator's run leaves as it was: what stood at the base but for wr, and every tuple -/
structure MvD (dom : Addr → Prop) (wr : List Addr) (s s' : Shared) : Prop where
  kp : ∀ b o, dom b → b ∉ wr → s.heap.get? b = some o → s'.heap.get? b = some o
  tup : ∀ b o, s.heap.get? b = some o → o.cls = .type "tuple" → IsSeq o → s'.heap.get? b = some o
  gens : s'.gens = s.gens
  drawn : s'.drawn = s.drawn
  os : s'.os = s.os
  toks : s.toks ≤ s'.toks
theorem MvD.refl (dom : Addr → Prop) (wr : List Addr) (s : Shared) : MvD dom wr s s := ⟨fun _ _ _ _ e => e, fun _ _ e _ _ => e, rfl, rfl, rfl, Nat.le_refl _⟩
theorem MvD.trans {dom : Addr → Prop} {wr : List Addr} {s s' s'' : Shared} (x : MvD dom wr s s') (y : MvD dom wr s' s'') : MvD dom wr s s'' :=
  ⟨fun b o h1 h2 e => y.kp b o h1 h2 (x.kp b o h1 h2 e), fun b o e h1 h2 => y.tup b o (x.tup b o e h1 h2) h1 h2, y.gens.trans x.gens, y.drawn.trans x.drawn, y.os.trans x.os, Nat.le_trans x.toks y.toks⟩

def GR (dom : Addr → Prop) (wr : List Addr) : GenEnd := fun n s₀ r s₁ => r = .ok (.ret .none) ∧ n = 0 ∧ MvD dom wr s₀ s₁
/-- what is told of the generator's state may be told again when a list of its reader's has changed -/
def JStab (J : Heap → Prop) (dom : Addr → Prop) (fp : List Addr) : Prop := ∀ h h' S, J h → dom S → S ∉ fp → (∃ o, h'.get? S = some o) → (∀ b o, b ≠ S → h.get? b = some o → h'.get? b = some o) → J h'
def GY (dom : Addr → Prop) (wr fp : List Addr) (N : Nat) (P : Nat → Value → Heap → Prop) (Inf : Nat → Heap → Prop) : Protocol := fun m s₀ v s' kap =>
  m < N ∧ P (N - 1 - m) v s'.heap ∧ MvD dom wr s₀ s' ∧ ∃ J : Heap → Prop, J s'.heap ∧ JStab J dom fp ∧ (∀ h, J h → Inf (N - m) h) ∧ ∀ s'' : Shared, J s''.heap → kap (.send .none) s''

structure GenSt (prog : Program) (w : World) (A : Around) (dom : Addr → Prop) (wr fp : List Addr) (N : Nat) (P : Nat → Value → Heap → Prop) (Inf : Nat → Heap → Prop) (a : Addr) (g : Nat) (i : Nat) (s : Shared) : Prop where
  gen : s.heap.IsGen a g
  lim : s.heap.NoLimit
  da : dom a ∧ a ∉ wr
  dc : dom cStatics ∧ cStatics ∉ wr
  go : ∃ gs, s.gens[g]? = some gs ∧ ∃ J : Heap → Prop, J s.heap ∧ JStab J dom fp ∧ (∀ h, J h → Inf i h) ∧ ∀ s'' : Shared, J s''.heap → gs.Goes (model prog w) A.in1 (GR dom wr) (GY dom wr fp N P Inf) (N - i) (.send .none) s''

/-- a step of the generator, as its reader sees it -/
structure MvG (dom : Addr → Prop) (wr : List Addr) (g : Nat) (s s' : Shared) : Prop where
  kp : ∀ b o, dom b → b ∉ wr → s.heap.get? b = some o → s'.heap.get? b = some o
  tup : ∀ b o, s.heap.get? b = some o → o.cls = .type "tuple" → IsSeq o → s'.heap.get? b = some o
  gens : GenOnlyQ g s.gens s'.gens
  drawn : s'.drawn = s.drawn
  os : s'.os = s.os
  toks : s.toks ≤ s'.toks
theorem MvG.refl (dom : Addr → Prop) (wr : List Addr) (g : Nat) (s : Shared) : MvG dom wr g s s := ⟨fun _ _ _ _ e => e, fun _ _ e _ _ => e, .inl rfl, rfl, rfl, Nat.le_refl _⟩
theorem MvG.trans {dom : Addr → Prop} {wr : List Addr} {g : Nat} {s s' s'' : Shared} (x : MvG dom wr g s s') (y : MvG dom wr g s' s'') : MvG dom wr g s s'' :=
  ⟨fun b o h1 h2 e => y.kp b o h1 h2 (x.kp b o h1 h2 e), fun b o e h1 h2 => y.tup b o (x.tup b o e h1 h2) h1 h2, x.gens.trans y.gens, y.drawn.trans x.drawn, y.os.trans x.os, Nat.le_trans x.toks y.toks⟩

section
variable {prog : Program} {w : World} {A : Around} {E : Value → Shared → Prop} {s : Shared}
variable {dom : Addr → Prop} {wr fp : List Addr} {N : Nat} {P : Nat → Value → Heap → Prop} {Inf : Nat → Heap → Prop} {a : Addr} {g : Nat} {i : Nat}

theorem gen_wake_item {Q : Value → Shared → Prop} (hh : A.handled = none) (hroom : A.depth < recursionLimit) (st : GenSt prog w A dom wr fp N P Inf a g i s) (hi : i < N)
    (hQ : ∀ v s', P i v s'.heap → GenSt prog w A dom wr fp N P Inf a g (i + 1) s' → MvG dom wr g s s' → Q v s') :
    wpAny (model prog w) A.in1 (Builtin.Generator.genWake (.ref a) (.send .none)) (fun fin s' => ∃ v, fin = .done (.ret v) ∧ Q v s') E s := by
  obtain ⟨hg, hl, hda, hdc, gs, hgs, J, hj, hJs, hJi, hgo⟩ := st
  obtain ⟨m, hm⟩ : ∃ m, N - i = m + 1 := ⟨N - i - 1, by omega⟩
  rw [hm] at hgo
  unfold Builtin.Generator.genWake
  refine wpAny_bind (wpAny_holding (wpAny_genNumber hg (wpAny_bind (wpAny_genState hgs ?_))))
  have hgo' := hgo (s.setGen g .running) hj
  cases gs with
  | running => exact hgo'.elim
  | finished => exact hgo'.elim
  | _ =>
    refine wpAny_bind (wpAny_roomToWake hl hroom ?_)
    show wpAny _ A.in1 (.resume g (.send .none) [] _) _ _ s
    refine wpAny_resumeQ hgs hgo' (fun x s₁ hx => ?_) (fun v s₁ gs' hb hv => ?_)
    · exact absurd hx.2.1 (Nat.succ_ne_zero m)
    · obtain ⟨hmN, hP, hmv, J', hj', hJs', hJi', hkap⟩ := hv
      have e1 : N - 1 - (m + 1 - 1) = i := by omega
      have e2 : N - (m + 1 - 1) = i + 1 := by omega
      rw [e1] at hP
      rw [e2] at hJi'
      refine wpAny_pure ⟨v, rfl, hQ v _ hP ⟨?_, ?_, hda, hdc, gs', ?_, J', hj', hJs', hJi', fun s'' hs'' => ?_⟩ ⟨hmv.kp, hmv.tup, ?_, hmv.drawn, hmv.os, hmv.toks⟩⟩
      · obtain ⟨o, nm', qn, ho, r⟩ := hg
        exact ⟨o, nm', qn, hmv.kp _ _ hda.1 hda.2 ho, r⟩
      · exact hl.at fun o e => hmv.kp _ o hdc.1 hdc.2 e
      · show (s₁.setGen g gs').gens[g]? = some gs'
        refine setGen_self (gs := .running) ?_
        rw [hmv.gens]; exact setGen_self hgs
      · have e3 : N - (i + 1) = m := by omega
        rw [e3]
        exact hkap s'' hs''
      · refine GenOnlyQ.of ?_ (setGen_self (gs := .running) (by rw [hmv.gens]; exact setGen_self hgs)) hb
        have h1 := GenOnly.setGen s g .running
        have h2 := GenOnly.setGen s₁ g gs'
        rw [hmv.gens] at h2
        exact h1.trans h2

theorem gen_wake_end {Q : Fin → Shared → Prop} (hh : A.handled = none) (hroom : A.depth < recursionLimit) (st : GenSt prog w A dom wr fp N P Inf a g N s)
    (hE : ∀ s' e, MvG dom wr g s s' → s'.TypeIs (.ref e) "StopIteration" → E (.ref e) s') :
    wpAny (model prog w) A.in1 (Builtin.Generator.genWake (.ref a) (.send .none)) Q E s := by
  obtain ⟨hg, hl, hda, hdc, gs, hgs, J, hj, hJs, hJi, hgo⟩ := st
  rw [Nat.sub_self] at hgo
  unfold Builtin.Generator.genWake
  refine wpAny_bind (wpAny_holding (wpAny_genNumber hg (wpAny_bind (wpAny_genState hgs ?_))))
  have hgo' := hgo (s.setGen g .running) hj
  cases gs with
  | running => exact hgo'.elim
  | finished => exact hgo'.elim
  | _ =>
    refine wpAny_bind (wpAny_roomToWake hl hroom ?_)
    show wpAny _ A.in1 (.resume g (.send .none) [] _) _ _ s
    refine wpAny_resumeQ hgs hgo' (fun x s₁ hx => ?_) (fun v s₁ gs' hb hv => ?_)
    · obtain ⟨rfl, -, hmv⟩ := hx
      show wpAny _ _ (newExc (.type "StopIteration") [] >>= _) _ _ _
      refine wpAny_bind ?_
      simp only [newExc, newTuple]
      refine wpAny_bind (wpAny_newObj_type ?_ (by size_fits))
      refine wpAny_bind (m := firstArgMember _ _) (wpAny_of_eq (a := Value.none) (by first | rfl | (simp only [firstArgMember]; rfl)) ?_)
      refine wpAny_newObj_type ?_ (by size_fits)
      simp only [raiseNew]
      refine wpAny_bind (wpAny_bind (wpAny_handled ?_))
      first | rw [show A.in1.handled = none from hh] | rw [hh]
      refine wpAny_throw ?_
      refine hE _ _ ⟨fun b o h1 h2 e => Heap.get?_push_of_some _ (Heap.get?_push_of_some _ (hmv.kp b o h1 h2 e)), fun b o e h1 h2 => Heap.get?_push_of_some _ (Heap.get?_push_of_some _ (hmv.tup b o e h1 h2)), ?_, hmv.drawn, hmv.os, hmv.toks⟩ ⟨_, Heap.get?_push_size _ rfl, rfl⟩
      refine GenOnlyQ.of ?_ (setGen_self (gs := .running) (by rw [hmv.gens]; exact setGen_self hgs)) (y := .finished) rfl
      have h1 := GenOnly.setGen s g .running
      have h2 := GenOnly.setGen s₁ g .finished
      rw [hmv.gens] at h2
      exact h1.trans h2
    · obtain ⟨_, _, _, J', hj', _, _, hk⟩ := hv
      exact False.elim (hk s₁ hj')

theorem sp_gen {Q : Option Value → Shared → Prop} (hh : A.handled = none) (hroom : A.depth < recursionLimit) (st : GenSt prog w A dom wr fp N P Inf a g i s) (hi : i < N)
    (hQ : ∀ v s', P i v s'.heap → GenSt prog w A dom wr fp N P Inf a g (i + 1) s' → MvG dom wr g s s' → Q (some v) s') : wpAny (model prog w) A (callSpecial? (.ref a) (Str.ofString "__next__")) Q E s := by
  refine wpAny_callSpecial?_slot (name := Str.ofString "__next__") st.gen.typeIs slot_gen_next (wpAny_call_entry slot_gen_next st.gen.typeIs entry_gen_next ?_ (args_gen_next _))
  show wpAny _ A.in1 (Builtin.Generator.genWake (.ref a) (.send .none)) _ _ s
  exact gen_wake_item hh hroom st hi fun v s' h1 h2 h3 => hQ v s' h1 h2 h3
theorem nx_gen_item {Q : Option Value → Shared → Prop} (hh : A.handled = none) (hroom : A.depth < recursionLimit) (st : GenSt prog w A dom wr fp N P Inf a g i s) (hi : i < N)
    (hQ : ∀ v s', P i v s'.heap → GenSt prog w A dom wr fp N P Inf a g (i + 1) s' → MvG dom wr g s s' → Q (some v) s') : wpAny (model prog w) A (pyNext (.ref a)) Q E s := by
  unfold pyNext
  exact wpAny_bind (wpAny_attempt (sp_gen hh hroom st hi fun v s' h1 h2 h3 => wpAny_pure (hQ v s' h1 h2 h3)))
theorem nx_gen_end {Q : Option Value → Shared → Prop} (hh : A.handled = none) (hroom : A.depth < recursionLimit) (st : GenSt prog w A dom wr fp N P Inf a g N s)
    (hQ : ∀ s', MvG dom wr g s s' → Q none s') : wpAny (model prog w) A (pyNext (.ref a)) Q E s := by
  unfold pyNext
  refine wpAny_bind (wpAny_attempt (wpAny_callSpecial?_slot (name := Str.ofString "__next__") st.gen.typeIs slot_gen_next (wpAny_call_entry slot_gen_next st.gen.typeIs entry_gen_next ?_ (args_gen_next _))))
  show wpAny _ A.in1 (Builtin.Generator.genWake (.ref a) (.send .none)) _ _ s
  refine gen_wake_end hh hroom st fun s' e hm hT => ?_
  refine wpAny_bind (wpAny_isInstance (T := "StopIteration") (b := true) hT isSubtype_stop ?_)
  exact wpAny_pure (hQ s' hm)
end
end Mine
end

section
open PySem PySem.W PyProof.Rows PySem.Calls
set_option maxRecDepth 100000
set_option linter.unusedVariables false
namespace Mine
theorem MvG.wide {dom : Addr → Prop} {wr wr' : List Addr} {g : Nat} {s s' : Shared} (x : MvG dom wr g s s') (h : ∀ b ∈ wr, b ∈ wr') : MvG dom wr' g s s' :=
  ⟨fun b o h1 h2 e => x.kp b o h1 (fun q => h2 (h b q)) e, x.tup, x.gens, x.drawn, x.os, x.toks⟩
def PTup (P : Nat → Value → Heap → Prop) : Prop := ∀ i v h h', P i v h → (∀ b o, h.get? b = some o → o.cls = .type "tuple" → IsSeq o → h'.get? b = some o) → P i v h'
section
variable {prog : Program} {w : World} {A : Around} {E : Value → Shared → Prop} {s : Shared}
variable {dom : Addr → Prop} {wr fp : List Addr} {N : Nat} {P : Nat → Value → Heap → Prop} {Inf : Nat → Heap → Prop} {a : Addr} {g : Nat} {i : Nat}

theorem GenSt.frame {s : Shared} {h' : Heap} {tk : Nat} {S : Addr} (st : GenSt prog w A dom wr fp N P Inf a g i s) (hS : dom S) (hSf : S ∉ fp) (hSa : S ≠ a) (hSc : S ≠ cStatics) (hSe : ∃ o, h'.get? S = some o) (hk : ∀ b o, b ≠ S → s.heap.get? b = some o → h'.get? b = some o) :
    GenSt prog w A dom wr fp N P Inf a g i { s with heap := h', toks := tk } :=
  ⟨let ⟨o, nm', qn, ho, r⟩ := st.gen; ⟨o, nm', qn, hk _ _ (Ne.symm hSa) ho, r⟩, st.lim.at fun o e => hk _ o (Ne.symm hSc) e, st.da, st.dc, let ⟨gs, h1, J, h2, h3, h4⟩ := st.go; ⟨gs, h1, J, h3 _ _ S h2 hS hSf hSe hk, h3, h4⟩⟩

theorem gen_extend {R : Result → Shared → Prop} (hh : A.handled = none) (hroom : A.depth < recursionLimit) (hP : PTup P) (hN : N ≤ sizeLine) (S : Addr) (hS : dom S) (hSf : S ∉ fp) (hSw : S ∉ wr) (hSa : S ≠ a) (hSc : S ≠ cStatics) (res : Value) :
    ∀ (k i : Nat) (s : Shared) (acc : Array Value) (c : Nat), N - i = k → i ≤ N → GenSt prog w A.in1 dom wr fp N P Inf a g i s → s.heap.get? S = some { cls := .type "list", dict := none, data := .seq acc c, slots := #[] } → ItemsV P acc i s.heap →
    (∀ s' acc' c', MvG dom (S :: wr) g s s' → s'.heap.get? S = some { cls := .type "list", dict := none, data := .seq acc' c', slots := #[] } → ItemsV P acc' N s'.heap → R (.ok (.ret res)) s') →
    codeAny (model prog w) A (.builtin "list.extend.loop" ⟨[.ref S, .ref a, res], []⟩) R s := by
  have hsub : ∀ b ∈ wr, b ∈ S :: wr := fun b hb => List.mem_cons_of_mem _ hb
  intro k
  induction k with
  | zero =>
    intro i s acc c hk hi hst hSo hacc hR
    have hin : i = N := by omega
    subst hin
    refine codeAny_builtin PySem.F.entry_extend_loop ?_
    rw [Around.under_plainId PySem.F.plain_extend_loop _]
    show wpAny _ A.in1 (pyNext (.ref a) >>= _) _ _ s
    refine wpAny_bind (nx_gen_end (A := A.in1) hh hroom hst fun s' hm => ?_)
    exact wpAny_pure (hR s' acc c (hm.wide hsub) (hm.kp S _ hS hSw hSo) ⟨hacc.1, fun j v e => hP j v _ _ (hacc.2 j v e) hm.tup⟩)
  | succ k ih =>
    intro i s acc c hk hi hst hSo hacc hR
    have hlt : i < N := by omega
    refine codeAny_builtin PySem.F.entry_extend_loop ?_
    rw [Around.under_plainId PySem.F.plain_extend_loop _]
    show wpAny _ A.in1 (pyNext (.ref a) >>= _) _ _ s
    refine wpAny_bind (nx_gen_item (A := A.in1) hh hroom hst hlt fun v s' hPv hst' hm => ?_)
    have hS' := hm.kp S _ hS hSw hSo
    have oth : ∀ b o, b ≠ S → s'.heap.get? b = some o → (s'.heap.update S (Obj.mapSeq (·.push v))).get? b = some o := fun b o hb e => (Heap.get?_update_other _ _ (Ne.symm hb)).trans e
    have otht : ∀ b o, s'.heap.get? b = some o → o.cls = .type "tuple" → IsSeq o → (s'.heap.update S (Obj.mapSeq (·.push v))).get? b = some o := fun b o e hc _ => oth b o (fun q => by
      rw [q, hS'] at e; cases e; exact absurd (Value.type.inj hc) (by decide)) e
    show wpAny _ A.in1 (updateSeq S (·.push v) >>= _) _ _ _
    refine wpAny_bind ?_
    refine wpAny_updateSeq hS' rfl (wpAny_pure ⟨plainId_quiet PySem.F.plain_extend_loop _, ih (i + 1) _ (acc.push v) _ (by omega) hlt (hst'.frame hS hSf hSa hSc ⟨_, Heap.get?_update_self _ hS' rfl⟩ oth (tk := s'.toks)) (Heap.get?_update_self _ hS' rfl)
      (ItemsV.push ⟨hacc.1, fun j u e => hP j u _ _ (hP j u _ _ (hacc.2 j u e) hm.tup) otht⟩ (hP i v _ _ hPv otht)) fun s'' acc' c' hm'' hS'' hacc' => ?_⟩)
      (by rw [hacc.1]; omega) (by show (acc.push v).size ≤ sizeLine + 1; rw [Array.size_push, hacc.1]; omega)
    have m1 : MvG dom (S :: wr) g s' { s' with heap := s'.heap.update S (Obj.mapSeq (·.push v)) } := ⟨fun b o _ hb e => oth b o (fun q => hb (q ▸ List.mem_cons_self)) e, otht, .inl rfl, rfl, rfl, Nat.le_refl _⟩
    exact hR s'' acc' c' ((hm.wide hsub).trans (m1.trans hm'')) hS'' hacc'

theorem nolen_gen : typeLookup (.type "generator") "__len__" = pure none := by rw [typeLookup_type, builtinLookup_eq_fast]; kernel_rfl
theorem nohint_gen : typeLookup (.type "generator") "__length_hint__" = pure none := by rw [typeLookup_type, builtinLookup_eq_fast]; kernel_rfl

theorem hint_gen {Q : Bool → Shared → Prop} (hg : s.heap.IsGen a g) (hq : ∀ b, Q b s) : wpAny (model prog w) A (Builtin.List.listLengthHint (.ref a)) Q E s := by
  unfold Builtin.List.listLengthHint
  refine wpAny_bind (wpAny_specialOf hg.typeIs nolen_gen ?_)
  show wpAny _ A (specialOf (Value.ref a) (Str.ofString "__length_hint__") >>= _) _ _ _
  refine wpAny_bind (wpAny_specialOf hg.typeIs nohint_gen ?_)
  exact wpAny_pure (hq _)

/-- list(g): the generator's state is told when the list is there -/
theorem ls_gen {Q : Value → Shared → Prop} (hh : A.handled = none) (hroom : A.depth < recursionLimit) (hg : s.heap.IsGen a g) (hP : PTup P) (hN : N ≤ sizeLine) (hwr : ∀ b ∈ wr, ∃ o, s.heap.get? b = some o) (hfp : ∀ b ∈ fp, ∃ o, s.heap.get? b = some o) (hlim : s.heap.NoLimit)
    (hst : ∀ s₁, Mv [] s s₁ → GenSt prog w A.in1.in1 (fun b => ∃ o, s₁.heap.get? b = some o) wr fp N P Inf a g 0 s₁)
    (hQ : ∀ D s' acc, (∀ b o, b ∉ wr → s.heap.get? b = some o → s'.heap.get? b = some o) → GenOnlyQ g s.gens s'.gens → s'.os = s.os → s.heap.get? D = none → s'.heap.IsList D acc → ItemsV P acc N s'.heap → Q (.ref D) s') :
    wpAny (model prog w) A (call (.type "list") [.ref a]) Q E s := by
  refine callType_codes (Q₁ := fun obj s₁ => obj = .ref s.heap.objs.size ∧ s₁ = { s with heap := s.heap.push { cls := .type "list", data := .seq #[] } }) PySem.F.called_list (PySem.F.typeCall_list_1 _) PySem.F.entry_list_init
    (code_list_new _ ⟨rfl, rfl⟩) fun obj s₁ h₁ => ?_
  obtain ⟨rfl, rfl⟩ := h₁
  generalize hSS : s.heap.objs.size = S
  have hSn : s.heap.get? S = none := none_ge (Nat.le_of_eq hSS)
  have hS : (s.heap.push { cls := .type "list", data := .seq #[] }).get? S = some { cls := .type "list", data := .seq #[] } := by rw [← hSS]; exact Heap.get?_push_size _ rfl
  refine ⟨⟨_, hS, rfl⟩, PySem.F.args_list_init_2 _ _, ?_⟩
  show wpAny _ _ (do let old ← Builtin.List.listItems (.ref S); Builtin.List.listUpdate (.ref S) (fun _ => #[]); letGo old.toList.reverse; Builtin.List.listExtendWith (.ref S) (.ref a) .none) _ _ _
  refine wpAny_bind ?_
  unfold Builtin.List.listItems
  refine wpAny_bind (wpAny_seqItems hS rfl (wpAny_pure ?_))
  show wpAny _ _ (updateSeq S (fun _ => #[]) >>= fun _ => letGo (#[] : Array Value).toList.reverse >>= fun _ => Builtin.List.listExtendWith (.ref S) (.ref a) .none) _ _ _
  refine wpAny_bind (wpAny_updateSeq hS rfl ?_)
  have hS₂ := Heap.get?_update_self (Obj.mapSeq (fun _ => (#[] : Array Value))) hS rfl
  generalize hh2 : (s.heap.push { cls := .type "list", data := .seq #[] }).update S (Obj.mapSeq (fun _ => (#[] : Array Value))) = h₂ at hS₂
  have m2 : Mv [] s { s with heap := h₂ } := Mv.ofAll (tk := s.toks) fun b o e => by
    rw [← hh2]
    exact (Heap.get?_update_other _ _ (fun q => by rw [← q, hSn] at e; cases e)).trans (Heap.get?_push_of_some _ e)
  refine wpAny_bind (wpAny_letGo ?_)
  have hg2 : h₂.IsGen a g := hg.keeps m2.all
  have hT : ({ s with heap := h₂ } : Shared).TypeIs (.ref a) "generator" := hg2.typeIs
  have hSa : S ≠ a := fun q => by obtain ⟨o, _, _, e, _⟩ := hg; rw [← q, hSn] at e; cases e
  have hSc : S ≠ cStatics := fun q => by obtain ⟨mc, ⟨o, _, _, e, _⟩, _⟩ := hlim; rw [← q, hSn] at e; cases e
  have hSw : S ∉ wr := fun q => by obtain ⟨o, e⟩ := hwr S q; rw [hSn] at e; cases e
  have hSf : S ∉ fp := fun q => by obtain ⟨o, e⟩ := hfp S q; rw [hSn] at e; cases e
  unfold Builtin.List.listExtendWith
  refine wpAny_bind (wpAny_typeOf hT ?_)
  have h1 : Builtin.List.listSameRef (.ref S) (.ref a) = false := by simp [Builtin.List.listSameRef, hSa]
  have h2 : (Value.type "generator" == Value.type "list") = false := by decide
  have h3 : (Value.type "generator" == Value.type "tuple") = false := by decide
  simp only [h1, h2, h3, Bool.or_false, Bool.false_eq_true, if_false]
  refine wpAny_bind (wpAny_pyIter_gen (s := { s with heap := h₂ }) hg2 ?_)
  have loop : ∀ (s₃ : Shared) (c : Nat) (R : Result → Shared → Prop), Mv [] s s₃ → s₃.heap.get? S = some { cls := .type "list", data := .seq #[] c } → (∀ s', Q (.ref S) s' → R (.ok (.ret .none)) s') →
      codeAny (model prog w) A.in1 (.builtin "list.extend.loop" ⟨[.ref S, .ref a, .none], []⟩) R s₃ := fun s₃ c R m3 hS3 hR => by
    have st := hst s₃ m3
    refine gen_extend (A := A.in1) hh hroom hP hN S ⟨_, hS3⟩ hSf hSw hSa hSc .none N 0 s₃ #[] c rfl (Nat.zero_le _) st hS3 ⟨rfl, fun j v e => by simp at e⟩ fun s' acc' c' hm hS' hacc => ?_
    refine hR _ (hQ S s' acc' (fun b o hb e => hm.kp b o ⟨o, m3.all _ _ e⟩ (fun q => ?_) (m3.all _ _ e)) (by rw [← m3.gens]; exact hm.gens) (hm.os.trans m3.os) hSn ⟨_, hS', rfl, c', rfl⟩ hacc)
    rcases List.mem_cons.mp q with rfl | q
    · rw [hSn] at e; cases e
    · exact hb q
  refine wpAny_bind (wpAny_holding (hint_gen (s := { s with heap := h₂ }) hg2 fun b => ?_))
  refine wpAny_ite_split (fun _ => ?_) (fun _ => wpAny_pure ⟨plainId_quiet PySem.F.plain_extend_loop _, loop _ _ _ m2 hS₂ fun s' q => ⟨rfl, q⟩⟩)
  refine wpAny_bind (wpAny_rule ?_)
  refine wpAny_bind ?_
  show wpAny _ _ (updateSeq S (·.push .none) >>= fun _ => updateSeq S (·.pop)) _ _ _
  refine wpAny_bind (wpAny_updateSeq hS₂ rfl ?_)
  have hS₃ := Heap.get?_update_self (Obj.mapSeq (·.push Value.none)) hS₂ rfl
  refine wpAny_updateSeq (hz := by seq_fits) hS₃ rfl ?_
  have hS₄ := Heap.get?_update_self (Obj.mapSeq (·.pop)) hS₃ rfl
  have oth : ∀ b o, b ≠ S → h₂.get? b = some o → ((h₂.update S (Obj.mapSeq (·.push Value.none))).update S (Obj.mapSeq (·.pop))).get? b = some o :=
    fun b o hb e => (Heap.get?_update_other _ _ (Ne.symm hb)).trans ((Heap.get?_update_other _ _ (Ne.symm hb)).trans e)
  refine wpAny_pure ⟨plainId_quiet PySem.F.plain_extend_loop _, loop _ _ _ (Mv.ofAll (tk := s.toks) fun b o e => oth b o (fun q => by rw [q, hSn] at e; cases e) (m2.all _ _ e)) hS₄ fun s' q => ⟨rfl, q⟩⟩
end
end Mine
end

section
open PySem PySem.W PyProof.Rows PySem.Calls
set_option maxRecDepth 100000
set_option linter.unusedVariables false
namespace Mine
/-- each number at its first place -/
def uq : List Int → List Int → List Int
  | _, [] => []
  | seen, x :: r => if x ∈ seen then uq seen r else x :: uq (seen ++ [x]) r

def esT : Expr := match (dr 2).body with | [_, .For t _ _ _ _] => t | _ => .Name "" default
def esB : List Stmt := match (dr 2).body with | [_, .For _ _ b _ _] => b | _ => []

section
variable {prog : Program} {w : World} {A : Around} {E : Value → Shared → Prop} {s : Shared} {env : Env}

/-- the source of the draws: a list, or a list's iterator -/
structure EsSrc (h : Heap) (v : Value) (l : Addr) (items : Array Value) (src : Option Addr) : Prop where
  list : h.IsList l items
  is : (src = none ∧ v = .ref l) ∨ ∃ I, src = some I ∧ v = .ref I ∧ h.IsListIter I l 0
/-- a state of the generator at rest -/
structure EsAt (prog : Program) (w : World) (env : Env) (dom : Addr → Prop) (ns : List Int) (l : Addr) (items : Array Value) (src : Option Addr) (i : Nat) (I SN : Addr) (pos : Nat) (seen : List Int) (h : Heap) : Prop where
  dm : ∀ b, dom b → ∃ o, h.get? b = some o
  live : Live env h
  vs : VarAt h env (nm "seen") (.ref SN)
  it : h.IsListIter I l pos
  list : h.IsList l items
  set : IsSet prog w h SN seen
  rest : uq seen (ns.drop pos) = (uq [] ns).drop i
  le : pos ≤ ns.length
  sl : seen.length ≤ pos
  snew : ¬ dom SN
  inew : src = some I ∨ (src = none ∧ ¬ dom I)
def EsJ0 (mg mb : Str → Option Value) (env : Env) (dom : Addr → Prop) (v : Value) (l : Addr) (items : Array Value) (src : Option Addr) (h : Heap) : Prop :=
  (∀ b, dom b → ∃ o, h.get? b = some o) ∧ Wd mg mb h ∧ Live env h ∧ VarAt h env (nm "iterable") v ∧ EsSrc h v l items src
def EsP (ns : List Int) (i : Nat) (v : Value) (_ : Heap) : Prop := ∃ k t, (uq [] ns)[i]? = some k ∧ v = .int k t
def EsInf (l : Addr) (src : Option Addr) (i : Nat) (h : Heap) : Prop := i = 1 → ∀ J, src = some J → h.IsListIter J l 1
def esFp (env : Env) (l : Addr) (src : Option Addr) : List Addr := env.locals :: l :: mainGlobals :: builtinsNs :: cStatics :: src.toList

theorem dm_but {dom : Addr → Prop} {h h' : Heap} {S : Addr} (hdom : ∀ b, dom b → ∃ o, h.get? b = some o) (hSe : ∃ o, h'.get? S = some o) (hk : ∀ b o, b ≠ S → h.get? b = some o → h'.get? b = some o) : ∀ b, dom b → ∃ o, h'.get? b = some o := fun b hb => by
  by_cases e : b = S
  · subst e; exact hSe
  · obtain ⟨o, ho⟩ := hdom b hb; exact ⟨o, hk b o e ho⟩
theorem es_stab0 {mg mb : Str → Option Value} {dom : Addr → Prop} {v : Value} {l : Addr} {items : Array Value} {src : Option Addr} (hc : env.cells = []) : JStab (EsJ0 mg mb env dom v l items src) dom (esFp env l src) := by
  intro h h' S ⟨hdom, hW, hL, hV, hE⟩ hS hSf hSe hk
  simp only [esFp, List.mem_cons, Option.mem_toList, not_or] at hSf
  obtain ⟨hS1, hS2, hS4, hS5, hS6, hS3⟩ := hSf
  have hSo : Out env S := ⟨hS1, fun n => by rw [hc]; simp⟩
  refine ⟨dm_but hdom hSe hk, ⟨hW.g.at' fun o e => hk _ o (Ne.symm hS4) e, hW.b.at' fun o e => hk _ o (Ne.symm hS5) e, hW.lim.at fun o e => hk _ o (Ne.symm hS6) e, hW.bi, hW.nob⟩, hL.butOut hSo hk, hV.butOut hSo hk, hE.list.at fun o e => hk l o (Ne.symm hS2) e, ?_⟩
  rcases hE.is with h1 | ⟨I, h1, h2, o, ho, r⟩
  · exact .inl h1
  · exact .inr ⟨I, h1, h2, o, hk I o (fun e => hS3 (by rw [h1, e])) ho, r⟩
theorem es_stab {dom : Addr → Prop} {ns : List Int} {l : Addr} {items : Array Value} {src : Option Addr} {i : Nat} {I SN : Addr} {pos : Nat} {seen : List Int} (hc : env.cells = []) : JStab (EsAt prog w env dom ns l items src i I SN pos seen) dom (esFp env l src) := by
  intro h h' S x hS hSf hSe hk
  simp only [esFp, List.mem_cons, Option.mem_toList, not_or] at hSf
  obtain ⟨hS1, hS2, hS4, hS5, hS6, hS3⟩ := hSf
  have hSo : Out env S := ⟨hS1, fun n => by rw [hc]; simp⟩
  have hIS : I ≠ S := fun e => by
    rcases x.inew with h1 | h1
    · exact hS3 (by rw [h1, e])
    · exact h1.2 (e ▸ hS)
  have hNS : SN ≠ S := fun e => x.snew (e ▸ hS)
  exact ⟨dm_but x.dm hSe hk, x.live.butOut hSo hk, x.vs.butOut hSo hk, x.it.at fun o e => hk I o hIS e, x.list.at fun o e => hk l o (Ne.symm hS2) e, x.set.at fun o e => hk SN o hNS e, x.rest, x.le, x.sl, x.snew, x.inew⟩

theorem mvd_of {dom : Addr → Prop} {wr : List Addr} {s s' : Shared} (k : ∀ b o, s.heap.get? b = some o → (dom b ∧ b ∉ wr ∨ (o.cls = .type "tuple" ∧ IsSeq o)) → s'.heap.get? b = some o) (hg : s'.gens = s.gens) (hd : s'.drawn = s.drawn) (ho : s'.os = s.os) (ht : s.toks ≤ s'.toks) : MvD dom wr s s' :=
  ⟨fun b o h1 h2 e => k b o e (.inl ⟨h1, h2⟩), fun b o e h1 h2 => k b o e (.inr ⟨h1, h2⟩), hg, hd, ho, ht⟩
theorem Around.over_handled {A : Around} {c : Code} {fs : List Frame} : (A.over c fs).handled = (marksOver fs (A.handled, A.handled)).1 := rfl

/-- the loop -/
theorem es_loop {hb : Heap} {dom : Addr → Prop} {ns : List Int} {l : Addr} {items : Array Value} {src : Option Addr} {fs : List Frame} (F : Fm env hb) (hs : env.scope = (dr 2).scope) (hc : env.cells = [])
    (hh : ∀ c, (A.over c fs).handled = none) (hfs : splitAtGen fs = none) (hfg : fs.any Frame.guarded = false) (hi : IntsAre items.toList ns) (hlen : ns.length ≤ 100) (hld : ∀ J, src = some J → dom J ∧ J ≠ l) (hll : dom l)
    (hexit : ∀ s₀ s, MvD dom (env.locals :: src.toList) s₀ s → Seg (model prog w) A (GR dom (env.locals :: src.toList)) (GY dom (env.locals :: src.toList) (esFp env l src) (uq [] ns).length (EsP ns) (EsInf l src)) 0 s₀ (.block [] env) (.pure (.done .next)) fs s) :
    ∀ (k i pos : Nat) (seen : List Int) (I SN : Addr) (s₀ s : Shared), ns.length - pos = k → EsAt prog w env dom ns l items src i I SN pos seen s.heap → (i = 0 → pos = 0 ∧ seen = []) → MvD dom (env.locals :: src.toList) s₀ s → i ≤ (uq [] ns).length →
      Seg (model prog w) A (GR dom (env.locals :: src.toList)) (GY dom (env.locals :: src.toList) (esFp env l src) (uq [] ns).length (EsP ns) (EsInf l src)) ((uq [] ns).length - i) s₀ (.forLoop esT (.ref I) esB [] env) ((model prog w).den (.forLoop esT (.ref I) esB [] env)) fs s := by
  have KI : Kin env (dr 2).scope := Kin.of hs
  have hsz : items.size = ns.length := by rw [← hi.length]; simp
  intro k
  induction k with
  | zero =>
    intro i pos seen I SN s₀ s hk x hf hm hiN
    have hp : pos = ns.length := Nat.le_antisymm x.le (by omega)
    have hr := x.rest
    rw [hp, List.drop_length] at hr
    have hiE : i = (uq [] ns).length := by
      have : ((uq [] ns).drop i).length = 0 := by rw [← hr]; rfl
      rw [List.length_drop] at this; omega
    refine seg_forLoop ?_ (fun v => rfl)
    refine wpAny_pyNext_list_end (hh _) x.it x.list (by simp; omega) fun h' he => ?_
    rw [hiE, Nat.sub_self]
    refine seg_block_nil (hexit _ _ (hm.trans (mvd_of (fun b o e hb => he b o (fun q => ?_) e) rfl rfl rfl (Nat.le_refl _))))
    rcases hb with ⟨h1, h2⟩ | ⟨h1, _⟩
    · rcases x.inew with h3 | h3
      · exact h2 (by rw [h3, q]; simp)
      · exact h3.2 (q ▸ h1)
    · obtain ⟨o', ho', hc', _⟩ := x.it
      rw [q, ho'] at e; cases e; rw [hc'] at h1; exact absurd (Value.type.inj h1) (by decide)
  | succ k ih =>
    intro i pos seen I SN s₀ s hk x hf hm hiN
    have hlt : pos < ns.length := by omega
    obtain ⟨t, ht⟩ := ints_get hi pos ns[pos] (by simp [hlt])
    have hx : items[pos]? = some (.int ns[pos] t) := by rw [← Array.getElem?_toList]; exact ht
    refine seg_forLoop ?_ (fun v => rfl)
    refine wpAny_pyNext_list_item x.it x.list hx fun h' hit' hs' => ?_
    have hIo : Out env I := let ⟨o, ho, _, hd⟩ := x.it; x.live.fieldsOut ho ⟨_, hd⟩
    have hSNo : Out env SN := let ⟨o, ho, hd⟩ := x.set.obj; x.live.setOut ho hd
    have hSI : SN ≠ I := fun q => by
      obtain ⟨o, ho, _, hd⟩ := x.it
      obtain ⟨o', ho', es, ep, tt, hd'⟩ := x.set.obj
      rw [q, ho] at ho'; cases ho'; rw [hd] at hd'; cases hd'
    have hlI : l ≠ I := fun q => by
      obtain ⟨o, ho, _, hd⟩ := x.it
      obtain ⟨o', ho', _, n', hd'⟩ := x.list
      rw [q, ho] at ho'; cases ho'; rw [hd] at hd'; cases hd'
    have k1 : ∀ b o, b ≠ I → s.heap.get? b = some o → h'.get? b = some o := fun b o hb e => hs'.extBut b o hb e
    have L1 : Live env h' := x.live.butOut hIo k1
    have V1 : VarAt h' env (nm "seen") (.ref SN) := x.vs.butOut hIo k1
    refine wpAny_assign_Name (st_name (s := { s with heap := h' }) F L1 (.inl (KI _ _ (by decide) (by decide +kernel))) (by decide) fun s₂ st2 => ?_)
    have k2 : ∀ b o, b ≠ I → b ≠ env.locals → s.heap.get? b = some o → s₂.heap.get? b = some o := fun b o h1 h2 e => st2.fs.kp b o ⟨h2, fun n => by rw [hc]; simp⟩ (fun q => nomatch q) (k1 b o h1 e)
    have V2 := st2.vars _ _ (by decide) V1
    have set2 : IsSet prog w s₂.heap SN seen := x.set.at fun o e => k2 _ _ hSI hSNo.1 e
    have it2 : s₂.heap.IsListIter I l (pos + 1) := hit'.at fun o e => st2.fs.kp _ _ hIo (fun q => nomatch q) e
    have list2 : s₂.heap.IsList l items := x.list.at fun o e => k2 _ _ hlI (fun q => by
      have := x.live.seqOut e (by obtain ⟨o', ho', _, n', hd'⟩ := x.list; rw [ho'] at e; cases e; exact ⟨_, n', hd'⟩)
      exact this.1 q) e
    have ilc : ∀ o, s.heap.get? I = some o → o.cls ≠ .type "tuple" := fun o e h => by
      obtain ⟨o', ho', hc', _⟩ := x.it
      rw [e] at ho'; cases ho'; rw [hc'] at h; exact absurd (Value.type.inj h) (by decide)
    have m2 : MvD dom (env.locals :: src.toList) s s₂ := by
      have hg2 : s₂.gens = s.gens := st2.gens
      refine mvd_of (fun b o e hb => k2 b o (fun q => ?_) (fun q => ?_) e) hg2 ?_ st2.fs.os ?_
      · rcases hb with ⟨h1, h2⟩ | ⟨h1, _⟩
        · rcases x.inew with h3 | h3
          · exact h2 (by rw [h3, q]; simp)
          · exact h3.2 (q ▸ h1)
        · exact ilc o (q ▸ e) h1
      · rcases hb with ⟨h1, h2⟩ | ⟨_, h1⟩
        · exact h2 (by rw [q]; simp)
        · exact (x.live.seqOut e h1).1 q
      · exact st2.drawn
      · exact st2.toks
    have dm2 : ∀ b, dom b → ∃ o, s₂.heap.get? b = some o := fun b hb => by
      by_cases e1 : b = I
      · subst e1; obtain ⟨o, ho, _⟩ := it2; exact ⟨o, ho⟩
      · by_cases e2 : b = env.locals
        · subst e2; obtain ⟨m, o, _, _, ho, _⟩ := st2.live.ns; exact ⟨o, ho⟩
        · obtain ⟨o, ho⟩ := x.dm b hb; exact ⟨o, k2 b o e1 e2 ho⟩
    have hdrop : ns.drop pos = ns[pos] :: ns.drop (pos + 1) := (List.drop_eq_getElem_cons hlt)
    have hrest := x.rest
    rw [hdrop] at hrest
    have hsl := x.sl
    refine seg_execs_cons (seg_If ?_)
    refine wpAny_isTrue_Compare1 (ev_name F.kind st2.var (ev_name F.kind V2 (wpAny_notInSet_of (knd := intKind prog w) (intKind_is _ _ _ _) rfl set2.2 (wpAny_truthy_bool ?_))))
    by_cases hin : ns[pos] ∈ seen
    · rw [if_neg (by simp [hin])]
      refine seg_execs_nil (seg_execs_nil (seg_again rfl ?_))
      have hu : uq seen (ns.drop (pos + 1)) = (uq [] ns).drop i := by rw [← hrest]; simp [uq, hin]
      refine ih i (pos + 1) seen I SN s₀ { s₂ with toks := s₂.toks + 1 } (by omega) ⟨dm2, st2.live, V2, it2, list2, set2, hu, by omega, by omega, x.snew, x.inew⟩ (fun h0 => ?_) (hm.trans (m2.trans (mvd_of (fun _ _ e _ => e) rfl rfl rfl (Nat.le_succ _)))) hiN
      rw [(hf h0).2] at hin; cases hin
    · rw [if_pos (by simp [hin])]
      have hu0 : ns[pos] :: uq (seen ++ [ns[pos]]) (ns.drop (pos + 1)) = (uq [] ns).drop i := by rw [← hrest]; simp [uq, hin]
      have hiL : i < (uq [] ns).length := by
        have : ((uq [] ns).drop i).length ≠ 0 := by rw [← hu0]; simp
        rw [List.length_drop] at this; omega
      have hget : (uq [] ns)[i]? = some ns[pos] := by
        have : ((uq [] ns).drop i)[0]? = some ns[pos] := by rw [← hu0]; rfl
        rw [List.getElem?_drop] at this; exact this
      have hu : uq (seen ++ [ns[pos]]) (ns.drop (pos + 1)) = (uq [] ns).drop (i + 1) := by
        have : ((uq [] ns).drop i).drop 1 = uq (seen ++ [ns[pos]]) (ns.drop (pos + 1)) := by rw [← hu0]; rfl
        rw [← this, List.drop_drop]
      obtain ⟨m', hm'⟩ : ∃ m', (uq [] ns).length - i = m' + 1 := ⟨(uq [] ns).length - i - 1, by omega⟩
      refine seg_execs_cons (seg_wrap (wpAny_Expr (hi := by unfold interactive; rw [F.kind]; rfl) ?_))
      refine ev_m (T := "set") (id := "set.add") PySem.F.plainAttrs_set PySem.F.slot_set_add PySem.F.type_set_add ?_
      refine ev_name F.kind V2 ⟨set2.2.typeIs, set2.2.noDict, arg1 (ev_name F.kind st2.var (set_add (s := { s₂ with toks := s₂.toks + 1 }) set2 (by unfold scanBound; omega) fun h₃ hs₃ hS₃ => ?_))⟩
      rw [if_neg hin] at hS₃
      have k3 : ∀ b o, b ≠ SN → s₂.heap.get? b = some o → h₃.get? b = some o := fun b o hb e => hs₃.extBut b o hb e
      have L3 : Live env h₃ := st2.live.butOut hSNo k3
      have m3 : MvD dom (env.locals :: src.toList) s { s₂ with heap := h₃, toks := s₂.toks + 1 + 1 } := m2.trans (mvd_of (fun b o e hb => k3 b o (fun q => ?_) e) rfl rfl rfl (by show s₂.toks ≤ s₂.toks + 1 + 1; omega))
      · rw [hm']
        refine seg_execs_cons (seg_Expr_Yield hfs rfl hfg (ev_name F.kind (st2.var.butOut hSNo k3) fun kap hkap => ?_) (by rw [hs]; decide +kernel) (by unfold interactive; rw [F.kind]; rfl))
        have e1 : (uq [] ns).length - 1 - m' = i := by omega
        have e2 : (uq [] ns).length - m' = i + 1 := by omega
        have dm3 : ∀ b, dom b → ∃ o, h₃.get? b = some o := fun b hb => by
          obtain ⟨o, ho⟩ := dm2 b hb
          exact ⟨o, k3 b o (fun q => x.snew (q ▸ hb)) ho⟩
        refine ⟨by omega, ?_, hm.trans m3, EsAt prog w env dom ns l items src (i + 1) I SN (pos + 1) (seen ++ [ns[pos]]), ?_, es_stab hc, ?_, fun s'' hJ'' => hkap .none s'' ?_⟩
        · rw [e1]; exact ⟨_, _, hget, rfl⟩
        · refine ⟨dm3, L3, V2.butOut hSNo k3, it2.at fun o e => k3 _ _ (Ne.symm hSI) e, list2.at fun o e => k3 _ _ (fun q => ?_) e, hS₃, hu, by omega, by simp; omega, x.snew, x.inew⟩
          obtain ⟨o', ho', es, ep, tt, hd'⟩ := set2.obj
          obtain ⟨o2, ho2, _, n2, hd2⟩ := list2
          rw [q, ho'] at ho2; cases ho2; rw [hd'] at hd2; cases hd2
        · intro h y
          rw [e2]
          intro h1 J hJ
          have hi0 : i = 0 := by omega
          have hp0 := (hf hi0).1
          rcases y.inew with h3 | h3
          · rw [h3] at hJ; cases hJ
            have := y.it
            rw [hp0] at this; exact this
          · rw [h3.1] at hJ; cases hJ
        · show Seg _ _ _ _ m' s'' _ _ fs s''
          refine seg_execs_nil (seg_execs_nil (seg_again rfl ?_))
          have e3 : m' = (uq [] ns).length - (i + 1) := by omega
          rw [e3]
          exact ih (i + 1) (pos + 1) (seen ++ [ns[pos]]) I SN s'' s'' (by omega) hJ'' (fun h => absurd h (Nat.succ_ne_zero i)) (MvD.refl _ _ _) hiL
      · rcases hb with ⟨h1, _⟩ | ⟨h1, _⟩
        · exact x.snew (q ▸ h1)
        · obtain ⟨o', ho', es, ep, tt, hd'⟩ := set2.obj
          obtain ⟨_, o2, _, _, _, ho2, hex, _⟩ := set2
          rw [q, ho2] at e; cases e; rw [hex.1] at h1; exact absurd (Value.type.inj h1) (by decide)

theorem marks_none {k h g l c p kp} {A : Around} (hh : A.handled = none) (hn : h = none) : ∀ c', (A.over c' [.ret k h g l c p kp]).handled = none := fun c' => by
  subst hn
  rw [Around.over_handled, hh]; rfl

/-- the generator, fresh, may be drawn from -/
theorem es_fresh {h₀ : Heap} {mg mb : Str → Option Value} {dom : Addr → Prop} {ns : List Int} {v : Value} {l : Addr} {items : Array Value} {src : Option Addr} {I : Addr} {g : Nat} (hA : A.handled = none) (F : Fm env h₀) (hs : env.scope = (dr 2).scope) (hc : env.cells = [])
    (hi : IntsAre items.toList ns) (hlen : ns.length ≤ 100) (hld : ∀ J, src = some J → dom J ∧ J ≠ l) (hll : dom l) (hI : dom I ∧ I ≠ env.locals ∧ src ≠ some I) (hcs : dom cStatics ∧ cStatics ≠ env.locals ∧ src ≠ some cStatics)
    (hgen : s.heap.IsGen I g) (hgs : s.gens[g]? = some (.fresh (.func (dr 2).body env))) (hj : EsJ0 mg mb env dom v l items src s.heap) :
    GenSt prog w A dom (env.locals :: src.toList) (esFp env l src) (uq [] ns).length (EsP ns) (EsInf l src) I g 0 s := by
  refine ⟨hgen, hj.2.1.lim, ⟨hI.1, ?_⟩, ⟨hcs.1, ?_⟩, _, hgs, EsJ0 mg mb env dom v l items src, hj, es_stab0 hc, fun _ _ h => absurd h (by decide), fun s'' hs'' => ⟨rfl, ?_⟩⟩
  · simp only [List.mem_cons, Option.mem_toList, not_or]; exact ⟨hI.2.1, hI.2.2⟩
  · simp only [List.mem_cons, Option.mem_toList, not_or]; exact ⟨hcs.2.1, hcs.2.2⟩
  obtain ⟨hdom, hW, hL, hV, hE⟩ := hs''
  have KI : Kin env (dr 2).scope := Kin.of hs
  rw [Nat.sub_zero]
  refine seg_func ?_
  refine seg_execs_cons (seg_wrap (as_l F KI (by decide +kernel) ?_))
  refine ev_cT0 F hW KI (kB_of (by decide +kernel) kv_set : kB (dr 2).scope "set" (.type "set") = true) ?_
  refine set0 fun SN s₁ hT m1 ht1 hset => ?_
  have hSn : s''.heap.get? SN = none := none_ge (Nat.le_of_eq hT)
  have L1 := hL.keeps m1.all
  refine ⟨L1, fun s₂ st2 => ?_⟩
  have hSo : Out env SN := hL.out hSn
  have hsnew : ¬ dom SN := fun h => by obtain ⟨o, ho⟩ := hdom SN h; rw [hSn] at ho; cases ho
  have k2 : ∀ b o, b ≠ env.locals → s''.heap.get? b = some o → s₂.heap.get? b = some o := fun b o h1 e => st2.fs.kp b o ⟨h1, fun n => by rw [hc]; simp⟩ (fun q => nomatch q) (m1.all _ _ e)
  have m2 : MvD dom (env.locals :: src.toList) s'' s₂ := mvd_of (fun b o e hb => k2 b o (fun q => by
      rcases hb with ⟨h1, h2⟩ | ⟨_, h1⟩
      · exact h2 (by rw [q]; simp)
      · exact (hL.seqOut e h1).1 q) e) (st2.gens.trans m1.gens) (st2.drawn.trans m1.drawn) (st2.fs.os.trans m1.os) (by have := st2.toks; omega)
  have V2 := st2.vars _ _ (by decide) (hV.keeps m1.all)
  have set2 : IsSet prog w s₂.heap SN [] := hset.at fun o e => st2.fs.kp _ _ hSo (fun q => nomatch q) e
  have list2 : s₂.heap.IsList l items := hE.list.at fun o e => k2 _ _ (fun q => (hL.seqOut e (by obtain ⟨o', ho', _, n', hd'⟩ := hE.list; rw [ho'] at e; cases e; exact ⟨_, n', hd'⟩)).1 q) e
  have dm2 : ∀ b, dom b → ∃ o, s₂.heap.get? b = some o := fun b hb => by
    by_cases e2 : b = env.locals
    · subst e2; obtain ⟨m, o, _, _, ho, _⟩ := st2.live.ns; exact ⟨o, ho⟩
    · obtain ⟨o, ho⟩ := hdom b hb; exact ⟨o, k2 b o e2 ho⟩
  refine seg_execs_cons (seg_For (ev_name F.kind V2 ?_))
  rcases hE.is with ⟨h1, rfl⟩ | ⟨J, h1, rfl, hJ⟩
  · refine wpAny_pyIter_list list2 fun p => ?_
    subst h1
    generalize hI0 : s₂.heap.objs.size = I0
    have hin : s₂.heap.get? I0 = none := none_ge (Nat.le_of_eq hI0)
    have hit3 : (s₂.heap.push { cls := .type "list_iterator", data := .fields #[.ref l, .int 0 0] }).IsListIter I0 l 0 := by rw [← hI0]; exact ⟨_, Heap.get?_push_size _ rfl, rfl, rfl⟩
    generalize hs3 : ({ s₂ with heap := s₂.heap.push { cls := .type "list_iterator", data := .fields #[.ref l, .int 0 0] } } : Shared) = s₃
    have m3 : Mv [] s₂ s₃ := by rw [← hs3]; exact Mv.push s₂ _ s₂.toks
    have ht3 : s₃.toks = s₂.toks := by rw [← hs3]
    have hit4 : s₃.heap.IsListIter I0 l 0 := by rw [← hs3]; exact hit3
    refine es_loop (A := A.in1) F hs hc (marks_none (A := A.in1) hA rfl) ?a1 ?a2 hi hlen hld hll ?a3 _ 0 0 [] I0 SN s'' s₃ rfl ⟨fun b hb => ?_, st2.live.keeps m3.all, st2.var.keeps m3.all, hit4, list2.at fun o e => m3.all _ _ e, set2.at fun o e => m3.all _ _ e, by simp, by omega, by simp, hsnew, .inr ⟨rfl, fun h => ?_⟩⟩ (fun _ => ⟨rfl, rfl⟩) (m2.trans (mvd_of (fun b o e _ => m3.all _ _ e) m3.gens m3.drawn m3.os (Nat.le_of_eq ht3.symm))) (Nat.zero_le _)
    case a1 => rfl
    case a2 => rfl
    case a3 => intro s₀ s hm; exact seg_leaf (.ok .next) (seg_end (.ok (.ret .none)) ⟨rfl, rfl, hm⟩)
    · obtain ⟨o, ho⟩ := dm2 b hb; exact ⟨o, m3.all _ _ ho⟩
    · obtain ⟨o, ho⟩ := dm2 _ h; rw [hin] at ho; cases ho
  · have hJ2 : s₂.heap.IsListIter J l 0 := hJ.at fun o e => k2 _ _ (fun q => by
      obtain ⟨o', ho', _, hd'⟩ := hJ
      exact (hL.fieldsOut ho' ⟨_, hd'⟩).1 q) e
    refine wpAny_pyIter_listiter hJ2 fun p => ?_
    refine es_loop (A := A.in1) F hs hc (marks_none (A := A.in1) hA rfl) ?b1 ?b2 hi hlen hld hll ?b3 _ 0 0 [] J SN s'' s₂ rfl ⟨dm2, st2.live, st2.var, hJ2, list2, set2, by simp, by omega, by simp, hsnew, .inl h1⟩ (fun _ => ⟨rfl, rfl⟩) m2 (Nat.zero_le _)
    case b1 => rfl
    case b2 => rfl
    case b3 => intro s₀ s hm; exact seg_leaf (.ok .next) (seg_end (.ok (.ret .none)) ⟨rfl, rfl, hm⟩)
end
end Mine
end

section
open PySem PySem.W PyProof.Rows PySem.Calls
set_option maxRecDepth 100000
set_option linter.unusedVariables false
namespace Mine
theorem bare_push {gens : Array GenState} {x : GenState} (h : AllBare gens) (hx : x.bare = true) : AllBare (gens.push x) := by
  intro y hy
  rcases Array.mem_push.mp hy with h1 | h1
  · exact h y h1
  · subst h1; exact hx
section
variable {prog : Program} {w : World} {A : Around} {E : Value → Shared → Prop} {s : Shared}
theorem EsSrc.keeps {h h' : Heap} {v : Value} {l : Addr} {items : Array Value} {src : Option Addr} (x : EsSrc h v l items src) (k : ∀ b o, h.get? b = some o → h'.get? b = some o) : EsSrc h' v l items src :=
  ⟨x.list.at fun o e => k _ _ e, x.is.imp id fun ⟨I, a, b, c⟩ => ⟨I, a, b, c.at fun o e => k _ _ e⟩⟩

/-- _unique_everseen(v): the generator, ready -/
theorem es_call {a : Addr} {v : Value} {mg mb : Str → Option Value} {l : Addr} {items : Array Value} {src : Option Addr} {ns : List Int} {k : Nat} {Q : Value → Shared → Prop} (hr : Rm A (k + 1)) (X : AtF s.heap mg 2 a) (D : Wd mg mb s.heap)
    (hE : EsSrc s.heap v l items src) (hi : IntsAre items.toList ns) (hlen : ns.length ≤ 100)
    (h : ∀ I s₁ wr fp, Ex s s₁ → s.heap.get? I = none → s₁.heap.IsGen I s.gens.size → s₁.heap.NoLimit → (∀ b ∈ wr, (∃ o, s₁.heap.get? b = some o) ∧ (s.heap.get? b = none ∨ src = some b)) → (∀ b ∈ fp, ∃ o, s₁.heap.get? b = some o) →
      (∀ s₂ A', A'.handled = none → Mv [] s₁ s₂ → GenSt prog w A' (fun b => ∃ o, s₂.heap.get? b = some o) wr fp (uq [] ns).length (EsP ns) (EsInf l src) I s.gens.size 0 s₂) → Q (.ref I) s₁) :
    wpAny (model prog w) A (call (.ref a) [v]) Q E s := by
  refine call_gen (binds := [(nm "iterable", v)]) hr.room X D (fun pm code doc => by rfl) [nm "iterable"] rfl (by decide +kernel) (by decide) fun env s₁ I hs hc F L K V hg hIn hIo hgens hd hos => ?_
  have V1 : VarAt s₁.heap env (nm "iterable") v := V _ List.mem_cons_self
  have hc0 : env.cells = [] := hc.trans (by rfl)
  have D1 := D.keeps K
  have hE1 := hE.keeps K
  have hLx : ∃ o, s₁.heap.get? env.locals = some o := by obtain ⟨m, o, _, _, ho, _⟩ := L.ns; exact ⟨o, ho⟩
  have hlx : ∃ o, s₁.heap.get? l = some o := by obtain ⟨o, ho, _⟩ := hE1.list; exact ⟨o, ho⟩
  have hlo : ∃ o, s.heap.get? l = some o := by obtain ⟨o, ho, _⟩ := hE.list; exact ⟨o, ho⟩
  have hgx : ∃ o, s₁.heap.get? mainGlobals = some o := by obtain ⟨o, _, _, ho, _⟩ := D1.g; exact ⟨o, ho⟩
  have hbx : ∃ o, s₁.heap.get? builtinsNs = some o := by obtain ⟨o, _, _, ho, _⟩ := D1.b; exact ⟨o, ho⟩
  have hcx : ∃ o, s₁.heap.get? cStatics = some o := by obtain ⟨_, ⟨o, _, _, ho, _⟩, _⟩ := D1.lim; exact ⟨o, ho⟩
  have hco : ∃ o, s.heap.get? cStatics = some o := by obtain ⟨_, ⟨o, _, _, ho, _⟩, _⟩ := D.lim; exact ⟨o, ho⟩
  have hsx : ∀ J, src = some J → (∃ o, s.heap.get? J = some o ∧ ∃ fs, o.data = .fields fs) := fun J hJ => by
    rcases hE.is with ⟨h1, _⟩ | ⟨J', h1, _, o, ho, _, hd⟩
    · rw [h1] at hJ; cases hJ
    · rw [h1] at hJ; cases hJ; exact ⟨o, ho, _, hd⟩
  have hsx1 : ∀ J, src = some J → ∃ o, s₁.heap.get? J = some o := fun J hJ => by obtain ⟨o, ho, _⟩ := hsx J hJ; exact ⟨o, K _ _ ho⟩
  refine h I s₁ (env.locals :: src.toList) (esFp env l src) ⟨K, fun g => by rw [hgens]; exact bare_push g rfl, hos⟩ hIn hg D1.lim (fun b hb => ?_) (fun b hb => ?_) fun s₂ A' hA' m2 => ?_
  · rcases List.mem_cons.mp hb with rfl | hb
    · exact ⟨hLx, .inl F.newL⟩
    · rw [Option.mem_toList] at hb; exact ⟨hsx1 b hb, .inr hb⟩
  · simp only [esFp, List.mem_cons, Option.mem_toList] at hb
    rcases hb with rfl | rfl | rfl | rfl | rfl | hb
    · exact hLx
    · exact hlx
    · exact hgx
    · exact hbx
    · exact hcx
    · exact hsx1 b hb
  · have up : ∀ {b : Addr}, (∃ o, s₁.heap.get? b = some o) → ∃ o, s₂.heap.get? b = some o := fun ⟨o, ho⟩ => ⟨o, m2.all _ _ ho⟩
    refine es_fresh hA' F hs hc0 hi hlen (fun J hJ => ⟨up (hsx1 J hJ), fun q => ?_⟩) (up hlx) ⟨let ⟨o, _, _, ho, _⟩ := hg; ⟨o, m2.all _ _ ho⟩, hIo.1, fun q => ?_⟩ ⟨up hcx, fun q => ?_, fun q => ?_⟩ (hg.keeps m2.all) (by rw [m2.gens, hgens]; simp) ⟨fun b hb => hb, D1.keeps m2.all, L.keeps m2.all, V1.keeps m2.all, hE1.keeps m2.all⟩
    · obtain ⟨o, ho, fs, hd⟩ := hsx J hJ
      obtain ⟨o', ho', _, n', hd'⟩ := hE.list
      rw [q, ho'] at ho; cases ho; rw [hd'] at hd; cases hd
    · obtain ⟨o, ho, _⟩ := hsx I q; rw [hIn] at ho; cases ho
    · obtain ⟨o, ho⟩ := hco; rw [q, F.newL] at ho; cases ho
    · obtain ⟨o, ho, fs, hd⟩ := hsx _ q
      obtain ⟨_, ⟨o', _, _, ho', hd', _⟩, _⟩ := D.lim
      rw [ho'] at ho; cases ho; rw [hd'] at hd; cases hd

theorem li_of_items {ns : List Int} {acc : Array Value} {h : Heap} (x : ItemsV (EsP ns) acc (uq [] ns).length h) : IntsAre acc.toList (uq [] ns) := by
  obtain ⟨h1, h2⟩ := x
  have : ∀ (l : List Value) (ms : List Int), l.length = ms.length → (∀ (j : Nat) (v : Value), l[j]? = some v → ∃ k t, ms[j]? = some k ∧ v = Value.int k t) → IntsAre l ms := by
    intro l
    induction l with
    | nil => intro ms hl _; cases ms with | nil => exact .nil | cons => simp at hl
    | cons v l ih =>
      intro ms hl hv
      cases ms with
      | nil => simp at hl
      | cons m ms =>
        obtain ⟨k, t, e, rfl⟩ := hv 0 v rfl
        simp at e; subst e
        exact .cons m t (ih ms (by simpa using hl) fun j u hj => by simpa using hv (j + 1) u (by simpa using hj))
  exact this _ _ (by simpa using h1) fun j v hj => h2 j v (by rw [← Array.getElem?_toList]; exact hj)

/-- list(_unique_everseen(v)), the generator given -/
theorem ls_es {I : Addr} {g : Nat} {l : Addr} {src : Option Addr} {ns : List Int} {wr fp : List Addr} {k : Nat} {Q : Value → Shared → Prop} (hr : Rm A k) (hlen : (uq [] ns).length ≤ 1000) (hg : s.heap.IsGen I g) (hl : s.heap.NoLimit)
    (hwr : ∀ b ∈ wr, ∃ o, s.heap.get? b = some o) (hfp : ∀ b ∈ fp, ∃ o, s.heap.get? b = some o)
    (hst : ∀ s₂ A', A'.handled = none → Mv [] s s₂ → GenSt prog w A' (fun b => ∃ o, s₂.heap.get? b = some o) wr fp (uq [] ns).length (EsP ns) (EsInf l src) I g 0 s₂)
    (h : ∀ D s', ExW wr s s' → s.heap.get? D = none → LI s'.heap D (uq [] ns) → Q (.ref D) s') :
    wpAny (model prog w) A (call (.type "list") [.ref I]) Q E s := by
  refine ls_gen (wr := wr) (fp := fp) (Inf := EsInf l src) (P := EsP ns) (N := (uq [] ns).length) hr.hh hr.room hg (fun i v h h' hp _ => hp) (by unfold sizeLine; omega) hwr hfp hl (fun s₁ m => hst s₁ _ hr.hh m) fun D s' acc hk hgn hos hD hL hit => ?_
  exact h D s' ⟨hk, fun q => hgn.bare q, hos⟩ hD ⟨acc.toList, by simpa using hL, li_of_items hit⟩

/-- next(_unique_everseen(v)), the generator given -/
theorem nx_es {I : Addr} {g : Nat} {l : Addr} {src : Option Addr} {ns : List Int} {wr fp : List Addr} {k : Nat} {Q : Value → Shared → Prop} (hr : Rm A (k + 1)) (hne : 0 < (uq [] ns).length) (hg : s.heap.IsGen I g)
    (hst : ∀ s₂ A', A'.handled = none → Mv [] s s₂ → GenSt prog w A' (fun b => ∃ o, s₂.heap.get? b = some o) wr fp (uq [] ns).length (EsP ns) (EsInf l src) I g 0 s₂)
    (h : ∀ n t s', ExW wr s s' → (uq [] ns)[0]? = some n → (∀ J, src = some J → s'.heap.IsListIter J l 1) → Q (.int n t) s') :
    wpAny (model prog w) A (call (.builtin "next") [.ref I]) Q E s := by
  refine bi_next hg.typeIs slot_gen_next.lookup ?_
  refine sp_gen (A := A.in1) hr.hh hr.room (hst s A.in1 hr.hh (Mv.refl _ _)) hne fun v s' hP hst' hm => ?_
  obtain ⟨n, t, hn, rfl⟩ := hP
  obtain ⟨gs, _, J, hj, _, hJi, _⟩ := hst'.go
  exact ⟨_, rfl, h n t s' ⟨fun b o hb e => hm.kp b o ⟨o, e⟩ hb e, fun q => hm.gens.bare q, hm.os⟩ hn (hJi _ hj rfl)⟩
end
end Mine
end

section
open PySem PySem.W PyProof.Rows PySem.Calls
set_option maxRecDepth 100000
set_option linter.unusedVariables false
namespace Mine
section
variable {prog : Program} {w : World} {A : Around} {E : Value → Shared → Prop} {s : Shared} {env : Env} {a b : Int} {t u : Tok} {Q : Value → Shared → Prop}
theorem i_add (h : Q (.int (a + b) s.toks) { s with toks := s.toks + 1 }) : wpAny (model prog w) A (binaryOp .Add (.int a t) (.int b u)) Q E s := AutoIntOps.add_0 h
theorem i_iadd (h : Q (.int (a + b) s.toks) { s with toks := s.toks + 1 }) : wpAny (model prog w) A (inplaceOp .Add (.int a t) (.int b u)) Q E s := AutoIntOps.iadd_0 h
theorem i_mod (hb : b ≠ 0) (h : Q (.int (a.fmod b) s.toks) { s with toks := s.toks + 1 }) : wpAny (model prog w) A (binaryOp .Mod (.int a t) (.int b u)) Q E s := AutoIntOps.mod_1 (by simpa using hb) h

/-- o[i], o a list or a dict, i an int -/
theorem ev_sub {value slice : Expr} {pos : Pos}
    (h : wpAny (model prog w) A (eval value env) (fun o s₁ => wpAny (model prog w) A (eval slice env) (fun i s₂ => ∃ a k u T id, o = .ref a ∧ i = .int k u ∧ s₂.TypeIs (.ref a) T ∧ typeLookup (.type T) "__getitem__" = pure (some (.builtin id)) ∧
      wpAny (model prog w) A (getItem (.ref a) (.int k u)) Q E s₂) E s₁) E s)
    (hs : ∀ a k u, subscripted slice false (.ref a) (.int k u) = operate [.ref a, .int k u] (getItem (.ref a) (.int k u)) := by intro _ _ _; with_unfolding_all rfl) :
    wpAny (model prog w) A (eval (.Subscript value slice pos) env) Q E s := by
  rw [eval_Subscript]
  refine wpAny_bind (wpAny_mono h (fun o s₁ h₁ => wpAny_bind (wpAny_holding (wpAny_mono h₁ (fun i s₂ h₂ => wpAny_bind (wpAny_standAt ?_)) fun _ _ x => x))) fun _ _ x => x)
  obtain ⟨a, k, u, T, id, rfl, rfl, hT, hl, hg⟩ := h₂
  exact tail_any hT hl hg (hs a k u)
theorem sub_list {value slice : Expr} {pos : Pos}
    (h : wpAny (model prog w) A (eval value env) (fun o s₁ => wpAny (model prog w) A (eval slice env) (fun i s₂ => ∃ a items k u x, o = .ref a ∧ i = .int ((k : Nat) : Int) u ∧ s₂.heap.IsList a items ∧ (k : Int) < 2 ^ 63 ∧ items[k]? = some x ∧ Q x s₂) E s₁) E s)
    (hs : ∀ a k u, subscripted slice false (.ref a) (.int k u) = operate [.ref a, .int k u] (getItem (.ref a) (.int k u)) := by intro _ _ _; with_unfolding_all rfl) :
    wpAny (model prog w) A (eval (.Subscript value slice pos) env) Q E s := by
  refine ev_sub (wpAny_mono h (fun o s₁ h₁ => wpAny_mono h₁ (fun i s₂ h₂ => ?_) fun _ _ x => x) fun _ _ x => x) hs
  obtain ⟨a, items, k, u, x, rfl, rfl, hl, hf, hx, hq⟩ := h₂
  exact ⟨a, _, u, "list", _, rfl, rfl, hl.typeIs, slot_list_getitem.lookup, wpAny_getItem_list hl (Int.natCast_nonneg _) hf (by simpa using hx) hq⟩
theorem sub_list_neg {value slice : Expr} {pos : Pos}
    (h : wpAny (model prog w) A (eval value env) (fun o s₁ => wpAny (model prog w) A (eval slice env) (fun i s₂ => ∃ a items k u x, o = .ref a ∧ i = .int k u ∧ s₂.heap.IsList a items ∧ k < 0 ∧ -(items.size : Int) ≤ k ∧ -(2 ^ 63) ≤ k ∧ items[(k + items.size).toNat]? = some x ∧ Q x s₂) E s₁) E s)
    (hs : ∀ a k u, subscripted slice false (.ref a) (.int k u) = operate [.ref a, .int k u] (getItem (.ref a) (.int k u)) := by intro _ _ _; with_unfolding_all rfl) :
    wpAny (model prog w) A (eval (.Subscript value slice pos) env) Q E s := by
  refine ev_sub (wpAny_mono h (fun o s₁ h₁ => wpAny_mono h₁ (fun i s₂ h₂ => ?_) fun _ _ x => x) fun _ _ x => x) hs
  obtain ⟨a, items, k, u, x, rfl, rfl, hl, h1, h2, h3, hx, hq⟩ := h₂
  exact ⟨a, _, u, "list", _, rfl, rfl, hl.typeIs, slot_list_getitem.lookup, wpAny_getItem_list_neg hl h1 h2 h3 hx hq⟩
theorem valueAt_find {kvs : List (Int × Value)} {k : Int} {v : Value} {D : Addr} (hd : DictI prog w s.heap D kvs) (hv : valueAt kvs k = some v) {k' : Tok}
    (h : Q v { s with toks := s.toks + 1 }) : wpAny (model prog w) A (getItem (.ref D) (.int k k')) Q E s :=
  wpAny_getItem_of (knd := intKind prog w) (intKind_is _ _ _ _) hd.mapOf hv h
theorem sub_dict {value slice : Expr} {pos : Pos}
    (h : wpAny (model prog w) A (eval value env) (fun o s₁ => wpAny (model prog w) A (eval slice env) (fun i s₂ => ∃ D kvs k u v, o = .ref D ∧ i = .int k u ∧ DictI prog w s₂.heap D kvs ∧ valueAt kvs k = some v ∧ Q v { s₂ with toks := s₂.toks + 1 }) E s₁) E s)
    (hs : ∀ a k u, subscripted slice false (.ref a) (.int k u) = operate [.ref a, .int k u] (getItem (.ref a) (.int k u)) := by intro _ _ _; with_unfolding_all rfl) :
    wpAny (model prog w) A (eval (.Subscript value slice pos) env) Q E s := by
  refine ev_sub (wpAny_mono h (fun o s₁ h₁ => wpAny_mono h₁ (fun i s₂ h₂ => ?_) fun _ _ x => x) fun _ _ x => x) hs
  obtain ⟨D, kvs, k, u, v, rfl, rfl, hd, hv, hq⟩ := h₂
  exact ⟨D, _, u, "dict", _, rfl, rfl, hd.typeIs, slot_dict_getitem.lookup, valueAt_find hd hv hq⟩
theorem len_set {a : Addr} {l : List Int} (hS : IsSet prog w s.heap a l) (hl : l.length ≤ 1000) (h : Q (.int l.length (s.toks + 1)) { s with toks := s.toks + 1 + 1 }) : wpAny (model prog w) A (call (.builtin "len") [.ref a]) Q E s := by
  obtain ⟨_, o, es, ep, t, ho, hex, hd, _, _, _, hf, hn⟩ := hS
  refine call_len_set ho hex hd hf (by omega) ?_
  rw [hn]; exact h
end
end Mine
end

section
open PySem PySem.W PyProof.Rows PySem.Calls
set_option maxRecDepth 100000
set_option linter.unusedVariables false
namespace Mine
def rIn (L : Nat) : List Int → List Int → List Int → (List Int → List Int → List (Int × Int)) → List (Int × Int)
  | [], seen, nx, K => K seen nx
  | w :: r, seen, nx, K => if w ∈ seen then rIn L r seen nx K else (w, (L : Int)) :: rIn L r (seen ++ [w]) (nx ++ [w]) K
def rOut (L n : Nat) (gr : Int → List Int) : List Int → List Int → List Int → (List Int → List Int → List (Int × Int)) → List (Int × Int)
  | [], seen, nx, K => K seen nx
  | v :: r, seen, nx, K => rIn L (gr v) seen nx fun seen nx => if seen.length = n then [] else rOut L n gr r seen nx K
def rWh (n : Nat) (gr : Int → List Int) : Nat → Nat → List Int → List Int → List (Int × Int)
  | 0, _, _, _ => []
  | f + 1, L, nx, seen => if nx = [] then [] else rOut (L + 1) n gr nx seen [] fun seen nx => rWh n gr f (L + 1) nx seen
def bfs (n : Nat) (gr : Int → List Int) (fl : List Int) (cut : Nat) : List (Int × Int) := fl.map (fun x => (x, 0)) ++ rWh n gr cut 0 fl fl

def b1T : Expr := match (dr 3).body with | [_, _, _, _, .For t _ _ _ _, _] => t | _ => .Name "" default
def b1B : List Stmt := match (dr 3).body with | [_, _, _, _, .For _ _ b _ _, _] => b | _ => []
def bwT : Expr := match (dr 3).body with | [_, _, _, _, _, .While t _ _ _] => t | _ => .Name "" default
def bwB : List Stmt := match (dr 3).body with | [_, _, _, _, _, .While _ b _ _] => b | _ => []
def b2T : Expr := match bwB with | [_, _, _, .For t _ _ _ _] => t | _ => .Name "" default
def b2B : List Stmt := match bwB with | [_, _, _, .For _ _ b _ _] => b | _ => []
def b3T : Expr := match b2B with | [.For t _ _ _ _, _] => t | _ => .Name "" default
def b3B : List Stmt := match b2B with | [.For _ _ b _ _, _] => b | _ => []

def rowAddrs (kvs : List (Int × Value)) : List Addr := kvs.filterMap fun kv => match kv.2 with | .ref a => some a | _ => none
theorem rowAddrs_mem {kvs : List (Int × Value)} {kv : Int × Value} {La : Addr} (h : kv ∈ kvs) (e : kv.2 = .ref La) : La ∈ rowAddrs kvs :=
  List.mem_filterMap.mpr ⟨kv, h, by rw [e]⟩

/-- what does not change in one call -/
structure BK where
  mg : Str → Option Value
  mb : Str → Option Value
  env : Env
  dom : Addr → Prop
  d : Addr
  kvs : List (Int × Value)
  gr : Int → List Int
  cut : Nat
  fl : Addr
def BK.fp (k : BK) : List Addr := k.env.locals :: k.d :: k.fl :: mainGlobals :: builtinsNs :: cStatics :: rowAddrs k.kvs
def BK.nodes (k : BK) : List Int := k.kvs.map (·.1)

structure BC (prog : Program) (w : World) (k : BK) (SN NX : Addr) (L : Nat) (seen nx : List Int) (h : Heap) : Prop where
  dm : ∀ b, k.dom b → ∃ o, h.get? b = some o
  wd : Wd k.mg k.mb h
  live : Live k.env h
  vadj : VarAt h k.env (nm "adj") (.ref k.d)
  vcut : ∃ t, VarAt h k.env (nm "cutoff") (.int k.cut t)
  vlev : ∃ t, VarAt h k.env (nm "level") (.int L t)
  vn : ∃ t, VarAt h k.env (nm "n") (.int k.kvs.length t)
  vseen : VarAt h k.env (nm "seen") (.ref SN)
  vnx : VarAt h k.env (nm "nextlevel") (.ref NX)
  set : IsSet prog w h SN seen
  snew : ¬ k.dom SN
  nxl : LI h NX nx
  nnew : NX ∈ k.fp ∨ ¬ k.dom NX
  dict : DictI prog w h k.d k.kvs
  rows : ∀ kv ∈ k.kvs, ∃ La, kv.2 = .ref La ∧ LI h La (k.gr kv.1)
  sub : ∀ x ∈ seen, x ∈ k.nodes
  nsub : ∀ x ∈ nx, x ∈ k.nodes
  nlen : nx.length ≤ seen.length

section
variable {prog : Program} {w : World} {A : Around} {E : Value → Shared → Prop} {s : Shared} {k : BK} {SN NX : Addr} {L : Nat} {seen nx : List Int} {h h' : Heap}

theorem BC.notIter (x : BC prog w k SN NX L seen nx h) {S : Addr} {o : Obj} (e : h.get? S = some o) (hd : ∃ fs, o.data = .fields fs) : S ≠ k.env.locals ∧ S ≠ SN ∧ S ≠ NX ∧ S ≠ k.d ∧ S ∉ rowAddrs k.kvs ∧ S ≠ mainGlobals ∧ S ≠ builtinsNs ∧ S ≠ cStatics := by
  obtain ⟨fs, hd⟩ := hd
  have nsq : ∀ {b : Addr}, (∃ o', h.get? b = some o' ∧ IsSeq o') → S ≠ b := fun ⟨o', e', xs, n, q⟩ z => by rw [z, e'] at e; cases e; rw [hd] at q; cases q
  have ndc : ∀ {b : Addr}, (∃ o' es ep, h.get? b = some o' ∧ o'.data = .dict es ep) → S ≠ b := fun ⟨o', es, ep, e', q⟩ z => by rw [z, e'] at e; cases e; rw [hd] at q; cases q
  refine ⟨ndc ?_, fun z => ?_, nsq ?_, ndc ?_, fun hm => ?_, ndc ?_, ndc ?_, ndc ?_⟩
  · obtain ⟨m, o', es, ep, a, b, _⟩ := x.live.ns; exact ⟨o', es, ep, a, b⟩
  · obtain ⟨o', e', es, ep, t, q⟩ := x.set.obj; rw [z, e'] at e; cases e; rw [hd] at q; cases q
  · obtain ⟨vs, hl, _⟩ := x.nxl; exact IsList.seq hl
  · obtain ⟨o', es, ep, a, _, b, _⟩ := x.dict; exact ⟨o', es, ep, a, b⟩
  · obtain ⟨kv, hkv, hq⟩ := List.mem_filterMap.mp hm
    obtain ⟨La, e', vs, hl, _⟩ := x.rows kv hkv
    rw [e'] at hq; cases hq
    exact nsq (IsList.seq hl) rfl
  · obtain ⟨o', es, ep, a, b, _⟩ := x.wd.g; exact ⟨o', es, ep, a, b⟩
  · obtain ⟨o', es, ep, a, b, _⟩ := x.wd.b; exact ⟨o', es, ep, a, b⟩
  · obtain ⟨_, ⟨o', es, ep, a, b, _⟩, _⟩ := x.wd.lim; exact ⟨o', es, ep, a, b⟩

theorem BC.but (x : BC prog w k SN NX L seen nx h) (hc : k.env.cells = []) {S : Addr} (hS : S ≠ k.env.locals ∧ S ≠ SN ∧ S ≠ NX ∧ S ≠ k.d ∧ S ∉ rowAddrs k.kvs ∧ S ≠ mainGlobals ∧ S ≠ builtinsNs ∧ S ≠ cStatics) (hSe : k.dom S → ∃ o, h'.get? S = some o)
    (hk : ∀ b o, b ≠ S → h.get? b = some o → h'.get? b = some o) : BC prog w k SN NX L seen nx h' := by
  obtain ⟨h1, h2, h3, h4, h5, h6, h7, h8⟩ := hS
  have hSo : Out k.env S := ⟨h1, fun n => by rw [hc]; simp⟩
  exact ⟨fun b hb => by
      by_cases e : b = S
      · subst e; exact hSe hb
      · obtain ⟨o, ho⟩ := x.dm b hb; exact ⟨o, hk b o e ho⟩,
    ⟨x.wd.g.at' fun o e => hk _ o (Ne.symm h6) e, x.wd.b.at' fun o e => hk _ o (Ne.symm h7) e, x.wd.lim.at fun o e => hk _ o (Ne.symm h8) e, x.wd.bi, x.wd.nob⟩,
    x.live.butOut hSo hk, x.vadj.butOut hSo hk, let ⟨t, v⟩ := x.vcut; ⟨t, v.butOut hSo hk⟩, let ⟨t, v⟩ := x.vlev; ⟨t, v.butOut hSo hk⟩, let ⟨t, v⟩ := x.vn; ⟨t, v.butOut hSo hk⟩, x.vseen.butOut hSo hk, x.vnx.butOut hSo hk,
    x.set.at fun o e => hk SN o (Ne.symm h2) e, x.snew, (let ⟨vs, hl, hi⟩ := x.nxl; ⟨vs, hl.at fun o e => hk _ o (Ne.symm h3) e, hi⟩), x.nnew, x.dict.at fun o e => hk _ o (Ne.symm h4) e,
    fun kv hkv => let ⟨La, e, vs, hl, hi⟩ := x.rows kv hkv; ⟨La, e, vs, hl.at fun o e' => hk _ o (fun q => h5 (by rw [← q]; exact rowAddrs_mem hkv e)) e', hi⟩, x.sub, x.nsub, x.nlen⟩

theorem BC.set' (x : BC prog w k SN NX L seen nx h) (hc : k.env.cells = []) {seen' : List Int} (hs : IsSet prog w h' SN seen') (hk : ∀ b o, b ≠ SN → h.get? b = some o → h'.get? b = some o) (hsub : ∀ y ∈ seen', y ∈ k.nodes) (hnl : nx.length ≤ seen'.length) : BC prog w k SN NX L seen' nx h' := by
  obtain ⟨oS, eS, es, ep, tt, hd⟩ := x.set.obj
  have nsq : ∀ {b : Addr}, (∃ o', h.get? b = some o' ∧ IsSeq o') → b ≠ SN := fun ⟨o', e', xs, n, q⟩ z => by rw [z, eS] at e'; cases e'; rw [hd] at q; cases q
  have ndc : ∀ {b : Addr}, (∃ o' es ep, h.get? b = some o' ∧ o'.data = .dict es ep) → b ≠ SN := fun ⟨o', es, ep, e', q⟩ z => by rw [z, eS] at e'; cases e'; rw [hd] at q; cases q
  have hSo : Out k.env SN := x.live.setOut eS ⟨es, ep, tt, hd⟩
  have g1 : mainGlobals ≠ SN := ndc (by obtain ⟨o', es, ep, a, b, _⟩ := x.wd.g; exact ⟨o', es, ep, a, b⟩)
  have g2 : builtinsNs ≠ SN := ndc (by obtain ⟨o', es, ep, a, b, _⟩ := x.wd.b; exact ⟨o', es, ep, a, b⟩)
  have g3 : cStatics ≠ SN := ndc (by obtain ⟨_, ⟨o', es, ep, a, b, _⟩, _⟩ := x.wd.lim; exact ⟨o', es, ep, a, b⟩)
  have g4 : k.d ≠ SN := ndc (by obtain ⟨o', es, ep, a, _, b, _⟩ := x.dict; exact ⟨o', es, ep, a, b⟩)
  exact ⟨fun b hb => let ⟨o, ho⟩ := x.dm b hb; ⟨o, hk b o (fun q => x.snew (q ▸ hb)) ho⟩,
    ⟨x.wd.g.at' fun o e => hk _ o g1 e, x.wd.b.at' fun o e => hk _ o g2 e, x.wd.lim.at fun o e => hk _ o g3 e, x.wd.bi, x.wd.nob⟩,
    x.live.butOut hSo hk, x.vadj.butOut hSo hk, let ⟨t, v⟩ := x.vcut; ⟨t, v.butOut hSo hk⟩, let ⟨t, v⟩ := x.vlev; ⟨t, v.butOut hSo hk⟩, let ⟨t, v⟩ := x.vn; ⟨t, v.butOut hSo hk⟩, x.vseen.butOut hSo hk, x.vnx.butOut hSo hk,
    hs, x.snew, (let ⟨vs, hl, hi⟩ := x.nxl; ⟨vs, hl.at fun o e => hk _ o (nsq (IsList.seq hl)) e, hi⟩), x.nnew, x.dict.at fun o e => hk _ o g4 e,
    fun kv hkv => let ⟨La, e, vs, hl, hi⟩ := x.rows kv hkv; ⟨La, e, vs, hl.at fun o e' => hk _ o (nsq (IsList.seq hl)) e', hi⟩, hsub, x.nsub, hnl⟩

/-- the list of the next level grows: it is no row and no list of the caller's -/
theorem BC.app (x : BC prog w k SN NX L seen nx h) (hNX : ¬ k.dom NX) (hfp : ∀ b ∈ k.fp, k.dom b) {nx' : List Int} (hl' : LI h' NX nx') (hk : ∀ b o, b ≠ NX → h.get? b = some o → h'.get? b = some o) (hnsub : ∀ y ∈ nx', y ∈ k.nodes) (hnl : nx'.length ≤ seen.length) : BC prog w k SN NX L seen nx' h' := by
  have df : ∀ {b}, b ∈ k.fp → b ≠ NX := fun hb q => hNX (q ▸ hfp _ hb)
  have hso : Out k.env NX := by obtain ⟨vs, hl, _⟩ := x.nxl; obtain ⟨o, ho, hs⟩ := IsList.seq hl; exact x.live.seqOut ho hs
  have hSN : SN ≠ NX := fun q => by
    obtain ⟨vs, hl, _⟩ := x.nxl; obtain ⟨o, ho, xs, n, hd⟩ := IsList.seq hl
    obtain ⟨o', ho', es, ep, t, hd'⟩ := x.set.obj
    rw [q, ho] at ho'; cases ho'; rw [hd] at hd'; cases hd'
  exact ⟨fun b hb => let ⟨o, ho⟩ := x.dm b hb; ⟨o, hk b o (fun q => hNX (q ▸ hb)) ho⟩,
    ⟨x.wd.g.at' fun o e => hk _ o (df (by simp [BK.fp])) e, x.wd.b.at' fun o e => hk _ o (df (by simp [BK.fp])) e, x.wd.lim.at fun o e => hk _ o (df (by simp [BK.fp])) e, x.wd.bi, x.wd.nob⟩,
    x.live.butOut hso hk, x.vadj.butOut hso hk, let ⟨t, v⟩ := x.vcut; ⟨t, v.butOut hso hk⟩, let ⟨t, v⟩ := x.vlev; ⟨t, v.butOut hso hk⟩, let ⟨t, v⟩ := x.vn; ⟨t, v.butOut hso hk⟩, x.vseen.butOut hso hk, x.vnx.butOut hso hk,
    x.set.at fun o e => hk SN o hSN e, x.snew, hl', x.nnew, x.dict.at fun o e => hk _ o (df (by simp [BK.fp])) e,
    fun kv hkv => let ⟨La, e, vs, hl, hi⟩ := x.rows kv hkv; ⟨La, e, vs, hl.at fun o e' => hk _ o (df (by simp [BK.fp, rowAddrs_mem hkv e])) e', hi⟩, x.sub, hnsub, hnl⟩

def bcNames : List Str := [nm "adj", nm "cutoff", nm "level", nm "n", nm "seen", nm "nextlevel"]
theorem BC.st {s s' : Shared} {n : Str} {v : Value} (x : BC prog w k SN NX L seen nx s.heap) (O : WOut k.env) (hdo : Out k.env k.d) (st : Stored k.env n v s s') (hn : ∀ m ∈ bcNames, m ≠ n) : BC prog w k SN NX L seen nx s'.heap := by
  have nn : ∀ m ∈ bcNames, m ≠ n := hn
  simp only [bcNames, List.mem_cons, List.not_mem_nil, or_false, forall_eq_or_imp, forall_eq] at nn
  obtain ⟨n1, n2, n3, n4, n5, n6⟩ := nn
  have sq := st.stp.seq x.live
  exact ⟨fun b hb => by
      by_cases e : b = k.env.locals
      · subst e; obtain ⟨m, o, _, _, ho, _⟩ := st.live.ns; exact ⟨o, ho⟩
      · obtain ⟨o, ho⟩ := x.dm b hb
        by_cases ec : ∃ n, k.env.cells.lookup n = some b
        · obtain ⟨n', hn'⟩ := ec; obtain ⟨v', o', ho', _⟩ := st.live.cell n' b hn'; exact ⟨o', ho'⟩
        · exact ⟨o, st.fs.kp b o ⟨e, fun n' q => ec ⟨n', q⟩⟩ (fun q => nomatch q) ho⟩,
    x.wd.fs O st.fs, st.live, st.vars _ _ n1 x.vadj, let ⟨t, v⟩ := x.vcut; ⟨t, st.vars _ _ n2 v⟩, let ⟨t, v⟩ := x.vlev; ⟨t, st.vars _ _ n3 v⟩, let ⟨t, v⟩ := x.vn; ⟨t, st.vars _ _ n4 v⟩, st.vars _ _ n5 x.vseen, st.vars _ _ n6 x.vnx,
    st.stp.set x.live x.set, x.snew, x.nxl.keeps sq, x.nnew, x.dict.at fun o e => st.fs.kp _ o hdo (fun q => nomatch q) e, fun kv hkv => let ⟨La, e, hl⟩ := x.rows kv hkv; ⟨La, e, hl.keeps sq⟩, x.sub, x.nsub, x.nlen⟩
theorem BC.ex {s s' : Shared} (x : BC prog w k SN NX L seen nx s.heap) (y : Ex s s') : BC prog w k SN NX L seen nx s'.heap :=
  ⟨fun b hb => let ⟨o, ho⟩ := x.dm b hb; ⟨o, y.kp _ _ ho⟩, x.wd.keeps y.kp, x.live.keeps y.kp, x.vadj.keeps y.kp, let ⟨t, v⟩ := x.vcut; ⟨t, v.keeps y.kp⟩, let ⟨t, v⟩ := x.vlev; ⟨t, v.keeps y.kp⟩, let ⟨t, v⟩ := x.vn; ⟨t, v.keeps y.kp⟩, x.vseen.keeps y.kp, x.vnx.keeps y.kp,
    x.set.at fun o e => y.kp _ _ e, x.snew, x.nxl.keeps y.seq, x.nnew, x.dict.at fun o e => y.kp _ _ e, fun kv hkv => let ⟨La, e, hl⟩ := x.rows kv hkv; ⟨La, e, hl.keeps y.seq⟩, x.sub, x.nsub, x.nlen⟩
end
end Mine
end

section
open PySem PySem.W PyProof.Rows PySem.Calls
set_option maxRecDepth 100000
set_option linter.unusedVariables false
namespace Mine
def BfP (T : List (Int × Int)) (i : Nat) (v : Value) (h : Heap) : Prop := ∃ p, T[i]? = some p ∧ PairV h v p
theorem BfP.tup (T : List (Int × Int)) : PTup (BfP T) := fun i v h h' ⟨p, e, hp⟩ k => ⟨p, e, hp.tup k⟩
def noInf : Nat → Heap → Prop := fun _ _ => True
abbrev BSeg (prog : Program) (w : World) (A : Around) (k : BK) (T : List (Int × Int)) (m : Nat) (s₀ : Shared) (c : Code) (t : Sem Fin) (fs : List Frame) (s : Shared) : Prop :=
  Seg (model prog w) A (GR k.dom [k.env.locals]) (GY k.dom [k.env.locals] k.fp T.length (BfP T) noInf) m s₀ c t fs s

/-- what stands fixed while one call runs -/
structure BS (k : BK) : Prop where
  cells : k.env.cells = []
  scope : k.env.scope = (dr 3).scope
  fm : ∃ hb, Fm k.env hb
  out : WOut k.env
  dout : Out k.env k.d
  fpd : ∀ b ∈ k.fp, k.dom b
  len : k.kvs.length ≤ 20
  nod : k.nodes.Nodup
  rl : ∀ kv ∈ k.kvs, (k.gr kv.1).length ≤ 100
  closed : ∀ u ∈ k.nodes, ∀ v ∈ k.gr u, v ∈ k.nodes
  dsys : (k.d == sysModules) = false

theorem nodup_len {l m : List Int} (hl : l.Nodup) (h : ∀ x ∈ l, x ∈ m) : l.length ≤ m.length := by
  induction l generalizing m with
  | nil => exact Nat.zero_le _
  | cons a l ih =>
    rw [List.nodup_cons] at hl
    have ha := h a List.mem_cons_self
    have : l.length ≤ (m.erase a).length := ih hl.2 fun x hx => by
      have hxa : x ≠ a := fun e => hl.1 (e ▸ hx)
      exact (List.mem_erase_of_ne hxa).mpr (h x (List.mem_cons_of_mem _ hx))
    rw [List.length_erase_of_mem ha] at this
    have : 0 < m.length := List.length_pos_of_mem ha
    simp only [List.length_cons]; omega

/-- the outer loop's place -/
structure BX (k : BK) (O TL : Addr) (tl : List Int) (p : Nat) (h : Heap) : Prop where
  it : h.IsListIter O TL p
  lst : LI h TL tl
  onew : ¬ k.dom O
  tnew : TL ∈ k.fp ∨ ¬ k.dom TL
theorem BX.but {k : BK} {O TL : Addr} {tl : List Int} {p : Nat} {h h' : Heap} (x : BX k O TL tl p h) {S : Addr} (h1 : S ≠ O) (h2 : S ≠ TL) (hk : ∀ b o, b ≠ S → h.get? b = some o → h'.get? b = some o) : BX k O TL tl p h' :=
  ⟨x.it.at fun o e => hk _ o (Ne.symm h1) e, (let ⟨vs, hl, hi⟩ := x.lst; ⟨vs, hl.at fun o e => hk _ o (Ne.symm h2) e, hi⟩), x.onew, x.tnew⟩

def PLI (h : Heap) (a : Addr) (ns : List Int) : Prop := ∃ vs, h.PlainList a vs.toArray ∧ IntsAre vs ns
theorem PLI.at {h h' : Heap} {a : Addr} {ns : List Int} (x : PLI h a ns) (k : ∀ o, h.get? a = some o → h'.get? a = some o) : PLI h' a ns := let ⟨vs, ⟨n, ho⟩, hi⟩ := x; ⟨vs, ⟨n, k _ ho⟩, hi⟩
theorem PLI.li {h : Heap} {a : Addr} {ns : List Int} (x : PLI h a ns) : LI h a ns := let ⟨vs, ⟨n, ho⟩, hi⟩ := x; ⟨vs, ⟨_, ho, rfl, n, rfl⟩, hi⟩
/-- a state within the inner loop -/
structure BI (prog : Program) (w : World) (k : BK) (SN NX O TL I La : Addr) (L : Nat) (seen nx tl al : List Int) (p q : Nat) (h : Heap) : Prop where
  c : BC prog w k SN NX L seen nx h
  x : BX k O TL tl p h
  it : h.IsListIter I La q
  row : LI h La al
  rowA : La ∈ rowAddrs k.kvs
  inew : ¬ k.dom I
  nnew : ¬ k.dom NX
  IO : I ≠ O
  NT : NX ≠ TL
  pl : PLI h NX nx

section
variable {prog : Program} {w : World} {A : Around} {E : Value → Shared → Prop} {s : Shared} {k : BK} {SN NX O TL I La : Addr} {L : Nat} {seen nx tl al : List Int} {p q : Nat} {h h' : Heap}

theorem BI.stab (b : BS k) : JStab (BI prog w k SN NX O TL I La L seen nx tl al p q) k.dom k.fp := by
  intro h h' S x hS hSf hSe hk
  have df : ∀ {a}, a ∈ k.fp → S ≠ a := fun ha e => hSf (e ▸ ha)
  have dn : ∀ {a}, ¬ k.dom a → S ≠ a := fun ha e => ha (e ▸ hS)
  have hT : S ≠ TL := x.x.tnew.elim df dn
  have hR : La ∈ k.fp := by simp [BK.fp, x.rowA]
  exact ⟨x.c.but b.cells ⟨df (by simp [BK.fp]), dn x.c.snew, dn x.nnew, df (by simp [BK.fp]), fun hm => hSf (by simp [BK.fp, hm]), df (by simp [BK.fp]), df (by simp [BK.fp]), df (by simp [BK.fp])⟩ (fun _ => hSe) hk,
    x.x.but (dn x.x.onew) hT hk, x.it.at fun o e => hk _ o (Ne.symm (dn x.inew)) e, (let ⟨vs, hl, hi⟩ := x.row; ⟨vs, hl.at fun o e => hk _ o (Ne.symm (df hR)) e, hi⟩), x.rowA, x.inew, x.nnew, x.IO, x.NT, x.pl.at fun o e => hk _ o (Ne.symm (dn x.nnew)) e⟩

theorem li_iter_ne {h : Heap} {I a l : Addr} {ns : List Int} {j : Nat} (hi : h.IsListIter I l j) (hl : LI h a ns) : I ≠ a := fun e => by
  obtain ⟨o, ho, _, hd⟩ := hi
  obtain ⟨vs, ⟨o', ho', _, n, hd'⟩, _⟩ := hl
  rw [e, ho'] at ho; cases ho; rw [hd'] at hd; cases hd

/-- a change at an address that no tuple stands at, and that is not of the base -/
theorem mvd_but {dom : Addr → Prop} {wr : List Addr} {s s' : Shared} {S : Addr} (hS : ¬ dom S ∨ S ∈ wr) (hc : ∀ o, s.heap.get? S = some o → o.cls ≠ .type "tuple") (hk : ∀ b o, b ≠ S → s.heap.get? b = some o → s'.heap.get? b = some o)
    (hg : s'.gens = s.gens) (hd : s'.drawn = s.drawn) (ho : s'.os = s.os) (ht : s.toks ≤ s'.toks) : MvD dom wr s s' :=
  mvd_of (fun b o e hb => hk b o (fun q => by
    subst q
    rcases hb with ⟨h1, h2⟩ | ⟨h1, _⟩
    · exact hS.elim (fun h => h h1) h2
    · exact hc o e h1) e) hg hd ho ht
theorem cls_iter {h : Heap} {I l : Addr} {j : Nat} (hi : h.IsListIter I l j) : ∀ o, h.get? I = some o → o.cls ≠ .type "tuple" := fun o e h1 => by
  obtain ⟨o', ho', hc', _⟩ := hi
  rw [e] at ho'; cases ho'; rw [hc'] at h1; exact absurd (Value.type.inj h1) (by decide)
theorem cls_list {h : Heap} {I : Addr} {ns : List Int} (hi : LI h I ns) : ∀ o, h.get? I = some o → o.cls ≠ .type "tuple" := fun o e h1 => by
  obtain ⟨vs, ⟨o', ho', hc', _⟩, _⟩ := hi
  rw [e] at ho'; cases ho'; rw [hc'] at h1; exact absurd (Value.type.inj h1) (by decide)
theorem cls_set {h : Heap} {I : Addr} {l : List Int} (hi : IsSet prog w h I l) : ∀ o, h.get? I = some o → o.cls ≠ .type "tuple" := fun o e h1 => by
  obtain ⟨_, o', es, ep, t, ho', hex, _⟩ := hi
  rw [e] at ho'; cases ho'; rw [hex.1] at h1; exact absurd (Value.type.inj h1) (by decide)
theorem mvd_st {env : Env} {dom : Addr → Prop} {s s' : Shared} {n : Str} {v : Value} (hc : env.cells = []) (L : Live env s.heap) (st : Stored env n v s s') : MvD dom [env.locals] s s' :=
  mvd_of (fun b o e hb => st.fs.kp b o ⟨fun q => by
      rcases hb with ⟨h1, h2⟩ | ⟨_, h1⟩
      · exact h2 (by rw [q]; simp)
      · exact (L.seqOut e h1).1 q, fun n => by rw [hc]; simp⟩ (fun q => nomatch q) e) st.gens st.drawn st.fs.os st.toks
theorem mvd_mv {dom : Addr → Prop} {wr : List Addr} {s s' : Shared} (x : Mv [] s s') (ht : s.toks ≤ s'.toks) : MvD dom wr s s' := mvd_of (fun b o e _ => x.all b o e) x.gens x.drawn x.os ht
theorem mvd_toks {dom : Addr → Prop} {wr : List Addr} (s : Shared) {t : Nat} (h : s.toks ≤ t) : MvD dom wr s { s with toks := t } := mvd_of (fun _ _ e _ => e) rfl rfl rfl h

/-- the loop over one node's neighbours -/
theorem bi_loop {T : List (Int × Int)} {fs : List Frame} {K : List Int → List Int → List (Int × Int)} (b : BS k) (hh : (marksOver fs (A.handled, A.handled)).1 = none) (hfs : splitAtGen fs = none) (hfg : fs.any Frame.guarded = false) (hal : al.length ≤ 100) (hcl : ∀ x ∈ al, x ∈ k.nodes)
    (hexit : ∀ i seen nx s₀ s, (BC prog w k SN NX L seen nx s.heap ∧ BX k O TL tl p s.heap ∧ ¬ k.dom NX ∧ NX ≠ TL ∧ PLI s.heap NX nx) → T.drop i = K seen nx → i ≤ T.length → MvD k.dom [k.env.locals] s₀ s → BSeg prog w A k T (T.length - i) s₀ (.block [] k.env) (.pure (.done .next)) fs s) :
    ∀ (z q i : Nat) (seen nx : List Int) (s₀ s : Shared), al.length - q = z → q ≤ al.length → BI prog w k SN NX O TL I La L seen nx tl al p q s.heap → T.drop i = rIn L (al.drop q) seen nx K → i ≤ T.length → MvD k.dom [k.env.locals] s₀ s →
      BSeg prog w A k T (T.length - i) s₀ (.forLoop b3T (.ref I) b3B [] k.env) ((model prog w).den (.forLoop b3T (.ref I) b3B [] k.env)) fs s := by
  have KI : Kin k.env (dr 3).scope := Kin.of b.scope
  obtain ⟨hb, F⟩ := b.fm
  have hA : ∀ c, (A.over c fs).handled = none := fun c => hh
  intro z
  induction z with
  | zero =>
    intro q i seen nx s₀ s hz hq x hr hi hm
    have hqe : q = al.length := by omega
    obtain ⟨vs, hlv, hiv⟩ := id x.row
    have hsz : vs.length = al.length := hiv.length
    refine seg_forLoop ?_ (fun v => rfl)
    refine wpAny_pyNext_list_end (hA _) x.it hlv (by simp; omega) fun h' he => ?_
    have k1 : ∀ b o, b ≠ I → s.heap.get? b = some o → h'.get? b = some o := fun b o hb e => he b o hb e
    rw [hqe, List.drop_length] at hr
    obtain ⟨oI, eI, _, dI⟩ := id x.it
    have nI := x.c.notIter eI ⟨_, dI⟩
    refine seg_block_nil (hexit i seen nx _ _ ⟨x.c.but b.cells nI (fun hd => absurd hd x.inew) k1, x.x.but x.IO (li_iter_ne x.it x.x.lst) k1, x.nnew, x.NT, x.pl.at fun o e => k1 _ _ (Ne.symm nI.2.2.1) e⟩ hr hi (hm.trans (mvd_but (s' := { s with heap := h' }) (.inl x.inew) (cls_iter x.it) k1 rfl rfl rfl (Nat.le_refl _))))
  | succ z ih =>
    intro q i seen nx s₀ s hz hq x hr hi hm
    have hlt : q < al.length := by omega
    obtain ⟨vs, hlv, hiv⟩ := id x.row
    obtain ⟨t, ht⟩ := ints_get hiv q al[q] (by simp [hlt])
    have hx : vs.toArray[q]? = some (.int al[q] t) := by simpa using ht
    have hdrop : al.drop q = al[q] :: al.drop (q + 1) := List.drop_eq_getElem_cons hlt
    rw [hdrop] at hr
    refine seg_forLoop ?_ (fun v => rfl)
    refine wpAny_pyNext_list_item x.it hlv hx fun h1 hit1 hs1 => ?_
    have k1 : ∀ b o, b ≠ I → s.heap.get? b = some o → h1.get? b = some o := fun b o hb e => hs1.extBut b o hb e
    obtain ⟨oI, eI, _, dI⟩ := id x.it
    have nI := x.c.notIter eI ⟨_, dI⟩
    have c1 : BC prog w k SN NX L seen nx h1 := x.c.but b.cells nI (fun hd => absurd hd x.inew) k1
    have x1 := x.x.but x.IO (li_iter_ne x.it x.x.lst) k1
    have row1 : LI h1 La al := ⟨vs, hlv.at fun o e => k1 _ _ (Ne.symm (li_iter_ne x.it x.row)) e, hiv⟩
    have m1 : MvD k.dom [k.env.locals] s { s with heap := h1 } := mvd_but (.inl x.inew) (cls_iter x.it) k1 rfl rfl rfl (Nat.le_refl _)
    refine wpAny_assign_Name (st_name (s := { s with heap := h1 }) F c1.live (.inl (KI _ _ (by decide) (by decide +kernel))) (by decide) fun s₂ st2 => ?_)
    have c2 : BC prog w k SN NX L seen nx s₂.heap := c1.st (s := { s with heap := h1 }) b.out b.dout st2 (by decide)
    have sq2 := st2.stp.seq c1.live
    have io2 : ∀ {a l : Addr} {j : Nat}, h1.IsListIter a l j → s₂.heap.IsListIter a l j := fun {a l j} hi => hi.at fun o e => st2.fs.kp _ _ (let ⟨o', ho', _, hd⟩ := hi; c1.live.fieldsOut ho' ⟨_, hd⟩) (fun q => nomatch q) e
    have x2 : BX k O TL tl p s₂.heap := ⟨io2 x1.it, x1.lst.keeps sq2, x1.onew, x1.tnew⟩
    have it2 := io2 hit1
    have row2 : LI s₂.heap La al := row1.keeps sq2
    have pl2 : PLI s₂.heap NX nx := (x.pl.at fun o e => k1 _ _ (Ne.symm nI.2.2.1) e).at fun o e => sq2 _ _ e (by obtain ⟨vs, hl, _⟩ := c1.nxl; obtain ⟨o', e', q⟩ := IsList.seq hl; rw [e'] at e; cases e; exact q)
    have m2 : MvD k.dom [k.env.locals] s s₂ := m1.trans (mvd_st (s := { s with heap := h1 }) b.cells c1.live st2)
    refine seg_execs_cons (seg_If ?_)
    refine wpAny_isTrue_Compare1 (ev_name F.kind st2.var (ev_name F.kind c2.vseen (wpAny_notInSet_of (knd := intKind prog w) (intKind_is _ _ _ _) rfl c2.set.2 (wpAny_truthy_bool ?_))))
    by_cases hin : al[q] ∈ seen
    · rw [if_neg (by simp [hin])]
      refine seg_execs_nil (seg_execs_nil (seg_again rfl ?_))
      have hr' : T.drop i = rIn L (al.drop (q + 1)) seen nx K := by rw [hr]; simp [rIn, hin]
      exact ih (q + 1) i seen nx s₀ { s₂ with toks := s₂.toks + 1 } (by omega) hlt ⟨c2.ex (Ex.toks _ _), x2, it2, row2, x.rowA, x.inew, x.nnew, x.IO, x.NT, pl2⟩ hr' hi (hm.trans (m2.trans (mvd_toks _ (Nat.le_succ _))))
    · rw [if_pos (by simp [hin])]
      have hr0 : T.drop i = (al[q], (L : Int)) :: rIn L (al.drop (q + 1)) (seen ++ [al[q]]) (nx ++ [al[q]]) K := by rw [hr]; simp [rIn, hin]
      have hiL : i < T.length := by
        have : (T.drop i).length ≠ 0 := by rw [hr0]; simp
        rw [List.length_drop] at this; omega
      have hget : T[i]? = some (al[q], (L : Int)) := by
        have : (T.drop i)[0]? = some (al[q], (L : Int)) := by rw [hr0]; rfl
        rw [List.getElem?_drop] at this; exact this
      have hr' : T.drop (i + 1) = rIn L (al.drop (q + 1)) (seen ++ [al[q]]) (nx ++ [al[q]]) K := by
        have : (T.drop i).drop 1 = rIn L (al.drop (q + 1)) (seen ++ [al[q]]) (nx ++ [al[q]]) K := by rw [hr0]; rfl
        rw [← this, List.drop_drop]
      obtain ⟨m', hm'⟩ : ∃ m', T.length - i = m' + 1 := ⟨T.length - i - 1, by omega⟩
      have hwn : al[q] ∈ k.nodes := hcl _ (List.getElem_mem hlt)
      have hsl : seen.length ≤ 20 := Nat.le_trans (nodup_len c2.set.1.1 c2.sub) (by have := b.len; simpa [BK.nodes] using this)
      -- seen.add(w)
      refine seg_execs_cons (seg_wrap (wpAny_Expr (hi := by unfold interactive; rw [F.kind]; rfl) ?_))
      refine ev_m (T := "set") (id := "set.add") PySem.F.plainAttrs_set PySem.F.slot_set_add PySem.F.type_set_add ?_
      refine ev_name F.kind c2.vseen ⟨c2.set.2.typeIs, c2.set.2.noDict, arg1 (ev_name F.kind st2.var (set_add (s := { s₂ with toks := s₂.toks + 1 }) c2.set (by unfold scanBound; omega) fun h₃ hs₃ hS₃ => ?_))⟩
      rw [if_neg hin] at hS₃
      have k3 : ∀ b o, b ≠ SN → s₂.heap.get? b = some o → h₃.get? b = some o := fun b o hb e => hs₃.extBut b o hb e
      have sub3 : ∀ y ∈ seen ++ [al[q]], y ∈ k.nodes := fun y hy => by
        rcases List.mem_append.mp hy with h | h
        · exact c2.sub y h
        · rw [List.mem_singleton.mp h]; exact hwn
      have c3 : BC prog w k SN NX L (seen ++ [al[q]]) nx h₃ := c2.set' b.cells hS₃ k3 sub3 (by have := c2.nlen; rw [List.length_append]; omega)
      have seqS : ∀ {a : Addr}, (∃ o, s₂.heap.get? a = some o ∧ IsSeq o) → a ≠ SN := fun ⟨o, e, xs, n, hd⟩ z => by
        obtain ⟨o', e', es, ep, tt, hd'⟩ := c2.set.obj
        rw [z, e'] at e; cases e; rw [hd'] at hd; cases hd
      have itS : ∀ {a l : Addr} {j : Nat}, s₂.heap.IsListIter a l j → h₃.IsListIter a l j := fun {a l j} hi => hi.at fun o e => k3 _ _ (fun z => by
        obtain ⟨o2, e2, _, hd⟩ := hi
        obtain ⟨o', e', es, ep, tt, hd'⟩ := c2.set.obj
        rw [z, e'] at e2; cases e2; rw [hd'] at hd; cases hd) e
      have liS : ∀ {a : Addr} {l : List Int}, LI s₂.heap a l → LI h₃ a l := fun {a l} ⟨vs, hl, hi⟩ => ⟨vs, hl.at fun o e => k3 _ _ (seqS (IsList.seq hl)) e, hi⟩
      have SNo : Out k.env SN := let ⟨o, ho, hd⟩ := c2.set.obj; c2.live.setOut ho hd
      have vw3 : VarAt h₃ k.env (nm "w") (.int al[q] t) := st2.var.butOut SNo k3
      have m3 : MvD k.dom [k.env.locals] s { s₂ with heap := h₃, toks := s₂.toks + 1 + 1 } := m2.trans (mvd_but (.inl c2.snew) (cls_set c2.set) k3 rfl rfl rfl (by show s₂.toks ≤ s₂.toks + 1 + 1; omega))
      -- nextlevel.append(w)
      have pl3 : PLI h₃ NX nx := pl2.at fun o e => k3 _ _ (seqS (let ⟨vs, hl, _⟩ := c2.nxl; IsList.seq hl)) e
      obtain ⟨ws, hpw, hiw⟩ := id pl3
      have hlw : h₃.IsList NX ws.toArray := let ⟨n, ho⟩ := hpw; ⟨_, ho, rfl, n, rfl⟩
      have hnl : ws.length ≤ sizeLine := by
        have h1 := hiw.length; have h2 := c3.nlen; rw [List.length_append] at h2
        simp only [List.length_singleton] at h2; unfold sizeLine; omega
      refine seg_execs_cons (seg_wrap (wpAny_Expr (hi := by unfold interactive; rw [F.kind]; rfl) ?_))
      refine ev_m (T := "list") (id := "list.append") PySem.F.plainAttrs_list PySem.slot_list_append PySem.F.type_list_append ?_
      refine ev_name F.kind c3.vnx ⟨hlw.typeIs, fun a e => by cases e; exact let ⟨n, ho⟩ := hpw; ⟨_, ho, rfl⟩, arg1 (ev_name F.kind vw3 (wpAny_list_append_plain (hsz := by simpa using hnl) hpw fun h₄ hl₄ hs₄ => ?_))⟩
      have k4 : ∀ b o, b ≠ NX → h₃.get? b = some o → h₄.get? b = some o := fun b o hb e => hs₄.extBut b o hb e
      have pl4 : PLI h₄ NX (nx ++ [al[q]]) := ⟨ws ++ [.int al[q] t], by simpa using hl₄, hiw.append (.cons _ _ .nil)⟩
      have c4 : BC prog w k SN NX L (seen ++ [al[q]]) (nx ++ [al[q]]) h₄ := c3.app x.nnew b.fpd pl4.li k4 (fun y hy => by
        rcases List.mem_append.mp hy with h | h
        · exact c3.nsub y h
        · rw [List.mem_singleton.mp h]; exact hwn) (by have := c2.nlen; rw [List.length_append, List.length_append]; simp; omega)
      have NXo : Out k.env NX := by obtain ⟨o, ho, hs⟩ := IsList.seq hlw; exact c3.live.seqOut ho hs
      have nI3 : I ≠ NX := li_iter_ne (itS it2) c3.nxl
      have x4 : BX k O TL tl p h₄ := ⟨(itS x2.it).at fun o e => k4 _ _ (li_iter_ne (itS x2.it) c3.nxl) e, (let ⟨vs, hl, hi⟩ := liS x2.lst; ⟨vs, hl.at fun o e => k4 _ _ (Ne.symm x.NT) e, hi⟩), x2.onew, x2.tnew⟩
      have rowd : La ≠ NX := fun z => x.nnew (z ▸ b.fpd _ (by simp [BK.fp, x.rowA]))
      have row4 : LI h₄ La al := let ⟨vs, hl, hi⟩ := liS row2; ⟨vs, hl.at fun o e => k4 _ _ rowd e, hi⟩
      have m4 : MvD k.dom [k.env.locals] s { s₂ with heap := h₄, toks := s₂.toks + 1 + 1 } := m3.trans (mvd_but (.inl x.nnew) (cls_list c3.nxl) k4 rfl rfl rfl (Nat.le_refl _))
      obtain ⟨tl', vl4⟩ := c4.vlev
      rw [hm']
      refine seg_execs_cons (seg_Expr_Yield hfs rfl hfg (wpAny_Tuple_spliced (arg_cons (ev_name F.kind (vw3.butOut NXo k4) (arg1 (ev_name F.kind vl4 ⟨by show 2 ≤ sizeLine; decide, fun kap hkap => ?_⟩)))) ) (by rw [b.scope]; decide +kernel) (by unfold interactive; rw [F.kind]; rfl))
      generalize hU : h₄.objs.size = U
      generalize hs5 : ({ s₂ with heap := h₄.push { cls := .type "tuple", data := .seq [Value.int al[q] t, Value.int L tl'].toArray }, toks := s₂.toks + 1 + 1 } : Shared) = s₅
      have m45 : Mv [] { s₂ with heap := h₄, toks := s₂.toks + 1 + 1 } s₅ := by rw [← hs5]; exact Mv.push _ _ _
      have ht5 : s₅.toks = s₂.toks + 1 + 1 := by rw [← hs5]
      have hU5 : s₅.heap.IsTuple U #[.int al[q] t, .int L tl'] := by rw [← hs5, ← hU]; exact ⟨_, Heap.get?_push_size _ rfl, rfl, 0, rfl⟩
      have e1 : T.length - 1 - m' = i := by omega
      have e2 : m' = T.length - (i + 1) := by omega
      refine ⟨by omega, ?_, hm.trans (m4.trans (mvd_mv m45 (by show s₂.toks + 1 + 1 ≤ _; omega))), BI prog w k SN NX O TL I La L (seen ++ [al[q]]) (nx ++ [al[q]]) tl al p (q + 1), ?_, BI.stab b, fun _ _ => trivial, fun s'' hJ'' => hkap .none s'' ?_⟩
      · rw [e1]; exact ⟨_, hget, U, t, tl', rfl, hU5⟩
      · have k5 := m45.all
        exact ⟨c4.ex (s := { s₂ with heap := h₄, toks := s₂.toks + 1 + 1 }) m45.ex, ⟨x4.it.at fun o e => k5 _ _ e, x4.lst.keeps fun b o e _ => k5 _ _ e, x4.onew, x4.tnew⟩, ((itS it2).at fun o e => k4 _ _ nI3 e).at fun o e => k5 _ _ e, row4.keeps fun b o e _ => k5 _ _ e, x.rowA, x.inew, x.nnew, x.IO, x.NT, pl4.at fun o e => k5 _ _ e⟩
      · show Seg _ _ _ _ m' s'' _ _ fs s''
        refine seg_execs_nil (seg_execs_nil (seg_again rfl ?_))
        rw [e2]
        exact ih (q + 1) (i + 1) _ _ s'' s'' (by omega) hlt hJ'' hr' hiL (MvD.refl _ _ _)
end
end Mine
end

section
open PySem PySem.W PyProof.Rows PySem.Calls
set_option maxRecDepth 100000
set_option linter.unusedVariables false
namespace Mine
def b2R : List Stmt := match b2B with | [_, i] => [i] | _ => []
section
variable {prog : Program} {w : World} {A : Around} {E : Value → Shared → Prop} {s : Shared} {k : BK} {SN NX O TL I La : Addr} {L : Nat} {seen nx tl al : List Int} {p q : Nat} {h h' : Heap}

theorem valueAt_mem {kvs : List (Int × Value)} {v : Int} (h : v ∈ kvs.map (·.1)) : ∃ x, valueAt kvs v = some x ∧ (v, x) ∈ kvs := by
  induction kvs with
  | nil => cases h
  | cons p r ih =>
    rw [valueAt_cons]
    by_cases e : p.1 = v
    · exact ⟨p.2, by rw [if_pos e], by rw [← e]; exact List.mem_cons_self⟩
    · rw [if_neg e]
      rcases List.mem_cons.mp h with h | h
      · exact absurd h.symm e
      · obtain ⟨x, h1, h2⟩ := ih h
        exact ⟨x, h1, List.mem_cons_of_mem _ h2⟩

/-- the loop over one level's nodes -/
theorem bo_loop {T : List (Int × Int)} {fs : List Frame} {K : List Int → List Int → List (Int × Int)} (b : BS k) (hh : (marksOver fs (A.handled, A.handled)).1 = none) (hfs : splitAtGen fs = none) (hfg : fs.any Frame.guarded = false) (htl : ∀ x ∈ tl, x ∈ k.nodes)
    (hexit : ∀ i seen nx s₀ s, BC prog w k SN NX L seen nx s.heap → ¬ k.dom NX → PLI s.heap NX nx → T.drop i = K seen nx → i ≤ T.length → MvD k.dom [k.env.locals] s₀ s → BSeg prog w A k T (T.length - i) s₀ (.block [] k.env) (.pure (.done .next)) fs s)
    (hret : ∀ s₀ s, MvD k.dom [k.env.locals] s₀ s → BSeg prog w A k T 0 s₀ (.forLoop b2T (.ref O) b2B [] k.env) (.pure (.done (.ret .none))) fs s) :
    ∀ (z p i : Nat) (seen nx : List Int) (s₀ s : Shared), tl.length - p = z → p ≤ tl.length → BC prog w k SN NX L seen nx s.heap → BX k O TL tl p s.heap → ¬ k.dom NX → NX ≠ TL → PLI s.heap NX nx → T.drop i = rOut L k.kvs.length k.gr (tl.drop p) seen nx K → i ≤ T.length → MvD k.dom [k.env.locals] s₀ s →
      BSeg prog w A k T (T.length - i) s₀ (.forLoop b2T (.ref O) b2B [] k.env) ((model prog w).den (.forLoop b2T (.ref O) b2B [] k.env)) fs s := by
  have KI : Kin k.env (dr 3).scope := Kin.of b.scope
  obtain ⟨hb, F⟩ := b.fm
  have hA : ∀ c, (A.over c fs).handled = none := fun c => hh
  intro z
  induction z with
  | zero =>
    intro p i seen nx s₀ s hz hp c x hN hNT pl hr hi hm
    have hpe : p = tl.length := by omega
    obtain ⟨vs, hlv, hiv⟩ := id x.lst
    have hsz : vs.length = tl.length := hiv.length
    refine seg_forLoop ?_ (fun v => rfl)
    refine wpAny_pyNext_list_end (hA _) x.it hlv (by simp; omega) fun h' he => ?_
    have k1 : ∀ b o, b ≠ O → s.heap.get? b = some o → h'.get? b = some o := fun b o hb e => he b o hb e
    rw [hpe, List.drop_length] at hr
    obtain ⟨oI, eI, _, dI⟩ := id x.it
    have nI := c.notIter eI ⟨_, dI⟩
    exact seg_block_nil (hexit i seen nx s₀ { s with heap := h' } (c.but b.cells nI (fun hd => absurd hd x.onew) k1) hN (pl.at fun o e => k1 _ _ (Ne.symm nI.2.2.1) e) hr hi (hm.trans (mvd_but (s' := { s with heap := h' }) (.inl x.onew) (cls_iter x.it) k1 rfl rfl rfl (Nat.le_refl _))))
  | succ z ih =>
    intro p i seen nx s₀ s hz hp c x hN hNT pl hr hi hm
    have hlt : p < tl.length := by omega
    obtain ⟨vs, hlv, hiv⟩ := id x.lst
    obtain ⟨t, ht⟩ := ints_get hiv p tl[p] (by simp [hlt])
    have hx : vs.toArray[p]? = some (.int tl[p] t) := by simpa using ht
    have hdrop : tl.drop p = tl[p] :: tl.drop (p + 1) := List.drop_eq_getElem_cons hlt
    rw [hdrop] at hr
    refine seg_forLoop ?_ (fun v => rfl)
    refine wpAny_pyNext_list_item x.it hlv hx fun h1 hit1 hs1 => ?_
    have k1 : ∀ b o, b ≠ O → s.heap.get? b = some o → h1.get? b = some o := fun b o hb e => hs1.extBut b o hb e
    obtain ⟨oI, eI, _, dI⟩ := id x.it
    have nI := c.notIter eI ⟨_, dI⟩
    have c1 : BC prog w k SN NX L seen nx h1 := c.but b.cells nI (fun hd => absurd hd x.onew) k1
    have lst1 : LI h1 TL tl := ⟨vs, hlv.at fun o e => k1 _ _ (Ne.symm (li_iter_ne x.it x.lst)) e, hiv⟩
    have m1 : MvD k.dom [k.env.locals] s { s with heap := h1 } := mvd_but (.inl x.onew) (cls_iter x.it) k1 rfl rfl rfl (Nat.le_refl _)
    refine wpAny_assign_Name (st_name (s := { s with heap := h1 }) F c1.live (.inl (KI _ _ (by decide) (by decide +kernel))) (by decide) fun s₂ st2 => ?_)
    have c2 : BC prog w k SN NX L seen nx s₂.heap := c1.st (s := { s with heap := h1 }) b.out b.dout st2 (by decide)
    have sq2 := st2.stp.seq c1.live
    have it2 : s₂.heap.IsListIter O TL (p + 1) := hit1.at fun o e => st2.fs.kp _ _ (let ⟨o', ho', _, hd⟩ := hit1; c1.live.fieldsOut ho' ⟨_, hd⟩) (fun q => nomatch q) e
    have lst2 : LI s₂.heap TL tl := lst1.keeps sq2
    have pl2 : PLI s₂.heap NX nx := (pl.at fun o e => k1 _ _ (Ne.symm nI.2.2.1) e).at fun o e => sq2 _ _ e (by obtain ⟨vs, hl, _⟩ := c1.nxl; obtain ⟨o', e', q⟩ := IsList.seq hl; rw [e'] at e; cases e; exact q)
    have m2 : MvD k.dom [k.env.locals] s s₂ := m1.trans (mvd_st (s := { s with heap := h1 }) b.cells c1.live st2)
    have hvn : tl[p] ∈ k.nodes := htl _ (List.getElem_mem hlt)
    obtain ⟨xv, hval, hmem⟩ := valueAt_mem hvn
    obtain ⟨La, hLa, hrow⟩ := c2.rows _ hmem
    simp only at hLa hrow
    subst hLa
    obtain ⟨ws, hlw, hiw⟩ := id hrow
    refine seg_execs_cons (seg_For (sub_dict (ev_name F.kind c2.vadj (ev_name F.kind st2.var ⟨k.d, k.kvs, _, t, _, rfl, rfl, c2.dict, hval, ?_⟩))))
    refine wpAny_pyIter_list (s := { s₂ with toks := s₂.toks + 1 }) hlw fun pz => ?_
    generalize hI0 : s₂.heap.objs.size = I
    have hin : s₂.heap.get? I = none := none_ge (Nat.le_of_eq hI0)
    have hit3 : (s₂.heap.push { cls := .type "list_iterator", data := .fields #[.ref La, .int 0 0] }).IsListIter I La 0 := by rw [← hI0]; exact ⟨_, Heap.get?_push_size _ rfl, rfl, rfl⟩
    generalize hs3 : ({ s₂ with heap := s₂.heap.push { cls := .type "list_iterator", data := .fields #[.ref La, .int 0 0] }, toks := s₂.toks + 1 } : Shared) = s₃
    have m3 : Mv [] s₂ s₃ := by rw [← hs3]; exact Mv.push s₂ _ _
    have ht3 : s₃.toks = s₂.toks + 1 := by rw [← hs3]
    have hit4 : s₃.heap.IsListIter I La 0 := by rw [← hs3]; exact hit3
    have Inew : ¬ k.dom I := fun hd => by obtain ⟨o, ho⟩ := c2.dm _ hd; rw [hin] at ho; cases ho
    have IOne : I ≠ O := fun q => by obtain ⟨o, ho, _⟩ := it2; rw [← q, hin] at ho; cases ho
    have kv2 := m3.all
    refine bi_loop (K := fun seen nx => if seen.length = k.kvs.length then [] else rOut L k.kvs.length k.gr (tl.drop (p + 1)) seen nx K) b ?a0 ?a1 ?a2 (b.rl _ hmem) (fun y hy => b.closed _ hvn y hy) ?a3 _ 0 i seen nx s₀ s₃ rfl (Nat.zero_le _)
      ⟨c2.ex m3.ex, ⟨it2.at fun o e => kv2 _ _ e, lst2.keeps fun b o e _ => kv2 _ _ e, x.onew, x.tnew⟩, hit4, hrow.keeps fun b o e _ => kv2 _ _ e, rowAddrs_mem hmem rfl, Inew, hN, IOne, hNT, pl2.at fun o e => kv2 _ _ e⟩
      (by rw [hr]; simp [rOut]) hi (hm.trans (m2.trans (mvd_mv m3 (by omega))))
    case a0 => exact hh
    case a1 => show (splitAtGen fs).map _ = none; rw [hfs]; rfl
    case a2 => show (_ || fs.any Frame.guarded) = false; rw [hfg]; rfl
    case a3 =>
      intro i' seen' nx' s₀' s' ⟨c', x', hN', hNT', pl'⟩ hr' hi' hm'
      refine seg_leaf (.ok .next) (show Seg _ _ _ _ _ _ _ ((execs b2R k.env).wrap (forK b2T (.ref O) b2B [] k.env) (noteH k.env) id id) fs s' from ?_)
      refine seg_execs_cons (seg_If ?_)
      have hsl : seen'.length ≤ 20 := Nat.le_trans (nodup_len c'.set.1.1 c'.sub) (by have := b.len; simpa [BK.nodes] using this)
      obtain ⟨tn, vn'⟩ := c'.vn
      refine wpAny_isTrue_Compare1 (ev_cB F c'.wd KI (kB_of (by decide +kernel) kv_len : kB (dr 3).scope "len" (.builtin "len") = true) (arg1 (ev_name F.kind c'.vseen (len_set c'.set (by omega) (ev_name F.kind (s := { s' with toks := s'.toks + 1 + 1 }) vn' (PySem.P.eq_int (wpAny_truthy_bool ?_)))))))
      have mt : MvD k.dom [k.env.locals] s₀' { s' with toks := s'.toks + 1 + 1 } := hm'.trans (mvd_toks _ (by omega))
      by_cases hEq : seen'.length = k.kvs.length
      · rw [if_pos (by rw [hEq]; simp)]
        have hz0 : T.length - i' = 0 := by
          rw [if_pos hEq] at hr'
          have : (T.drop i').length = 0 := by rw [hr']; rfl
          rw [List.length_drop] at this; exact this
        rw [hz0]
        exact seg_execs_cons (seg_wrap (wpAny_Return_none (hret _ _ mt)))
      · rw [if_neg (by simpa using fun h => hEq (by exact_mod_cast h))]
        rw [if_neg hEq] at hr'
        refine seg_execs_nil (seg_execs_nil (seg_again rfl ?_))
        exact ih (p + 1) i' seen' nx' s₀' { s' with toks := s'.toks + 1 + 1 } (by omega) hlt (c'.ex (Ex.toks _ _)) ⟨x'.it, x'.lst, x'.onew, x'.tnew⟩ hN' hNT' pl' hr' hi' mt
end
end Mine
end

section
open PySem PySem.W PyProof.Rows PySem.Calls
set_option maxRecDepth 100000
set_option linter.unusedVariables false
namespace Mine
section
variable {prog : Program} {w : World} {A : Around} {E : Value → Shared → Prop} {s : Shared} {k : BK} {SN NX O TL I La : Addr} {L : Nat} {seen nx tl al : List Int} {p q : Nat} {h h' : Heap}

theorem BC.dm_st {s s' : Shared} {n : Str} {v : Value} (x : BC prog w k SN NX L seen nx s.heap) (st : Stored k.env n v s s') : ∀ b, k.dom b → ∃ o, s'.heap.get? b = some o := fun b hb => by
  by_cases e : b = k.env.locals
  · subst e; obtain ⟨m, o, _, _, ho, _⟩ := st.live.ns; exact ⟨o, ho⟩
  · obtain ⟨o, ho⟩ := x.dm b hb
    by_cases ec : ∃ n, k.env.cells.lookup n = some b
    · obtain ⟨n', hn'⟩ := ec; obtain ⟨v', o', ho', _⟩ := st.live.cell n' b hn'; exact ⟨o', ho'⟩
    · exact ⟨o, st.fs.kp b o ⟨e, fun n' q => ec ⟨n', q⟩⟩ (fun q => nomatch q) ho⟩
theorem BC.lev {s s' : Shared} {L' : Nat} {t : Tok} (x : BC prog w k SN NX L seen nx s.heap) (O : WOut k.env) (hdo : Out k.env k.d) (st : Stored k.env (nm "level") (.int L' t) s s') : BC prog w k SN NX L' seen nx s'.heap := by
  have sq := st.stp.seq x.live
  exact ⟨x.dm_st st, x.wd.fs O st.fs, st.live, st.vars _ _ (by decide) x.vadj, let ⟨t, v⟩ := x.vcut; ⟨t, st.vars _ _ (by decide) v⟩, ⟨t, st.var⟩, let ⟨t, v⟩ := x.vn; ⟨t, st.vars _ _ (by decide) v⟩, st.vars _ _ (by decide) x.vseen, st.vars _ _ (by decide) x.vnx,
    st.stp.set x.live x.set, x.snew, x.nxl.keeps sq, x.nnew, x.dict.at fun o e => st.fs.kp _ o hdo (fun q => nomatch q) e, fun kv hkv => let ⟨La, e, hl⟩ := x.rows kv hkv; ⟨La, e, hl.keeps sq⟩, x.sub, x.nsub, x.nlen⟩
theorem BC.nxt {s s' : Shared} {NX' : Addr} {nx' : List Int} (x : BC prog w k SN NX L seen nx s.heap) (O : WOut k.env) (hdo : Out k.env k.d) (st : Stored k.env (nm "nextlevel") (.ref NX') s s') (hl : LI s'.heap NX' nx') (hn : NX' ∈ k.fp ∨ ¬ k.dom NX') (hs : ∀ y ∈ nx', y ∈ k.nodes) (hle : nx'.length ≤ seen.length) : BC prog w k SN NX' L seen nx' s'.heap := by
  have sq := st.stp.seq x.live
  exact ⟨x.dm_st st, x.wd.fs O st.fs, st.live, st.vars _ _ (by decide) x.vadj, let ⟨t, v⟩ := x.vcut; ⟨t, st.vars _ _ (by decide) v⟩, let ⟨t, v⟩ := x.vlev; ⟨t, st.vars _ _ (by decide) v⟩, let ⟨t, v⟩ := x.vn; ⟨t, st.vars _ _ (by decide) v⟩, st.vars _ _ (by decide) x.vseen, st.var,
    st.stp.set x.live x.set, x.snew, hl, hn, x.dict.at fun o e => st.fs.kp _ o hdo (fun q => nomatch q) e, fun kv hkv => let ⟨La, e, hl⟩ := x.rows kv hkv; ⟨La, e, hl.keeps sq⟩, x.sub, hs, hle⟩

def whK (k : BK) : Flow → Sem Fin := fun f => match f with
  | .next | .cont => .pure (.again (.whileLoop bwT bwB [] k.env))
  | .brk => .pure (.done .next)
  | .ret v => .pure (.done (.ret v))

/-- the loop over the levels -/
theorem bw_loop {T : List (Int × Int)} {fs : List Frame} (b : BS k) (hh : (marksOver fs (A.handled, A.handled)).1 = none) (hfs : splitAtGen fs = none) (hfg : fs.any Frame.guarded = false)
    (hexit : ∀ s₀ s, MvD k.dom [k.env.locals] s₀ s → BSeg prog w A k T 0 s₀ (.whileLoop bwT bwB [] k.env) (.pure (.done .next)) fs s)
    (hret : ∀ s₀ s, MvD k.dom [k.env.locals] s₀ s → BSeg prog w A k T 0 s₀ (.whileLoop bwT bwB [] k.env) (.pure (.done (.ret .none))) fs s) :
    ∀ (f L : Nat) (NX : Addr) (nx seen : List Int) (i : Nat) (s₀ s : Shared), f = k.cut - L → BC prog w k SN NX L seen nx s.heap → T.drop i = rWh k.kvs.length k.gr f L nx seen → i ≤ T.length → MvD k.dom [k.env.locals] s₀ s →
      BSeg prog w A k T (T.length - i) s₀ (.whileLoop bwT bwB [] k.env) ((model prog w).den (.whileLoop bwT bwB [] k.env)) fs s := by
  have KI : Kin k.env (dr 3).scope := Kin.of b.scope
  obtain ⟨hb, F⟩ := b.fm
  intro f
  induction f with
  | zero =>
    intro L NX nx seen i s₀ s hf c hr hi hm
    have hz0 : T.length - i = 0 := by
      have : (T.drop i).length = 0 := by rw [hr]; rfl
      rw [List.length_drop] at this; exact this
    rw [hz0]
    obtain ⟨vs, hlv, hiv⟩ := id c.nxl
    have hsl : seen.length ≤ 20 := Nat.le_trans (nodup_len c.set.1.1 c.sub) (by have := b.len; simpa [BK.nodes] using this)
    have hfit : ((vs.toArray.size : Nat) : Int) < 2 ^ 63 := by have := hiv.length; have := c.nlen; simp; omega
    obtain ⟨tc, vc⟩ := c.vcut
    obtain ⟨tv, vl⟩ := c.vlev
    refine seg_whileLoop (wpAny_isTrue_BoolOp (wpAny_allTrue_And_cons (wpAny_isTrue_value (ev_name F.kind c.vnx (wpAny_truthy_list hlv hfit ?_)))))
    have mt : MvD k.dom [k.env.locals] s₀ { s with toks := s.toks + 1 + 1 } := hm.trans (mvd_toks _ (by omega))
    cases hne : (!vs.toArray.isEmpty) with
    | false =>
      rw [if_neg (by simp)]
      exact seg_execs_nil (hexit _ _ mt)
    | true =>
      rw [if_pos rfl]
      refine wpAny_allTrue_And_cons (wpAny_isTrue_Compare1 (ev_name F.kind vc (ev_name F.kind vl (PySem.P.gt_int (wpAny_truthy_bool ?_)))))
      rw [if_neg (by simp; omega)]
      rw [if_neg (by simp)]
      exact seg_execs_nil (hexit _ _ mt)
  | succ f ih =>
    intro L NX nx seen i s₀ s hf c hr hi hm
    obtain ⟨vs, hlv, hiv⟩ := id c.nxl
    have hsl : seen.length ≤ 20 := Nat.le_trans (nodup_len c.set.1.1 c.sub) (by have := b.len; simpa [BK.nodes] using this)
    have hfit : ((vs.toArray.size : Nat) : Int) < 2 ^ 63 := by have := hiv.length; have := c.nlen; simp; omega
    obtain ⟨tc, vc⟩ := c.vcut
    obtain ⟨tv, vl⟩ := c.vlev
    refine seg_whileLoop (wpAny_isTrue_BoolOp (wpAny_allTrue_And_cons (wpAny_isTrue_value (ev_name F.kind c.vnx (wpAny_truthy_list hlv hfit ?_)))))
    have mt : MvD k.dom [k.env.locals] s₀ { s with toks := s.toks + 1 + 1 } := hm.trans (mvd_toks _ (by omega))
    have ct : BC prog w k SN NX L seen nx ({ s with toks := s.toks + 1 + 1 } : Shared).heap := c
    cases hne : (!vs.toArray.isEmpty) with
    | false =>
      rw [if_neg (by simp)]
      have hnx : nx = [] := by
        have h1 : vs = [] := by simpa using hne
        subst h1; cases hiv; rfl
      have hz0 : T.length - i = 0 := by
        have : (T.drop i).length = 0 := by rw [hr, hnx]; simp [rWh]
        rw [List.length_drop] at this; exact this
      rw [hz0]
      exact seg_execs_nil (hexit _ _ mt)
    | true =>
      have hnx : nx ≠ [] := fun e => by
        subst e; cases hiv; simp at hne
      rw [if_pos rfl]
      refine wpAny_allTrue_And_cons (wpAny_isTrue_Compare1 (ev_name F.kind vc (ev_name F.kind vl (PySem.P.gt_int (wpAny_truthy_bool ?_)))))
      rw [if_pos (by simp; omega)]
      refine wpAny_allTrue_And_nil ?_
      rw [if_pos rfl]
      -- level += 1
      refine seg_execs_cons (seg_wrap (wpAny_AugAssign_Name (ld F.kind vl (wpAny_Constant_int (i_iadd ?_)))))
      refine st_name F c.live (.inl (KI _ _ (by decide) (by decide +kernel))) (by decide) fun s₂ st2 => ?_
      have c2 : BC prog w k SN NX (L + 1) seen nx s₂.heap := BC.lev (L' := L + 1) (s := { s with toks := s.toks + 1 + 1 + 1 + 1 }) c b.out b.dout (by
        have : ((L : Int) + 1) = ((L + 1 : Nat) : Int) := by push_cast; rfl
        rw [← this]; exact st2)
      have hm2 : MvD k.dom [k.env.locals] s₀ s₂ := mt.trans (MvD.trans (mvd_toks (dom := k.dom) (wr := [k.env.locals]) { s with toks := s.toks + 1 + 1 } (t := s.toks + 1 + 1 + 1 + 1) (by show s.toks + 1 + 1 ≤ _; omega)) (mvd_st (s := { s with toks := s.toks + 1 + 1 + 1 + 1 }) b.cells c.live st2))
      -- thislevel = nextlevel
      refine seg_execs_cons (seg_wrap (as_l F KI (by decide +kernel) (ev_name F.kind c2.vnx ⟨c2.live, fun s₃ st3 => ?_⟩)))
      have c3 : BC prog w k SN NX (L + 1) seen nx s₃.heap := c2.st b.out b.dout st3 (by decide)
      have hm3 := hm2.trans (mvd_st b.cells c2.live st3)
      -- nextlevel = []
      refine seg_execs_cons (seg_wrap (as_l F KI (by decide +kernel) (wpAny_List_spliced (arg_nil ⟨by show 0 ≤ sizeLine; exact Nat.zero_le _, ?_⟩))))
      generalize hN0 : s₃.heap.objs.size = NX'
      have hNn : s₃.heap.get? NX' = none := none_ge (Nat.le_of_eq hN0)
      have hpl0 : (s₃.heap.push { cls := .type "list", data := .seq ([] : List Value).toArray }).PlainList NX' #[] := by rw [← hN0]; exact ⟨0, Heap.get?_push_size _ rfl⟩
      generalize hs4 : ({ s₃ with heap := s₃.heap.push { cls := .type "list", data := .seq ([] : List Value).toArray } } : Shared) = s₄
      have m4 : Mv [] s₃ s₄ := by rw [← hs4]; exact Mv.push s₃ _ s₃.toks
      have ht4 : s₄.toks = s₃.toks := by rw [← hs4]
      have hpl4 : PLI s₄.heap NX' [] := by rw [← hs4]; exact ⟨[], hpl0, .nil⟩
      have c4 : BC prog w k SN NX (L + 1) seen nx s₄.heap := c3.ex m4.ex
      refine ⟨c4.live, fun s₅ st5 => ?_⟩
      have sq5 := st5.stp.seq c4.live
      have seq4 : ∀ o, s₄.heap.get? NX' = some o → IsSeq o := fun o e => by
        obtain ⟨vs, ⟨n, ho⟩, _⟩ := hpl4
        rw [ho] at e; cases e; exact ⟨_, n, rfl⟩
      have pl5 : PLI s₅.heap NX' [] := hpl4.at fun o e => sq5 _ _ e (seq4 o e)
      have Nnew : ¬ k.dom NX' := fun hd => by obtain ⟨o, ho⟩ := c3.dm _ hd; rw [hNn] at ho; cases ho
      have c5 : BC prog w k SN NX' (L + 1) seen [] s₅.heap := c4.nxt b.out b.dout st5 pl5.li (.inr Nnew) (by simp) (by simp)
      have hNT : NX' ≠ NX := fun e => by
        obtain ⟨vs, hl, _⟩ := c3.nxl; obtain ⟨o, ho, _⟩ := IsList.seq hl
        rw [← e, hNn] at ho; cases ho
      have tl5 : LI s₅.heap NX nx := c4.nxl.keeps sq5
      have vt5 : VarAt s₅.heap k.env (nm "thislevel") (.ref NX) := st5.vars _ _ (by decide) (st3.var.keeps m4.all)
      have hm5 := (hm3.trans (mvd_mv m4 (by omega))).trans (mvd_st b.cells c4.live st5)
      obtain ⟨ws, hlw, hiw⟩ := id tl5
      refine seg_execs_cons (seg_For (ev_name F.kind vt5 (wpAny_pyIter_list hlw fun pz => ?_)))
      generalize hO0 : s₅.heap.objs.size = O
      have hOn : s₅.heap.get? O = none := none_ge (Nat.le_of_eq hO0)
      have hit6' : (s₅.heap.push { cls := .type "list_iterator", data := .fields #[.ref NX, .int 0 0] }).IsListIter O NX 0 := by rw [← hO0]; exact ⟨_, Heap.get?_push_size _ rfl, rfl, rfl⟩
      generalize hs6 : ({ s₅ with heap := s₅.heap.push { cls := .type "list_iterator", data := .fields #[.ref NX, .int 0 0] } } : Shared) = s₆
      have m6 : Mv [] s₅ s₆ := by rw [← hs6]; exact Mv.push s₅ _ s₅.toks
      have ht6 : s₆.toks = s₅.toks := by rw [← hs6]
      have hit6 : s₆.heap.IsListIter O NX 0 := by rw [← hs6]; exact hit6'
      have Onew : ¬ k.dom O := fun hd => by obtain ⟨o, ho⟩ := c5.dm _ hd; rw [hOn] at ho; cases ho
      refine bo_loop (K := fun seen nx => rWh k.kvs.length k.gr f (L + 1) nx seen) b ?a0 ?a1 ?a2 c.nsub ?a3 ?a4 _ 0 i seen [] s₀ s₆ rfl (Nat.zero_le _) (c5.ex m6.ex) ⟨hit6, tl5.keeps fun b o e _ => m6.all _ _ e, Onew, c.nnew⟩ Nnew hNT (pl5.at fun o e => m6.all _ _ e) (by rw [hr]; simp [rWh, hnx]) hi (hm5.trans (mvd_mv m6 (by omega)))
      case a0 => exact hh
      case a1 => show (splitAtGen fs).map _ = none; rw [hfs]; rfl
      case a2 => show (_ || fs.any Frame.guarded) = false; rw [hfg]; rfl
      case a3 =>
        intro i' seen' nx' s₀' s' c' _ _ hr' hi' hm'
        refine seg_leaf (.ok .next) (show Seg _ _ _ _ _ _ _ (whK k .next) fs s' from ?_)
        exact seg_again rfl (ih (L + 1) NX' nx' seen' i' s₀' s' (by omega) c' hr' hi' hm')
      case a4 =>
        intro s₀' s' hm'
        exact seg_leaf (.ok (.ret .none)) (hret _ _ hm')
end
end Mine
end

section
open PySem PySem.W PyProof.Rows PySem.Calls
set_option maxRecDepth 100000
set_option linter.unusedVariables false
namespace Mine
theorem firstMet_nodup {ns : List Int} (hn : ns.Nodup) : ∀ i, i ≤ ns.length → firstMet (fun i => ns.getD i 0) i = ns.take i := by
  intro i
  induction i with
  | zero => intro _; rw [firstMet_zero]; rfl
  | succ i ih =>
    intro hi
    rw [firstMet_succ, ih (by omega)]
    unfold step_dedup
    have hlt : i < ns.length := by omega
    have hg : ns.getD i 0 = ns[i] := by rw [List.getD_eq_getElem?_getD, List.getElem?_eq_getElem hlt]; rfl
    rw [if_neg]
    · rw [List.take_succ_eq_append_getElem hlt, hg]
    · intro h
      rw [List.any_eq_true] at h
      obtain ⟨x, hx, he⟩ := h
      have : x = ns[i] := by rw [← hg]; simpa using he
      subst this
      obtain ⟨j, hj, e⟩ := List.mem_iff_getElem.mp hx
      have hjl : j < i := by have := hj; rw [List.length_take] at this; omega
      have hjn : j < ns.length := by omega
      rw [List.getElem_take] at e
      exact (List.pairwise_iff_getElem.mp hn) j i hjn hlt hjl e

structure B0 (prog : Program) (w : World) (k : BK) (flist : List Int) (h : Heap) : Prop where
  dm : ∀ b, k.dom b → ∃ o, h.get? b = some o
  wd : Wd k.mg k.mb h
  live : Live k.env h
  vadj : VarAt h k.env (nm "adj") (.ref k.d)
  vfl : VarAt h k.env (nm "firstlevel") (.ref k.fl)
  vcut : ∃ t, VarAt h k.env (nm "cutoff") (.int k.cut t)
  dict : DictI prog w h k.d k.kvs
  rows : ∀ kv ∈ k.kvs, ∃ La, kv.2 = .ref La ∧ LI h La (k.gr kv.1)
  fll : LI h k.fl flist

section
variable {prog : Program} {w : World} {A : Around} {E : Value → Shared → Prop} {s : Shared} {k : BK} {SN NX O TL I La : Addr} {L : Nat} {seen nx tl al flist : List Int} {p q : Nat} {h h' : Heap}

theorem B0.ex {s s' : Shared} (x : B0 prog w k flist s.heap) (y : Ex s s') : B0 prog w k flist s'.heap :=
  ⟨fun b hb => let ⟨o, ho⟩ := x.dm b hb; ⟨o, y.kp _ _ ho⟩, x.wd.keeps y.kp, x.live.keeps y.kp, x.vadj.keeps y.kp, x.vfl.keeps y.kp, let ⟨t, v⟩ := x.vcut; ⟨t, v.keeps y.kp⟩, x.dict.at fun o e => y.kp _ _ e, fun kv hkv => let ⟨La, e, hl⟩ := x.rows kv hkv; ⟨La, e, hl.keeps y.seq⟩, x.fll.keeps y.seq⟩
theorem B0.st {s s' : Shared} {n : Str} {v : Value} (x : B0 prog w k flist s.heap) (O : WOut k.env) (hdo : Out k.env k.d) (hc : k.env.cells = []) (st : Stored k.env n v s s') (h1 : nm "adj" ≠ n) (h2 : nm "firstlevel" ≠ n) (h3 : nm "cutoff" ≠ n) : B0 prog w k flist s'.heap := by
  have sq := st.stp.seq x.live
  exact ⟨fun b hb => by
      by_cases e : b = k.env.locals
      · subst e; obtain ⟨m, o, _, _, ho, _⟩ := st.live.ns; exact ⟨o, ho⟩
      · obtain ⟨o, ho⟩ := x.dm b hb
        exact ⟨o, st.fs.kp b o ⟨e, fun n' => by rw [hc]; simp⟩ (fun q => nomatch q) ho⟩,
    x.wd.fs O st.fs, st.live, st.vars _ _ h1 x.vadj, st.vars _ _ h2 x.vfl, let ⟨t, v⟩ := x.vcut; ⟨t, st.vars _ _ h3 v⟩, x.dict.at fun o e => st.fs.kp _ o hdo (fun q => nomatch q) e, fun kv hkv => let ⟨La, e, hl⟩ := x.rows kv hkv; ⟨La, e, hl.keeps sq⟩, x.fll.keeps sq⟩
theorem B0.stab (b : BS k) : JStab (B0 prog w k flist) k.dom k.fp := by
  intro h h' S x hS hSf hSe hk
  have df : ∀ {a}, a ∈ k.fp → a ≠ S := fun ha e => hSf (e ▸ ha)
  have hSo : Out k.env S := ⟨Ne.symm (df (by simp [BK.fp])), fun n => by rw [b.cells]; simp⟩
  have l4 : ∀ {a ns}, a ∈ k.fp → LI h a ns → LI h' a ns := fun ha ⟨vs, hl, hi⟩ => ⟨vs, hl.at fun o e => hk _ o (df ha) e, hi⟩
  exact ⟨dm_but x.dm hSe hk, ⟨x.wd.g.at' fun o e => hk _ o (df (by simp [BK.fp])) e, x.wd.b.at' fun o e => hk _ o (df (by simp [BK.fp])) e, x.wd.lim.at fun o e => hk _ o (df (by simp [BK.fp])) e, x.wd.bi, x.wd.nob⟩,
    x.live.butOut hSo hk, x.vadj.butOut hSo hk, x.vfl.butOut hSo hk, let ⟨t, v⟩ := x.vcut; ⟨t, v.butOut hSo hk⟩, x.dict.at fun o e => hk _ o (df (by simp [BK.fp])) e,
    fun kv hkv => let ⟨La, e, hl⟩ := x.rows kv hkv; ⟨La, e, l4 (by simp [BK.fp, rowAddrs_mem hkv e]) hl⟩, l4 (by simp [BK.fp]) x.fll⟩
theorem B1.stab (b : BS k) : JStab (fun h => BC prog w k SN k.fl 0 flist flist h ∧ BX k O k.fl flist p h) k.dom k.fp := by
  intro h h' S ⟨c, x⟩ hS hSf hSe hk
  have df : ∀ {a}, a ∈ k.fp → S ≠ a := fun ha e => hSf (e ▸ ha)
  have dn : ∀ {a}, ¬ k.dom a → S ≠ a := fun ha e => ha (e ▸ hS)
  exact ⟨c.but b.cells ⟨df (by simp [BK.fp]), dn c.snew, df (by simp [BK.fp]), df (by simp [BK.fp]), fun hm => hSf (by simp [BK.fp, hm]), df (by simp [BK.fp]), df (by simp [BK.fp]), df (by simp [BK.fp])⟩ (fun _ => hSe) hk,
    x.but (dn x.onew) (df (by simp [BK.fp])) hk⟩

/-- the loop that tells the nodes to begin with -/
theorem b1_loop {fs : List Frame} {T : List (Int × Int)} (b : BS k) (hh : (marksOver fs (A.handled, A.handled)).1 = none) (hfs : splitAtGen fs = none) (hfg : fs.any Frame.guarded = false) (hT : T = bfs k.kvs.length k.gr flist k.cut)
    (hexit : ∀ s₀ s, BC prog w k SN k.fl 0 flist flist s.heap → MvD k.dom [k.env.locals] s₀ s → BSeg prog w A k T (T.length - flist.length) s₀ (.block [] k.env) (.pure (.done .next)) fs s) :
    ∀ (z p : Nat) (s₀ s : Shared), flist.length - p = z → p ≤ flist.length → BC prog w k SN k.fl 0 flist flist s.heap → BX k O k.fl flist p s.heap → MvD k.dom [k.env.locals] s₀ s →
      BSeg prog w A k T (T.length - p) s₀ (.forLoop b1T (.ref O) b1B [] k.env) ((model prog w).den (.forLoop b1T (.ref O) b1B [] k.env)) fs s := by
  have KI : Kin k.env (dr 3).scope := Kin.of b.scope
  obtain ⟨hb, F⟩ := b.fm
  have hA : ∀ c, (A.over c fs).handled = none := fun c => hh
  intro z
  induction z with
  | zero =>
    intro p s₀ s hz hp c x hm
    have hpe : p = flist.length := by omega
    obtain ⟨vs, hlv, hiv⟩ := id x.lst
    have hsz : vs.length = flist.length := hiv.length
    refine seg_forLoop ?_ (fun v => rfl)
    refine wpAny_pyNext_list_end (hA _) x.it hlv (by simp; omega) fun h' he => ?_
    have k1 : ∀ b o, b ≠ O → s.heap.get? b = some o → h'.get? b = some o := fun b o hb e => he b o hb e
    obtain ⟨oI, eI, _, dI⟩ := id x.it
    have nI := c.notIter eI ⟨_, dI⟩
    rw [hpe]
    exact seg_block_nil (hexit s₀ { s with heap := h' } (c.but b.cells nI (fun hd => absurd hd x.onew) k1) (hm.trans (mvd_but (s' := { s with heap := h' }) (.inl x.onew) (cls_iter x.it) k1 rfl rfl rfl (Nat.le_refl _))))
  | succ z ih =>
    intro p s₀ s hz hp c x hm
    have hlt : p < flist.length := by omega
    obtain ⟨vs, hlv, hiv⟩ := id x.lst
    obtain ⟨t, ht⟩ := ints_get hiv p flist[p] (by simp [hlt])
    have hx : vs.toArray[p]? = some (.int flist[p] t) := by simpa using ht
    have hpT : p < T.length := by rw [hT]; unfold bfs; rw [List.length_append, List.length_map]; omega
    have hget : T[p]? = some (flist[p], (0 : Int)) := by
      rw [hT]; unfold bfs
      rw [List.getElem?_append_left (by rw [List.length_map]; exact hlt), List.getElem?_map, List.getElem?_eq_getElem hlt]; rfl
    obtain ⟨m', hm'⟩ : ∃ m', T.length - p = m' + 1 := ⟨T.length - p - 1, by omega⟩
    refine seg_forLoop ?_ (fun v => rfl)
    refine wpAny_pyNext_list_item x.it hlv hx fun h1 hit1 hs1 => ?_
    have k1 : ∀ b o, b ≠ O → s.heap.get? b = some o → h1.get? b = some o := fun b o hb e => hs1.extBut b o hb e
    obtain ⟨oI, eI, _, dI⟩ := id x.it
    have nI := c.notIter eI ⟨_, dI⟩
    have c1 : BC prog w k SN k.fl 0 flist flist h1 := c.but b.cells nI (fun hd => absurd hd x.onew) k1
    have lst1 : LI h1 k.fl flist := ⟨vs, hlv.at fun o e => k1 _ _ (Ne.symm (li_iter_ne x.it x.lst)) e, hiv⟩
    have m1 : MvD k.dom [k.env.locals] s { s with heap := h1 } := mvd_but (.inl x.onew) (cls_iter x.it) k1 rfl rfl rfl (Nat.le_refl _)
    refine wpAny_assign_Name (st_name (s := { s with heap := h1 }) F c1.live (.inl (KI _ _ (by decide) (by decide +kernel))) (by decide) fun s₂ st2 => ?_)
    have c2 : BC prog w k SN k.fl 0 flist flist s₂.heap := c1.st (s := { s with heap := h1 }) b.out b.dout st2 (by decide)
    have sq2 := st2.stp.seq c1.live
    have it2 : s₂.heap.IsListIter O k.fl (p + 1) := hit1.at fun o e => st2.fs.kp _ _ (let ⟨o', ho', _, hd⟩ := hit1; c1.live.fieldsOut ho' ⟨_, hd⟩) (fun q => nomatch q) e
    have m2 : MvD k.dom [k.env.locals] s s₂ := m1.trans (mvd_st (s := { s with heap := h1 }) b.cells c1.live st2)
    obtain ⟨tl', vl2⟩ := c2.vlev
    rw [hm']
    refine seg_execs_cons (seg_Expr_Yield hfs rfl hfg (wpAny_Tuple_spliced (arg_cons (ev_name F.kind st2.var (arg1 (ev_name F.kind vl2 ⟨by show 2 ≤ sizeLine; decide, fun kap hkap => ?_⟩)))) ) (by rw [b.scope]; decide +kernel) (by unfold interactive; rw [F.kind]; rfl))
    generalize hU : s₂.heap.objs.size = U
    generalize hs5 : ({ s₂ with heap := s₂.heap.push { cls := .type "tuple", data := .seq [Value.int flist[p] t, Value.int ((0 : Nat) : Int) tl'].toArray } } : Shared) = s₅
    have m45 : Mv [] s₂ s₅ := by rw [← hs5]; exact Mv.push _ _ _
    have ht5 : s₅.toks = s₂.toks := by rw [← hs5]
    have hU5 : s₅.heap.IsTuple U #[.int flist[p] t, .int ((0 : Nat) : Int) tl'] := by rw [← hs5, ← hU]; exact ⟨_, Heap.get?_push_size _ rfl, rfl, 0, rfl⟩
    have e1 : T.length - 1 - m' = p := by omega
    have e2 : m' = T.length - (p + 1) := by omega
    have k5 := m45.all
    refine ⟨by omega, ?_, hm.trans (m2.trans (mvd_mv m45 (by omega))), (fun h => BC prog w k SN k.fl 0 flist flist h ∧ BX k O k.fl flist (p + 1) h), ⟨c2.ex m45.ex, it2.at fun o e => k5 _ _ e, (lst1.keeps sq2).keeps fun b o e _ => k5 _ _ e, x.onew, x.tnew⟩, B1.stab b, fun _ _ => trivial, fun s'' hJ'' => hkap .none s'' ?_⟩
    · rw [e1]; exact ⟨_, hget, U, t, tl', rfl, hU5⟩
    · show Seg _ _ _ _ m' s'' _ _ fs s''
      refine seg_execs_nil (seg_again rfl ?_)
      rw [e2]
      exact ih (p + 1) s'' s'' (by omega) hlt hJ''.1 hJ''.2 (MvD.refl _ _ _)
end
end Mine
end

section
open PySem PySem.W PyProof.Rows PySem.Calls
set_option maxRecDepth 100000
set_option linter.unusedVariables false
namespace Mine
section
variable {prog : Program} {w : World} {A : Around} {E : Value → Shared → Prop} {s : Shared} {k : BK} {flist : List Int}

def bfW : List Stmt := match (dr 3).body with | [_, _, _, _, _, x] => [x] | _ => []
theorem drop_bfs {n : Nat} {gr : Int → List Int} {fl : List Int} {cut : Nat} : (bfs n gr fl cut).drop fl.length = rWh n gr cut 0 fl fl := by
  unfold bfs
  rw [List.drop_append_of_le_length (by simp)]
  have : (fl.map (fun x => (x, (0 : Int)))).drop fl.length = [] := by
    rw [List.drop_eq_nil_iff]; simp
  rw [this]; rfl

theorem bf_fresh {T : List (Int × Int)} {I : Addr} {g : Nat} (hA : A.handled = none) (b : BS k) (hT : T = bfs k.kvs.length k.gr flist k.cut) (hfn : flist.Nodup) (hfs : ∀ x ∈ flist, x ∈ k.nodes)
    (hI : k.dom I ∧ I ≠ k.env.locals) (hcs : cStatics ≠ k.env.locals)
    (hgen : s.heap.IsGen I g) (hgs : s.gens[g]? = some (.fresh (.func (dr 3).body k.env))) (hj : B0 prog w k flist s.heap) :
    GenSt prog w A k.dom [k.env.locals] k.fp T.length (BfP T) noInf I g 0 s := by
  refine ⟨hgen, hj.wd.lim, ⟨hI.1, by simp [hI.2]⟩, ⟨b.fpd _ (by simp [BK.fp]), by simp [hcs]⟩, _, hgs, B0 prog w k flist, hj, B0.stab b, fun _ _ => trivial, fun s'' x => ⟨rfl, ?_⟩⟩
  have KI : Kin k.env (dr 3).scope := Kin.of b.scope
  obtain ⟨hb, F⟩ := b.fm
  have hfl20 : flist.length ≤ 20 := Nat.le_trans (nodup_len hfn hfs) (by have := b.len; simpa [BK.nodes] using this)
  rw [Nat.sub_zero]
  refine seg_func ?_
  -- seen = set(firstlevel)
  refine seg_execs_cons (seg_wrap (as_l F KI (by decide +kernel) ?_))
  refine ev_cT F x.wd KI (kB_of (by decide +kernel) kv_set : kB (dr 3).scope "set" (.type "set") = true) (arg1 (ev_name F.kind x.vfl ?_))
  obtain ⟨vs, hlv, hiv⟩ := id x.fll
  have hvl : vs.length = flist.length := hiv.length
  refine set_list (ns := flist) hA hlv (by simpa using hiv) (by unfold scanBound; omega) fun SN s₁ m1 ht1 hSn set1' => ?_
  rw [dd_nodup hfn] at set1'
  have x1 := x.ex m1.ex
  have Snew : ¬ k.dom SN := fun hd => by obtain ⟨o, ho⟩ := x.dm _ hd; rw [hSn] at ho; cases ho
  have hSo : Out k.env SN := x.live.out hSn
  refine ⟨x1.live, fun s₂ st2 => ?_⟩
  have x2 := x1.st b.out b.dout b.cells st2 (by decide) (by decide) (by decide)
  have set2 := st2.stp.set x1.live set1'
  have m2 : MvD k.dom [k.env.locals] s'' s₂ := (mvd_mv m1 ht1).trans (mvd_st b.cells x1.live st2)
  -- nextlevel = firstlevel
  refine seg_execs_cons (seg_wrap (as_l F KI (by decide +kernel) (ev_name F.kind x2.vfl ⟨x2.live, fun s₃ st3 => ?_⟩)))
  have x3 := x2.st b.out b.dout b.cells st3 (by decide) (by decide) (by decide)
  have set3 := st3.stp.set x2.live set2
  have vs3 := st3.vars _ _ (by decide) st2.var
  have m3 := m2.trans (mvd_st b.cells x2.live st3)
  -- level = 0
  refine seg_execs_cons (seg_wrap (as_l F KI (by decide +kernel) (wpAny_Constant_int ⟨x3.live, fun s₄ st4 => ?_⟩)))
  have x3' : B0 prog w k flist ({ s₃ with toks := s₃.toks + 1 } : Shared).heap := x3
  have x4 := x3'.st b.out b.dout b.cells st4 (by decide) (by decide) (by decide)
  have set4 := st4.stp.set x3'.live set3
  have vs4 := st4.vars _ _ (by decide) vs3
  have vn4 := st4.vars _ _ (by decide) st3.var
  have m4 : MvD k.dom [k.env.locals] s'' s₄ := m3.trans ((mvd_toks s₃ (Nat.le_succ _)).trans (mvd_st (s := { s₃ with toks := s₃.toks + 1 }) b.cells x3.live st4))
  -- n = len(adj)
  refine seg_execs_cons (seg_wrap (as_l F KI (by decide +kernel) ?_))
  refine ev_cB F x4.wd KI (kB_of (by decide +kernel) kv_len : kB (dr 3).scope "len" (.builtin "len") = true) (arg1 (ev_name F.kind x4.vadj ?_))
  refine call_len_dict b.dsys x4.dict (by have := b.len; omega) ⟨x4.live, fun s₅ st5 => ?_⟩
  have x4' : B0 prog w k flist ({ s₄ with toks := s₄.toks + 1 + 1 } : Shared).heap := x4
  have x5 := x4'.st b.out b.dout b.cells st5 (by decide) (by decide) (by decide)
  have set5 := st5.stp.set x4'.live set4
  have m5 : MvD k.dom [k.env.locals] s'' s₅ := m4.trans ((mvd_toks s₄ (by omega)).trans (mvd_st (s := { s₄ with toks := s₄.toks + 1 + 1 }) b.cells x4.live st5))
  have c5 : BC prog w k SN k.fl 0 flist flist s₅.heap :=
    ⟨x5.dm, x5.wd, x5.live, x5.vadj, x5.vcut, ⟨_, st5.vars _ _ (by decide) st4.var⟩, ⟨_, st5.var⟩, st5.vars _ _ (by decide) vs4, st5.vars _ _ (by decide) vn4, set5, Snew, x5.fll, .inl (by simp [BK.fp]), x5.dict, x5.rows, hfs, hfs, Nat.le_refl _⟩
  -- the loops
  obtain ⟨ws, hlw, hiw⟩ := id x5.fll
  refine seg_execs_cons (seg_For (ev_name F.kind c5.vnx (wpAny_pyIter_list hlw fun pz => ?_)))
  generalize hO0 : s₅.heap.objs.size = O
  have hOn : s₅.heap.get? O = none := none_ge (Nat.le_of_eq hO0)
  have hit6' : (s₅.heap.push { cls := .type "list_iterator", data := .fields #[.ref k.fl, .int 0 0] }).IsListIter O k.fl 0 := by rw [← hO0]; exact ⟨_, Heap.get?_push_size _ rfl, rfl, rfl⟩
  generalize hs6 : ({ s₅ with heap := s₅.heap.push { cls := .type "list_iterator", data := .fields #[.ref k.fl, .int 0 0] } } : Shared) = s₆
  have m6 : Mv [] s₅ s₆ := by rw [← hs6]; exact Mv.push s₅ _ s₅.toks
  have ht6 : s₆.toks = s₅.toks := by rw [← hs6]
  have hit6 : s₆.heap.IsListIter O k.fl 0 := by rw [← hs6]; exact hit6'
  have Onew : ¬ k.dom O := fun hd => by obtain ⟨o, ho⟩ := c5.dm _ hd; rw [hOn] at ho; cases ho
  have hlenT : flist.length ≤ T.length := by rw [hT]; unfold bfs; rw [List.length_append, List.length_map]; omega
  refine b1_loop (A := A.in1) (SN := SN) (O := O) (flist := flist) b ?a0 ?a1 ?a2 hT ?a3 _ 0 s'' s₆ rfl (Nat.zero_le _) (c5.ex m6.ex) ⟨hit6, x5.fll.keeps fun b o e _ => m6.all _ _ e, Onew, .inl (by simp [BK.fp])⟩ (m5.trans (mvd_mv m6 (by omega)))
  case a0 => exact hA
  case a1 => rfl
  case a2 => rfl
  case a3 =>
    intro s₀ s₇ c7 m7
    refine seg_leaf (.ok .next) (show Seg _ _ _ _ _ _ _ ((execs bfW k.env).wrap (fun f => .pure (.done (.ret (match f with | .ret v => v | _ => .none)))) (fun e => (leaving k.env e).wrap (fun _ => .raise e) .raise id id) id id) [] s₇ from ?_)
    refine seg_execs_cons (seg_While fun pw => ?_)
    refine bw_loop (A := A.in1) (SN := SN) b ?b0 ?b1 ?b2 ?b3 ?b4 k.cut 0 k.fl flist flist flist.length s₀ s₇ rfl c7 (by rw [hT]; exact drop_bfs) hlenT m7
    case b0 => exact hA
    case b1 => rfl
    case b2 => rfl
    case b3 => intro s₀' s' hm'; exact seg_leaf (.ok .next) (seg_end (.ok (.ret .none)) ⟨rfl, rfl, hm'⟩)
    case b4 => intro s₀' s' hm'; exact seg_leaf (.ok (.ret .none)) (seg_end (.ok (.ret .none)) ⟨rfl, rfl, hm'⟩)
end
end Mine
end

section
open PySem PySem.W PyProof.Rows PySem.Calls
set_option maxRecDepth 100000
set_option linter.unusedVariables false
namespace Mine
theorem Paired.of_get {α β : Type} {F : α → β → Prop} : ∀ {l : List α} {l' : List β}, l.length = l'.length → (∀ (i : Nat) (a : α) (b : β), l[i]? = some a → l'[i]? = some b → F a b) → Paired F l l'
  | [], [], _, _ => .nil
  | a :: l, b :: l', h, f => .cons (f 0 a b rfl rfl) (Paired.of_get (by simpa using h) fun i a b h1 h2 => f (i + 1) a b (by simpa using h1) (by simpa using h2))
  | [], b :: l', h, _ => by simp at h
  | a :: l, [], h, _ => by simp at h
theorem lp_of_items {T : List (Int × Int)} {acc : Array Value} {h : Heap} {D : Addr} (hl : h.IsList D acc) (x : ItemsV (BfP T) acc T.length h) : LP h D T := by
  refine ⟨acc.toList, by simpa using hl, Paired.of_get (by simpa using x.1) fun i v p h1 h2 => ?_⟩
  obtain ⟨p', e, hp⟩ := x.2 i v (by rw [← Array.getElem?_toList]; exact h1)
  rw [h2] at e; cases e; exact hp

/-- a graph: node to list of nodes -/
structure GraphAt (prog : Program) (w : World) (h : Heap) (d : Addr) (kvs : List (Int × Value)) (gr : Int → List Int) : Prop where
  dict : DictI prog w h d kvs
  rows : ∀ kv ∈ kvs, ∃ La, kv.2 = .ref La ∧ LI h La (gr kv.1)
structure GraphOk (kvs : List (Int × Value)) (gr : Int → List Int) : Prop where
  len : kvs.length ≤ 20
  nod : (kvs.map (·.1)).Nodup
  rl : ∀ kv ∈ kvs, (gr kv.1).length ≤ 100
  closed : ∀ u ∈ kvs.map (·.1), ∀ v ∈ gr u, v ∈ kvs.map (·.1)
theorem GraphAt.keeps {prog : Program} {w : World} {h h' : Heap} {d : Addr} {kvs : List (Int × Value)} {gr : Int → List Int} (x : GraphAt prog w h d kvs gr) (k : ∀ b o, h.get? b = some o → (b = d ∨ IsSeq o) → h'.get? b = some o) : GraphAt prog w h' d kvs gr :=
  ⟨x.dict.at fun o e => k _ _ e (.inl rfl), fun kv hkv => let ⟨La, e, hl⟩ := x.rows kv hkv; ⟨La, e, hl.keeps fun b o e hs => k b o e (.inr hs)⟩⟩

section
variable {prog : Program} {w : World} {A : Around} {E : Value → Shared → Prop} {s : Shared}

/-- _single_shortest_path_length(d, fl, cut): the generator; then list() of it -/
theorem bf_call {a d fl : Addr} {mg mb : Str → Option Value} {kvs : List (Int × Value)} {gr : Int → List Int} {flist : List Int} {cut : Nat} {tc : Tok} {k : Nat} {Q : Value → Shared → Prop} (hr : Rm A (k + 1)) (X : AtF s.heap mg 3 a) (D : Wd mg mb s.heap)
    (G : GraphAt prog w s.heap d kvs gr) (ok : GraphOk kvs gr) (hds : (d == sysModules) = false) (hf : LI s.heap fl flist) (hfn : flist.Nodup) (hfs : ∀ x ∈ flist, x ∈ kvs.map (·.1)) (hB : (bfs kvs.length gr flist cut).length ≤ 1000)
    (h : ∀ I s₁, Ex s s₁ → (∀ A' (E' : Value → Shared → Prop) (Q' : Value → Shared → Prop), Rm A' k → (∀ D s', Ex s s' → LP s'.heap D (bfs kvs.length gr flist cut) → Q' (.ref D) s') → wpAny (model prog w) A' (call (.type "list") [.ref I]) Q' E' s₁) → Q (.ref I) s₁) :
    wpAny (model prog w) A (call (.ref a) [.ref d, .ref fl, .int cut tc]) Q E s := by
  refine call_gen (binds := [(nm "adj", .ref d), (nm "firstlevel", .ref fl), (nm "cutoff", .int cut tc)]) hr.room X D (fun pm code doc => by rfl) [nm "adj", nm "firstlevel", nm "cutoff"] rfl (by decide +kernel) (by decide) fun env s₁ I hs hc F L K V hg hIn hIo hgens hd hos => ?_
  have x1 : Ex s s₁ := ⟨K, fun g => by rw [hgens]; exact bare_push g rfl, hos⟩
  refine h I s₁ x1 fun A' E' Q' hr' hQ' => ?_
  have V1 : VarAt s₁.heap env (nm "adj") (.ref d) := V _ List.mem_cons_self
  have V2 : VarAt s₁.heap env (nm "firstlevel") (.ref fl) := V _ (List.mem_cons_of_mem _ List.mem_cons_self)
  have V3 : VarAt s₁.heap env (nm "cutoff") (.int cut tc) := V _ (List.mem_cons_of_mem _ (List.mem_cons_of_mem _ List.mem_cons_self))
  have hc0 : env.cells = [] := hc.trans (by rfl)
  have G1 : GraphAt prog w s₁.heap d kvs gr := G.keeps fun b o e _ => K b o e
  have hf1 := hf.keeps x1.seq
  have D1 := D.keeps K
  have hLx : ∃ o, s₁.heap.get? env.locals = some o := by obtain ⟨m, o, _, _, ho, _⟩ := L.ns; exact ⟨o, ho⟩
  have hfpx : ∀ b ∈ (⟨mg, mb, env, fun _ => False, d, kvs, gr, cut, fl⟩ : BK).fp, ∃ o, s₁.heap.get? b = some o := fun b hb => by
    simp only [BK.fp, List.mem_cons] at hb
    rcases hb with rfl | rfl | rfl | rfl | rfl | rfl | hb
    · exact hLx
    · obtain ⟨o, _, _, ho, _⟩ := G1.dict; exact ⟨o, ho⟩
    · obtain ⟨vs, ⟨o, ho, _⟩, _⟩ := hf1; exact ⟨o, ho⟩
    · obtain ⟨o, _, _, ho, _⟩ := D1.g; exact ⟨o, ho⟩
    · obtain ⟨o, _, _, ho, _⟩ := D1.b; exact ⟨o, ho⟩
    · obtain ⟨_, ⟨o, _, _, ho, _⟩, _⟩ := D1.lim; exact ⟨o, ho⟩
    · obtain ⟨kv, hkv, hq⟩ := List.mem_filterMap.mp hb
      obtain ⟨La, e', vs, ⟨o, ho, _⟩, _⟩ := G1.rows kv hkv
      rw [e'] at hq; cases hq; exact ⟨o, ho⟩
  refine ls_gen (wr := [env.locals]) (fp := (⟨mg, mb, env, fun _ => False, d, kvs, gr, cut, fl⟩ : BK).fp) (Inf := noInf) (P := BfP (bfs kvs.length gr flist cut)) (N := (bfs kvs.length gr flist cut).length) hr'.hh hr'.room hg (BfP.tup _) ?_
    (fun b hb => by rw [List.mem_singleton.mp hb]; exact hLx) hfpx D1.lim (fun s₂ m2 => ?_) fun D' s' acc hk hgn hos' hDn hL hit => ?_
  · unfold sizeLine; omega
  · have up : ∀ {b : Addr}, (∃ o, s₁.heap.get? b = some o) → ∃ o, s₂.heap.get? b = some o := fun ⟨o, ho⟩ => ⟨o, m2.all _ _ ho⟩
    have x2 := m2.ex
    refine bf_fresh (k := ⟨mg, mb, env, fun b => ∃ o, s₂.heap.get? b = some o, d, kvs, gr, cut, fl⟩) (flist := flist) hr'.hh ⟨hc0, hs, ⟨_, F⟩, D.out F, by obtain ⟨o, _, _, ho, _⟩ := G.dict; exact F.out ho, fun b hb => up (hfpx b hb), ok.len, ok.nod, ok.rl, ok.closed, hds⟩ rfl hfn hfs ⟨let ⟨o, _, _, ho, _⟩ := hg; ⟨o, m2.all _ _ ho⟩, hIo.1⟩ (fun q => by
        obtain ⟨_, ⟨o, _, _, ho, _⟩, _⟩ := D.lim; rw [q, F.newL] at ho; cases ho) (hg.keeps m2.all) (by rw [m2.gens, hgens]; simp) ⟨fun b hb => hb, D1.keeps m2.all, L.keeps m2.all, V1.keeps m2.all, V2.keeps m2.all, ⟨tc, V3.keeps m2.all⟩, G1.dict.at fun o e => m2.all _ _ e, fun kv hkv => let ⟨La, e, hl⟩ := G1.rows kv hkv; ⟨La, e, hl.keeps x2.seq⟩, hf1.keeps x2.seq⟩
  · refine hQ' D' s' ⟨fun b o e => hk b o (fun hm => by rw [List.mem_singleton.mp hm, F.newL] at e; cases e) (K _ _ e), fun q => hgn.bare (x1.gens q), hos'.trans hos⟩ (lp_of_items hL hit)
end
end Mine
end

section
open PySem PySem.W PyProof.Rows PySem.Calls
set_option maxRecDepth 100000
set_option linter.unusedVariables false
namespace Mine

theorem erase_perm {α : Type} {l : List α} {i : Nat} (hi : i < l.length) : (l[i] :: l.eraseIdx i).Perm l := by
  rw [List.eraseIdx_eq_take_drop_succ]
  have h := List.perm_middle (a := l[i]) (l₁ := l.take i) (l₂ := l.drop (i + 1))
  rw [List.getElem_cons_drop, List.take_append_drop] at h
  exact h.symm
theorem pick_go {α : Type} (next : Nat → Nat) : ∀ (fuel k : Nat) (left : List α) (out : Array α), left.length = fuel → (pickOrder.go next fuel k left out).toList.Perm (out.toList ++ left) := by
  intro fuel
  induction fuel with
  | zero => intro k left out h; rw [List.length_eq_zero_iff.mp h]; simp [pickOrder.go]
  | succ fuel ih =>
    intro k left out h
    have hi : next k % left.length < left.length := Nat.mod_lt _ (by omega)
    unfold pickOrder.go
    rw [List.getElem?_eq_getElem hi]
    dsimp only
    refine (ih _ _ _ (by rw [List.length_eraseIdx]; simp [hi]; omega)).trans ?_
    rw [Array.toList_push, List.append_assoc]
    refine List.Perm.append_left _ ?_
    exact erase_perm hi
theorem pick_perm {α : Type} (next : Nat → Nat) (xs : Array α) : (pickOrder next xs).toList.Perm xs.toList := by
  have := pick_go next xs.size 0 xs.toList #[] (by simp)
  simpa [pickOrder] using this

theorem perm_of_sub {l : List Int} : ∀ {ks : List Int}, l.Nodup → (∀ k ∈ l, k ∈ ks) → ks.length ≤ l.length → ks.Perm l := by
  induction l with
  | nil => intro ks _ _ h; rw [List.length_eq_zero_iff.mp (Nat.le_zero.mp h)]
  | cons a r ih =>
    intro ks hn hs hl
    have ha : a ∈ ks := hs a List.mem_cons_self
    rw [List.nodup_cons] at hn
    refine (List.perm_cons_erase ha).trans (List.Perm.cons a (ih hn.2 (fun k hk => ?_) ?_))
    · exact (List.mem_erase_of_ne (fun e : k = a => hn.1 (by rw [← e]; exact hk))).mpr (hs k (List.mem_cons_of_mem _ hk))
    · rw [List.length_erase_of_mem ha]; simp only [List.length_cons] at hl; omega


theorem IntsAre.perm_vals {es : List (Int × Value)} {l : List Int} {prog : Program} {w : World} (hn : l.Nodup) (hel : ElemsOf (intKind prog w) es) (hmem : ∀ k, decide (k ∈ l) = true ↔ ∃ e ∈ es, (intKind prog w).is k e.2 = true) (hs : es.length = l.length) :
    IntsAre (es.map (·.2)) ((es.map (·.2)).map numOf) ∧ ((es.map (·.2)).map numOf).Perm l := by
  have hall : ∀ v ∈ es.map (·.2), ∃ n t, v = .int n t := fun v hv => by
    obtain ⟨e, he, rfl⟩ := List.mem_map.mp hv
    obtain ⟨⟨k, hk, _⟩, _⟩ := hel e he
    obtain ⟨t, ht⟩ := Value.isInt_shape hk
    exact ⟨k, t, ht⟩
  refine ⟨intsAre_map _ hall, perm_of_sub hn (fun k hk => ?_) (by simp [hs])⟩
  obtain ⟨e, he, hi⟩ := (hmem k).mp (decide_eq_true hk)
  obtain ⟨t, ht⟩ := Value.isInt_shape hi
  rw [List.map_map, List.mem_map]
  exact ⟨e, he, by simp [ht, numOf]⟩

section
variable {prog : Program} {w : World} {A : Around} {E : Value → Shared → Prop} {s : Shared}

theorem wpAny_choose {M : Model} {src : Source} {n : Nat} {Q : Nat → Shared → Prop} (hn : n ≠ 0) (h : ∀ i d, i < n → Q i { s with drawn := d }) : wpAny M A (choose src n) Q E s := fun Γ p hΓ => by
  unfold choose
  rw [Sem.wp_choose]
  exact ⟨hn, h _ _ (Nat.mod_lt _ (Nat.pos_of_ne_zero hn))⟩

theorem draw_rule {α : Type} : ∀ (n : Nat) (xs : List α) (s : Shared) (Q : List α → Shared → Prop), xs.length = n → (∀ ys d, ys.Perm xs → Q ys { s with drawn := d }) → wpAny (model prog w) A (drawOrder n xs) Q E s := by
  intro n
  induction n with
  | zero =>
    intro xs s Q hx h
    rw [List.length_eq_zero_iff.mp hx] at h ⊢
    exact wpAny_pure (h [] s.drawn (List.Perm.refl _))
  | succ n ih =>
    intro xs s Q hx h
    cases xs with
    | nil => simp at hx
    | cons x r =>
      show wpAny (model prog w) A (choose .order (x :: r).length >>= _) Q E s
      refine wpAny_bind (wpAny_choose (by simp) fun i d hi => ?_)
      rw [List.getElem?_eq_getElem hi]
      dsimp only
      refine wpAny_bind (ih ((x :: r).eraseIdx i) _ _ (by rw [List.length_eraseIdx]; simp only [hi, ↓reduceIte]; omega) fun ys d' hp => ?_)
      exact wpAny_pure (h _ d' ((List.Perm.cons _ hp).trans (erase_perm hi)))

theorem slot_seti_next : Slot "set_iterator" "__next__" "set_iterator.__next__" :=
  .of (owner := "set_iterator") (n := "__next__") (by rw [typeLookup_type, builtinLookup_eq_fast]; kernel_rfl) (by decide +kernel) (by decide +kernel) (by decide +kernel)
    (by first | exact .inl (by decide +kernel) | exact .inr (by decide +kernel)) (by rw [isSubtype_type]; kernel_rfl)
theorem entry_seti_next : entryFor table "set_iterator.__next__" = some Builtin.«set_iterator.__next__» := entryFor_of_tree (by kernel_rfl)
theorem owner_seti : Manifest.owners.lookup (String.ofList ['r', 'o', 't', 'a', 'r', 'e', 't', 'i', '_', 't', 'e', 's'].reverse) = some Manifest.sig_set_iterator := by kernel_rfl
theorem args_seti_next (a : Value) : argsOk "set_iterator.__next__" ⟨[a], []⟩ := by
  unfold argsOk; rw [signature?_of (id := "set_iterator.__next__") (n := ['_', '_', 't', 'x', 'e', 'n', '_', '_']) (o := ['r', 'o', 't', 'a', 'r', 'e', 't', 'i', '_', 't', 'e', 's']) (by kernel_rfl) owner_seti]; kernel_rfl
theorem slot_seti_iter : Slot "set_iterator" "__iter__" "set_iterator.__iter__" :=
  .of (owner := "set_iterator") (n := "__iter__") (by rw [typeLookup_type, builtinLookup_eq_fast]; kernel_rfl) (by decide +kernel) (by decide +kernel) (by decide +kernel)
    (by first | exact .inl (by decide +kernel) | exact .inr (by decide +kernel)) (by rw [isSubtype_type]; kernel_rfl)
theorem entry_set_iter : entryFor table "set.__iter__" = some Builtin.«frozenset.__iter__» :=
  entryFor_alias (id' := "frozenset.__iter__") (by kernel_rfl) rfl (by decide +kernel) (by kernel_rfl)
end
end Mine
end

section
open PySem PySem.W PyProof.Rows PySem.Calls
set_option maxRecDepth 100000
set_option linter.unusedVariables false
namespace Mine
section
variable {prog : Program} {w : World} {A : Around} {E : Value → Shared → Prop} {s : Shared}

theorem entry_seti_iter : entryFor table "set_iterator.__iter__" = some Builtin.«dict_keyiterator.__iter__» :=
  entryFor_alias (id' := "dict_keyiterator.__iter__") (by kernel_rfl) rfl (by decide +kernel) (by kernel_rfl)
theorem args_seti_iter (a : Value) : argsOk "set_iterator.__iter__" ⟨[a], []⟩ := by
  unfold argsOk; rw [signature?_of (id := "set_iterator.__iter__") (n := ['_', '_', 'r', 'e', 't', 'i', '_', '_']) (o := ['r', 'o', 't', 'a', 'r', 'e', 't', 'i', '_', 't', 'e', 's']) (by kernel_rfl) owner_seti]; kernel_rfl

/-- the iterator over a set -/
def SIt (h : Heap) (I a : Addr) (first : Value) (i n ep : Nat) : Prop := ∃ o, h.get? I = some o ∧ o.cls = .type "set_iterator" ∧ o.data = .fields #[first, .int i 0, .ref a, .int n 0, .int ep 0]
theorem SIt.at {h h' : Heap} {I a : Addr} {first : Value} {i n ep : Nat} (x : SIt h I a first i n ep) (k : ∀ o, h.get? I = some o → h'.get? I = some o) : SIt h' I a first i n ep := let ⟨o, ho, r⟩ := x; ⟨o, k o ho, r⟩
theorem SIt.typeIs {I a : Addr} {first : Value} {i n ep : Nat} (x : SIt s.heap I a first i n ep) : s.TypeIs (.ref I) "set_iterator" := let ⟨o, ho, hc, _⟩ := x; ⟨o, ho, hc⟩

theorem si_self {I a : Addr} {first : Value} {i n ep : Nat} {Q : Value → Shared → Prop} (x : SIt s.heap I a first i n ep) (h : Q (.ref I) s) : wpAny (model prog w) A (pyIter (.ref I)) Q E s := by
  refine wpAny_pyIter_slot x.typeIs slot_seti_iter (wpAny_call_entry slot_seti_iter x.typeIs entry_seti_iter ?_ (args_seti_iter _))
  show wpAny _ _ (ret (.ref I)) _ _ s
  exact wpAny_pure ⟨_, rfl, "set_iterator", _, x.typeIs, slot_seti_next.lookup, h⟩

/-- a step given by the slots -/
theorem si_item {I a : Addr} {i n ep slot : Nat} {o : Obj} {es : Array (Int × Value)} {ep' : Nat} {t : SetTable} {x : Value} {nxt : Nat} {Q : Option Value → Shared → Prop} (hit : SIt s.heap I a (.int slot 0) i n ep) (ho : s.heap.get? a = some o) (hd : o.data = .set es ep' t) (hf : t.fits es.size = true) (hn : es.size = n)
    (hN : ∀ {A' : Around} {Q' : Option (Value × Nat) → Shared → Prop} {E' : Value → Shared → Prop}, Q' (some (x, nxt)) s → wpAny (model prog w) A' (setNext a slot i ep) Q' E' s)
    (hQ : ∀ h', SIt h' I a (.int nxt 0) (i + 1) n ep → Heap.SameBut I s.heap h' → Q (some x) { s with heap := h' }) : wpAny (model prog w) A (pyNext (.ref I)) Q E s := by
  obtain ⟨oI, hoI, hc, hdI⟩ := id hit
  unfold pyNext
  refine wpAny_bind (wpAny_attempt (wpAny_callSpecial?_slot (name := Str.ofString "__next__") hit.typeIs slot_seti_next
    (wpAny_call_entry slot_seti_next hit.typeIs entry_seti_next ?_ (args_seti_next _))))
  unfold Builtin.«set_iterator.__next__»
  refine wpAny_bind (m := slotArgs "__next__" 0 _) (wpAny_pure ?_)
  refine wpAny_bind (wpAny_fieldsOf hoI hdI ?_)
  dsimp only
  refine wpAny_bind (wpAny_setEntries_of ho hd hf ?_)
  rw [if_neg (by rw [hn]; simp)]
  simp only [Int.toNat_natCast]
  refine wpAny_bind (hN ?_)
  dsimp only
  refine wpAny_bind (wpAny_setField hoI hdI (by simp) ?_)
  have hoI1 := Heap.get?_update_self (Obj.mapFields (·.setIfInBounds 0 (rawInt nxt))) hoI (Obj.isFreed_of_fields (Obj.data_mapFields hdI _))
  refine wpAny_bind (wpAny_setField hoI1 (Obj.data_mapFields hdI _) (by simp) (wpAny_pure ⟨x, rfl, wpAny_pure (hQ _ ?_ ((Heap.SameBut.update ..).trans (Heap.SameBut.update ..)))⟩))
  have hoI2 := Heap.get?_update_self (Obj.mapFields (·.setIfInBounds 1 (rawInt ((i : Int) + 1)))) hoI1 (Obj.isFreed_of_fields (Obj.data_mapFields (Obj.data_mapFields hdI _) _))
  refine ⟨_, hoI2, (Obj.cls_mapFields ..).trans ((Obj.cls_mapFields ..).trans hc), ?_⟩
  rw [Obj.data_mapFields (Obj.data_mapFields hdI _)]
  simp [rawInt]

theorem si_stop {oI : Obj} {I : Addr} {h : Heap} {fs : Array Value} {j : Nat} {Q : Option Value → Shared → Prop} (hh : A.handled = none) (hoI : h.get? I = some oI) (hdI : oI.data = .fields fs) (hj : j < fs.size) (hx : Heap.ExtBut I s.heap h)
    (hQ : ∀ h', Heap.ExtBut I s.heap h' → Q none { s with heap := h' }) :
    wpAny (model prog w) A.in1 (do setField (.ref I) j .none; raiseNew (← newExc (.type "StopIteration") [])) (fun fin s' => ∃ v, fin = Fin.done (Flow.ret v) ∧ wpAny (model prog w) A (pure (some v)) Q E s')
      (fun e s' => wpAny (model prog w) A (do if ← isInstance e (.type "StopIteration") then pure none else throw e) Q E s') { s with heap := h } := by
  refine wpAny_bind (wpAny_setField hoI hdI hj ?_)
  refine wpAny_bind ?_
  simp only [newExc, newTuple]
  refine wpAny_bind (wpAny_newObj_type ?_ (by size_fits))
  refine wpAny_bind (m := firstArgMember _ _) (wpAny_of_eq (a := Value.none) (by first | rfl | (simp only [firstArgMember]; rfl)) ?_)
  refine wpAny_newObj_type ?_ (by size_fits)
  simp only [raiseNew]
  refine wpAny_bind (wpAny_handled ?_)
  rw [show A.in1.handled = none from hh]
  refine wpAny_bind (wpAny_pure (wpAny_throw ?_))
  refine wpAny_bind (wpAny_isInstance (T := "StopIteration") (b := true) ⟨_, Heap.get?_push_size _ rfl, rfl⟩ isSubtype_stop ?_)
  exact wpAny_pure (hQ _ (((hx.trans (Heap.SameBut.update ..).extBut).push _).push _))

theorem si_end {I a : Addr} {i n ep slot : Nat} {o : Obj} {es : Array (Int × Value)} {ep' : Nat} {t : SetTable} {Q : Option Value → Shared → Prop} (hh : A.handled = none) (hit : SIt s.heap I a (.int slot 0) i n ep) (ho : s.heap.get? a = some o) (hd : o.data = .set es ep' t) (hf : t.fits es.size = true) (hn : es.size = n)
    (hN : ∀ {A' : Around} {Q' : Option (Value × Nat) → Shared → Prop} {E' : Value → Shared → Prop}, Q' none s → wpAny (model prog w) A' (setNext a slot i ep) Q' E' s)
    (hQ : ∀ h', Heap.ExtBut I s.heap h' → Q none { s with heap := h' }) : wpAny (model prog w) A (pyNext (.ref I)) Q E s := by
  obtain ⟨oI, hoI, hc, hdI⟩ := id hit
  unfold pyNext
  refine wpAny_bind (wpAny_attempt (wpAny_callSpecial?_slot (name := Str.ofString "__next__") hit.typeIs slot_seti_next
    (wpAny_call_entry slot_seti_next hit.typeIs entry_seti_next ?_ (args_seti_next _))))
  unfold Builtin.«set_iterator.__next__»
  refine wpAny_bind (m := slotArgs "__next__" 0 _) (wpAny_pure ?_)
  refine wpAny_bind (wpAny_fieldsOf hoI hdI ?_)
  dsimp only
  refine wpAny_bind (wpAny_setEntries_of ho hd hf ?_)
  rw [if_neg (by rw [hn]; simp)]
  simp only [Int.toNat_natCast]
  refine wpAny_bind (hN ?_)
  dsimp only
  exact si_stop hh hoI hdI (by simp) (Heap.ExtBut.refl _ _) hQ

/-- a step given by the drawn places -/
theorem si_drawn {I a T : Addr} {i n ep p : Nat} {o oT : Obj} {es : Array (Int × Value)} {t : SetTable} {x : Int × Value} {tk nT : Nat} {ps : Array Value} {Q : Option Value → Shared → Prop} (hit : SIt s.heap I a (.ref T) i n ep) (ho : s.heap.get? a = some o) (hd : o.data = .set es ep t) (hf : t.fits es.size = true) (hn : es.size = n)
    (hoT : s.heap.get? T = some oT) (hdT : oT.data = .seq ps nT) (hp : ps[i]? = some (.int p tk)) (hx : es[p]? = some x)
    (hQ : ∀ h', SIt h' I a (.ref T) (i + 1) n ep → Heap.SameBut I s.heap h' → Q (some x.2) { s with heap := h' }) : wpAny (model prog w) A (pyNext (.ref I)) Q E s := by
  obtain ⟨oI, hoI, hc, hdI⟩ := id hit
  unfold pyNext
  refine wpAny_bind (wpAny_attempt (wpAny_callSpecial?_slot (name := Str.ofString "__next__") hit.typeIs slot_seti_next
    (wpAny_call_entry slot_seti_next hit.typeIs entry_seti_next ?_ (args_seti_next _))))
  unfold Builtin.«set_iterator.__next__»
  refine wpAny_bind (m := slotArgs "__next__" 0 _) (wpAny_pure ?_)
  refine wpAny_bind (wpAny_fieldsOf hoI hdI ?_)
  dsimp only
  refine wpAny_bind (wpAny_setEntries_of ho hd hf ?_)
  rw [if_neg (by rw [hn]; simp)]
  simp only [Int.toNat_natCast]
  refine wpAny_bind (wpAny_seqItems hoT hdT ?_)
  dsimp only
  rw [hp]
  dsimp only
  refine wpAny_bind ?_
  unfold setNextDrawn
  refine wpAny_bind (wpAny_setState_of ho hd hf ?_)
  dsimp only
  rw [if_neg (by simp)]
  simp only [Int.toNat_natCast, hx]
  refine wpAny_pure ?_
  refine wpAny_bind (wpAny_setField hoI hdI (by simp) (wpAny_pure ⟨x.2, rfl, wpAny_pure (hQ _ ?_ (Heap.SameBut.update ..))⟩))
  refine ⟨_, Heap.get?_update_self _ hoI (Obj.isFreed_of_fields (Obj.data_mapFields hdI _)), (Obj.cls_mapFields ..).trans hc, ?_⟩
  rw [Obj.data_mapFields hdI]
  simp [rawInt]
theorem si_drawn_end {I a T : Addr} {i n ep : Nat} {o oT : Obj} {es : Array (Int × Value)} {ep' : Nat} {t : SetTable} {nT : Nat} {ps : Array Value} {Q : Option Value → Shared → Prop} (hh : A.handled = none) (hit : SIt s.heap I a (.ref T) i n ep) (ho : s.heap.get? a = some o) (hd : o.data = .set es ep' t) (hf : t.fits es.size = true) (hn : es.size = n)
    (hoT : s.heap.get? T = some oT) (hdT : oT.data = .seq ps nT) (hp : ps[i]? = none)
    (hQ : ∀ h', Heap.ExtBut I s.heap h' → Q none { s with heap := h' }) : wpAny (model prog w) A (pyNext (.ref I)) Q E s := by
  obtain ⟨oI, hoI, hc, hdI⟩ := id hit
  unfold pyNext
  refine wpAny_bind (wpAny_attempt (wpAny_callSpecial?_slot (name := Str.ofString "__next__") hit.typeIs slot_seti_next
    (wpAny_call_entry slot_seti_next hit.typeIs entry_seti_next ?_ (args_seti_next _))))
  unfold Builtin.«set_iterator.__next__»
  refine wpAny_bind (m := slotArgs "__next__" 0 _) (wpAny_pure ?_)
  refine wpAny_bind (wpAny_fieldsOf hoI hdI ?_)
  dsimp only
  refine wpAny_bind (wpAny_setEntries_of ho hd hf ?_)
  rw [if_neg (by rw [hn]; simp)]
  simp only [Int.toNat_natCast]
  refine wpAny_bind (wpAny_seqItems hoT hdT ?_)
  dsimp only
  rw [hp]
  dsimp only
  refine wpAny_bind (wpAny_setField hoI hdI (by simp) ?_)
  have hoI1 := Heap.get?_update_self (Obj.mapFields (·.setIfInBounds 0 (rawInt 0))) hoI (Obj.isFreed_of_fields (Obj.data_mapFields hdI _))
  exact si_stop hh hoI1 (Obj.data_mapFields hdI _) (by simp) (Heap.SameBut.update ..).extBut hQ
end
end Mine
end

section
open PySem PySem.W PyProof.Rows PySem.Calls
set_option maxRecDepth 100000
set_option linter.unusedVariables false
namespace Mine
section
variable {prog : Program} {w : World} {A : Around} {E : Value → Shared → Prop} {s : Shared}

theorem setDrawn_eq (a : Addr) : setDrawn a = (do let (es, _, t) ← setState a; let byText ← setsByText; return !byText && (!t.plain && es.size > 1)) := rfl
theorem setNext_eq (a : Addr) (slot given epochThen : Nat) : setNext a slot given epochThen = (do
  let (es, epoch, t) ← setState a
  if ← setsByText then
    if epoch != epochThen then unsupported "set_iterator.__next__:elements-changed"
    return ((← setWalk a)[given]?).map fun e => (e.2, slot)
  if (!t.plain && es.size > 1) then unsupported "set_iterator.__next__:the-table-is-plain-no-more"
  (show Sem Unit from do if !t.led && !es.isEmpty then unsupported "set:maker-not-led")
  let i := SetTable.below t.place slot
  return match es[i]?, t.place[i]? with
    | some (_, x), some j => some (x, j + 1)
    | _, _ => none) := rfl

theorem byText_rule {Q : Bool → Shared → Prop} (h : Q (byText w) s) : wpAny (model prog w) A setsByText Q E s := by
  unfold setsByText
  exact wpAny_bind (wpAny_askSetting (wpAny_pure h))

/-- the values that a walk of the set meets, by the text -/
def txtVals (w : World) (a ep : Nat) (es : Array (Int × Value)) : List Value := (pickOrder (w.params.setOrder a ep) es).toList.map (·.2)

theorem nx_text {a : Addr} {i ep : Nat} {o : Obj} {es : Array (Int × Value)} {t : SetTable} {Q : Option (Value × Nat) → Shared → Prop} (hb : byText w = true) (ho : s.heap.get? a = some o) (hd : o.data = .set es ep t) (hf : t.fits es.size = true)
    (h : Q (((txtVals w a ep es)[i]?).map fun v => (v, 0)) s) : wpAny (model prog w) A (setNext a 0 i ep) Q E s := by
  rw [setNext_eq]
  refine wpAny_bind (wpAny_setState_of ho hd hf ?_)
  dsimp only
  refine wpAny_bind (byText_rule ?_)
  rw [if_pos hb, if_neg (by simp)]
  refine wpAny_bind ?_
  unfold setWalk
  refine wpAny_bind (wpAny_setState_of ho hd hf ?_)
  dsimp only
  refine wpAny_bind (byText_rule ?_)
  rw [if_pos hb]
  refine wpAny_bind (wpAny_askSetting ?_)
  refine wpAny_pure (wpAny_pure ?_)
  have e : ((pickOrder (w.params.setOrder a ep) es)[i]?).map (fun e => (e.2, 0)) = ((txtVals w a ep es)[i]?).map fun v => (v, 0) := by
    unfold txtVals
    rw [List.getElem?_map, Array.getElem?_toList]
    cases (pickOrder (w.params.setOrder a ep) es)[i]? <;> rfl
  show Q (((pickOrder (w.params.setOrder a ep) es)[i]?).map (fun e => (e.2, 0))) s
  rw [e]; exact h

theorem nx_slot {a : Addr} {slot i ep ep' : Nat} {o : Obj} {es : Array (Int × Value)} {t : SetTable} {Q : Option (Value × Nat) → Shared → Prop} (hb : byText w = false) (ho : s.heap.get? a = some o) (hd : o.data = .set es ep t) (hf : t.fits es.size = true) (hl : t.led = true) (hp : (!t.plain && es.size > 1) = false)
    (h : Q (match es[SetTable.below t.place slot]?, t.place[SetTable.below t.place slot]? with
    | some (_, x), some j => some (x, j + 1)
    | _, _ => none) s) : wpAny (model prog w) A (setNext a slot i ep') Q E s := by
  rw [setNext_eq]
  refine wpAny_bind (wpAny_setState_of ho hd hf ?_)
  dsimp only
  refine wpAny_bind (byText_rule ?_)
  rw [if_neg (by rw [hb]; exact Bool.false_ne_true)]
  rw [if_neg (by rw [hp]; exact Bool.false_ne_true)]
  refine wpAny_bind ?_
  rw [hl]
  exact wpAny_pure (wpAny_pure h)

def slotAt (t : SetTable) (i : Nat) : Nat := if i = 0 then 0 else t.place.getD (i - 1) 0 + 1
theorem below_slotAt {t : SetTable} (hu : Up t.place) {i : Nat} (hi : i ≤ t.place.size) : SetTable.below t.place (slotAt t i) = i := by
  obtain ⟨h1, h2, h3⟩ := below_spec hu (slotAt t i)
  generalize SetTable.below t.place (slotAt t i) = b at *
  unfold slotAt at *
  by_cases h0 : i = 0
  · subst h0
    simp only [↓reduceIte] at *
    rcases Nat.eq_zero_or_pos b with e | e
    · exact e
    · exact absurd (h2 0 (by omega) e) (Nat.not_lt_zero _)
  · rw [if_neg h0, up_getD (by omega)] at h2 h3
    rcases Nat.lt_trichotomy b i with e | e | e
    · have := h3 (i - 1) (by omega) (by omega)
      omega
    · exact e
    · have h4 := h2 i (by omega) e
      have h5 := hu (i - 1) i (by omega) (by omega) (by omega)
      omega

theorem fits_place {t : SetTable} {n : Nat} (h : t.fits n = true) : t.place.size = n := by
  unfold SetTable.fits at h
  simp only [Bool.and_eq_true, beq_iff_eq] at h
  exact h.1

/-- for x in a set of ints -/
theorem it_set {a : Addr} {l : List Int} {Q : Value → Shared → Prop} (hh : A.handled = none) (hS : IsSet prog w s.heap a l)
    (h : ∀ I fp (St : Nat → Heap → Prop) s₂ vs ks, IntsAre vs ks → ks.Perm l → Walks prog w A I fp [I] l.length (fun i v => vs[i]? = some v) St → St 0 s₂.heap → (∀ b ∈ fp, b = a ∨ s.heap.objs.size ≤ b) → (∀ b ∈ fp, b < s₂.heap.objs.size) → s.heap.objs.size ≤ I →
      Ex s s₂ → s₂.gens = s.gens → s₂.toks = s.toks → Q (.ref I) s₂) : wpAny (model prog w) A (pyIter (.ref a)) Q E s := by
  obtain ⟨⟨hnd, hled⟩, o, es, ep, t, ho, hex, hd, hel, hmem, hb, hf, hn⟩ := id hS
  have hT := led_of hled ho hd
  have hal : a < s.heap.objs.size := Heap.lt_size ho
  refine wpAny_pyIter_slot ⟨o, ho, hex.1⟩ PySem.F.slot_set_iter (wpAny_call_entry PySem.F.slot_set_iter ⟨o, ho, hex.1⟩ entry_set_iter ?_ (PySem.F.args_set_iter_1 _))
  unfold Builtin.«frozenset.__iter__» Builtin.Frozenset.slot0
  refine wpAny_bind (wpAny_bind (m := slotArgs "__iter__" 0 _) (wpAny_pure ?_))
  unfold Builtin.Frozenset.addrOf
  refine wpAny_pure ?_
  dsimp only
  unfold Builtin.Frozenset.sizeOf
  refine wpAny_bind (wpAny_bind (wpAny_setEntries_of ho hd hf (wpAny_pure ?_)))
  rw [setDrawn_eq]
  refine wpAny_bind (wpAny_bind (wpAny_setState_of ho hd hf ?_))
  dsimp only
  refine wpAny_bind (byText_rule ?_)
  refine wpAny_pure ?_
  have mk : ∀ {first : Value} {s₁ : Shared} {Q' : Fin → Shared → Prop}, s₁.heap.get? a = some o → Q' (.done (.ret (.ref s₁.heap.objs.size))) { s₁ with heap := s₁.heap.push { cls := .type "set_iterator", data := .fields #[first, .int 0 0, .ref a, .int l.length 0, .int ep 0] } } →
      wpAny (model prog w) A.in1 (do ret (← newFields "set_iterator" [first, rawInt 0, .ref a, rawInt es.size, rawInt (← setEpoch a)])) Q' E s₁ := fun {first s₁ Q'} ho1 hq => by
    refine wpAny_bind ?_
    unfold setEpoch
    refine wpAny_bind (wpAny_setState_of ho1 hd hf (wpAny_pure ?_))
    rw [hn]
    exact wpAny_bind (wpAny_newObj_type (wpAny_pure hq))
  have hpm : IntsAre (es.toList.map (·.2)) ((es.toList.map (·.2)).map numOf) ∧ ((es.toList.map (·.2)).map numOf).Perm l := IntsAre.perm_vals hnd hel hmem (by simpa using hn)
  have hall : ∀ v ∈ es.toList.map (·.2), ∃ n t, v = .int n t := fun v hv => hpm.1.all v hv
  have hpl : t.place.size = es.size := fits_place hf
  by_cases hby : byText w = true
  · -- by the text
    rw [if_neg (by rw [hby]; simp)]
    refine wpAny_bind (wpAny_pure ?_)
    refine mk ho ⟨_, rfl, "set_iterator", _, ⟨_, Heap.get?_push_size _ rfl, rfl⟩, slot_seti_next.lookup, ?_⟩
    have hvp : (txtVals w a ep es).Perm (es.toList.map (·.2)) := (pick_perm _ es).map _
    have hne : a ≠ s.heap.objs.size := Nat.ne_of_lt hal
    refine h s.heap.objs.size [s.heap.objs.size, a] (fun i h => h.get? a = some o ∧ SIt h s.heap.objs.size a (.int (0 : Nat) 0) i l.length ep) _ (txtVals w a ep es) ((txtVals w a ep es).map numOf) (intsAre_map _ fun v hv => hall v (hvp.mem_iff.mp hv)) ((hvp.map numOf).trans hpm.2) ?_
      ⟨Heap.get?_push_of_some _ ho, ⟨_, Heap.get?_push_size _ rfl, rfl, rfl⟩⟩ (fun b hb => ?_) (fun b hb => ?_) (Nat.le_refl _) (Mv.push s _ s.toks).ex rfl rfl
    · have hlen : (txtVals w a ep es).length = l.length := by rw [hvp.length_eq, List.length_map, Array.length_toList, hn]
      refine ⟨fun b hb => by simp at hb; simp [hb], fun i h h' st hk => ⟨hk a (by simp) o st.1, st.2.at fun o e => hk _ (by simp) o e⟩, fun i s Q E hi st hQ => ?_, fun s Q E st hQ => ?_, fun i s Q E st hQ => si_self st.2 hQ⟩
      · have hi' : i < (txtVals w a ep es).length := by omega
        refine si_item (x := (txtVals w a ep es)[i]) (nxt := 0) st.2 st.1 hd hf hn (fun hq => nx_text hby st.1 hd hf (by rw [List.getElem?_eq_getElem hi']; exact hq)) fun h' it' hs => ?_
        exact hQ _ h' s.toks (List.getElem?_eq_getElem hi') ⟨hs.extBut _ _ hne st.1, it'⟩ fun b o hb e => hs.extBut b o (by simpa using hb) e
      · refine si_end hh st.2 st.1 hd hf hn (fun hq => nx_text hby st.1 hd hf (by rw [List.getElem?_eq_none (by omega)]; exact hq)) fun h' he => ?_
        exact hQ h' s.toks fun b o hb e => he b o (by simpa using hb) e
    · simp only [List.mem_cons, List.not_mem_nil, or_false] at hb
      rcases hb with rfl | rfl
      · exact .inr (Nat.le_refl _)
      · exact .inl rfl
    · show b < (s.heap.push _).objs.size
      rw [Heap.size_push]
      simp only [List.mem_cons, List.not_mem_nil, or_false] at hb
      rcases hb with rfl | rfl
      · exact Nat.lt_succ_self _
      · exact Nat.lt_succ_of_lt hal
  · have hbf : byText w = false := by simpa using hby
    have hl : t.led = true := hT.1.resolve_left hby
    by_cases hdr : (!t.plain && es.size > 1) = true
    · -- drawn
      rw [if_pos (by rw [hbf]; exact hdr)]
      refine wpAny_bind (draw_rule es.size (List.range es.size) s _ List.length_range fun ys d hys => ?_)
      refine wpAny_bind (wpAny_newTuple ?_ (by rw [List.length_map, hys.length_eq, List.length_range, sizeLine_eq]; unfold scanBound at hb; omega))
      have hy : ∀ p ∈ ys, p < es.size := fun p hp => by have := hys.mem_iff.mp hp; simpa using this
      have hTn : a ≠ s.heap.objs.size := Nat.ne_of_lt hal
      have hps : ∀ i (hi : i < ys.length), (List.map (fun i : Nat => rawInt i) ys).toArray[i]? = some (.int ys[i] 0) := fun i hi => by simp [hi, rawInt]
      have hpe : ∀ i, ys.length ≤ i → (List.map (fun i : Nat => rawInt i) ys).toArray[i]? = none := fun i hi => by simp [hi]
      generalize (List.map (fun i : Nat => rawInt i) ys).toArray = ps at hps hpe
      generalize hs1 : ({ s with heap := s.heap.push { cls := .type "tuple", data := .seq ps }, drawn := d } : Shared) = s₁
      have hs1' : ({ heap := s.heap.push { cls := .type "tuple", data := .seq ps }, gens := s.gens, drawn := d, toks := s.toks, os := s.os } : Shared) = s₁ := hs1
      have hT1 : s₁.heap.get? s.heap.objs.size = some { cls := .type "tuple", data := .seq ps } := by rw [← hs1]; exact Heap.get?_push_size _ rfl
      have hsz1 : s₁.heap.objs.size = s.heap.objs.size + 1 := by rw [← hs1]; exact Heap.size_push ..
      have ho1 : s₁.heap.get? a = some o := by rw [← hs1]; exact Heap.get?_push_of_some _ ho
      have x1 : Ex s s₁ := by rw [← hs1]; exact ⟨fun b o e => Heap.get?_push_of_some _ e, id, rfl⟩
      refine mk ho1 ⟨_, rfl, "set_iterator", _, ⟨_, Heap.get?_push_size _ rfl, rfl⟩, slot_seti_next.lookup, ?_⟩
      have hys' : ys.length = l.length := by rw [hys.length_eq, List.length_range, hn]
      have hvs : (ys.map fun p => (es.toList.map (·.2)).getD p .none).Perm (es.toList.map (·.2)) := by
        have e : (List.range es.size).map (fun p => (es.toList.map (·.2)).getD p .none) = es.toList.map (·.2) := by
          apply List.ext_getElem (by simp)
          intro i h1 h2
          simp at h1
          simp [h1]
        have := hys.map (fun p => (es.toList.map (·.2)).getD p Value.none)
        rw [e] at this; exact this
      have hne : a ≠ s₁.heap.objs.size := Nat.ne_of_lt (Heap.lt_size ho1)
      have hTI : s.heap.objs.size ≠ s₁.heap.objs.size := Nat.ne_of_lt (Heap.lt_size hT1)
      refine h s₁.heap.objs.size [s₁.heap.objs.size, a, s.heap.objs.size] (fun i h => h.get? a = some o ∧ SIt h s₁.heap.objs.size a (.ref s.heap.objs.size) i l.length ep ∧ h.get? s.heap.objs.size = some { cls := .type "tuple", data := .seq ps }) _ (ys.map fun p => (es.toList.map (·.2)).getD p .none) ((ys.map fun p => (es.toList.map (·.2)).getD p .none).map numOf) (intsAre_map _ fun v hv => hall v (hvs.mem_iff.mp hv)) ((hvs.map numOf).trans hpm.2) ?_
        ⟨Heap.get?_push_of_some _ ho1, ⟨_, Heap.get?_push_size _ rfl, rfl, rfl⟩, Heap.get?_push_of_some _ hT1⟩ (fun b hb => ?_) (fun b hb => ?_) (show s.heap.objs.size ≤ s₁.heap.objs.size by omega) (x1.trans (Mv.push s₁ _ s₁.toks).ex) (by rw [← hs1]) (by rw [← hs1])
      · refine ⟨fun b hb => by simp at hb; simp [hb], fun i h h' st hk => ⟨hk a (by simp) o st.1, st.2.1.at fun o e => hk _ (by simp) o e, hk _ (by simp) _ st.2.2⟩, fun i s Q E hi st hQ => ?_, fun s Q E st hQ => ?_, fun i s Q E st hQ => si_self st.2.1 hQ⟩
        · have hi' : i < ys.length := by omega
          have hp := hy _ (List.getElem_mem hi')
          refine si_drawn st.2.1 st.1 hd hf hn st.2.2 rfl (hps i hi') (Array.getElem?_eq_getElem hp) fun h' it' hs => ?_
          exact hQ _ h' s.toks (by simp [hi', hp]) ⟨hs.extBut _ _ hne st.1, it', hs.extBut _ _ hTI st.2.2⟩ fun b o hb e => hs.extBut b o (by simpa using hb) e
        · refine si_drawn_end hh st.2.1 st.1 hd hf hn st.2.2 rfl (hpe _ (by omega)) fun h' he => ?_
          exact hQ h' s.toks fun b o hb e => he b o (by simpa using hb) e
      · simp only [List.mem_cons, List.not_mem_nil, or_false] at hb
        rcases hb with rfl | rfl | rfl
        · exact .inr (show s.heap.objs.size ≤ s₁.heap.objs.size by omega)
        · exact .inl rfl
        · exact .inr (Nat.le_refl _)
      · show b < (s₁.heap.push _).objs.size
        rw [Heap.size_push]
        simp only [List.mem_cons, List.not_mem_nil, or_false] at hb
        rcases hb with rfl | rfl | rfl
        · exact Nat.lt_succ_self _
        · exact Nat.lt_succ_of_lt (Heap.lt_size ho1)
        · exact Nat.lt_succ_of_lt (Heap.lt_size hT1)
    · -- by the slots
      rw [if_neg (by rw [hbf]; exact hdr)]
      have hdf : (!t.plain && es.size > 1) = false := by simpa using hdr
      refine wpAny_bind (wpAny_pure ?_)
      refine mk ho ⟨_, rfl, "set_iterator", _, ⟨_, Heap.get?_push_size _ rfl, rfl⟩, slot_seti_next.lookup, ?_⟩
      have hne : a ≠ s.heap.objs.size := Nat.ne_of_lt hal
      have hlen : (es.toList.map (·.2)).length = l.length := by rw [List.length_map, Array.length_toList, hn]
      refine h s.heap.objs.size [s.heap.objs.size, a] (fun i h => h.get? a = some o ∧ SIt h s.heap.objs.size a (.int (slotAt t i) 0) i l.length ep) _ (es.toList.map (·.2)) ((es.toList.map (·.2)).map numOf) hpm.1 hpm.2 ?_
        ⟨Heap.get?_push_of_some _ ho, ⟨_, Heap.get?_push_size _ rfl, rfl, rfl⟩⟩ (fun b hb => ?_) (fun b hb => ?_) (Nat.le_refl _) (Mv.push s _ s.toks).ex rfl rfl
      · refine ⟨fun b hb => by simp at hb; simp [hb], fun i h h' st hk => ⟨hk a (by simp) o st.1, st.2.at fun o e => hk _ (by simp) o e⟩, fun i s Q E hi st hQ => ?_, fun s Q E st hQ => ?_, fun i s Q E st hQ => si_self st.2 hQ⟩
        · have hi' : i < (es.toList.map (·.2)).length := by omega
          have hie : i < es.size := by omega
          refine si_item (x := es[i].2) (nxt := slotAt t (i + 1)) st.2 st.1 hd hf hn (fun hq => nx_slot hbf st.1 hd hf hl hdf ?_) fun h' it' hs => ?_
          · rw [below_slotAt hT.2 (by omega), Array.getElem?_eq_getElem hie, Array.getElem?_eq_getElem (by omega)]
            have : t.place[i]'(by omega) + 1 = slotAt t (i + 1) := by unfold slotAt; rw [if_neg (by omega), Nat.add_sub_cancel, up_getD (by omega)]
            dsimp only
            rw [this]; exact hq
          · exact hQ _ h' s.toks (by simp [hie]) ⟨hs.extBut _ _ hne st.1, it'⟩ fun b o hb e => hs.extBut b o (by simpa using hb) e
        · refine si_end hh st.2 st.1 hd hf hn (fun hq => nx_slot hbf st.1 hd hf hl hdf ?_) fun h' he => ?_
          · rw [below_slotAt hT.2 (by omega), Array.getElem?_eq_none (by omega)]
            exact hq
          · exact hQ h' s.toks fun b o hb e => he b o (by simpa using hb) e
      · simp only [List.mem_cons, List.not_mem_nil, or_false] at hb
        rcases hb with rfl | rfl
        · exact .inr (Nat.le_refl _)
        · exact .inl rfl
      · show b < (s.heap.push _).objs.size
        rw [Heap.size_push]
        simp only [List.mem_cons, List.not_mem_nil, or_false] at hb
        rcases hb with rfl | rfl
        · exact Nat.lt_succ_self _
        · exact Nat.lt_succ_of_lt hal
end
end Mine
end

section
open PySem PySem.W PyProof.Rows PySem.Calls
set_option maxRecDepth 100000
set_option linter.unusedVariables false
namespace Mine
section
variable {prog : Program} {w : World} {A : Around} {E : Value → Shared → Prop} {s : Shared}

theorem hint_set {r : Addr} {Q : Bool → Shared → Prop} (hT : s.TypeIs (.ref r) "set") (h : Q false s) : wpAny (model prog w) A (Builtin.List.listLengthHint (.ref r)) Q E s := by
  unfold Builtin.List.listLengthHint
  refine wpAny_bind (wpAny_specialOf hT PySem.F.slot_set_len.lookup ?_)
  generalize hid : ("set.__len__" : String) = id0
  wp_delta
  rw [show splitId id0 = some ("set", "__len__") from by subst hid; decide +kernel]
  subst hid
  refine wpAny_bind (wpAny_isInstance (T := "set") (b := true) hT (by rw [isSubtype_type]; kernel_rfl) ?_)
  refine wpAny_ite_split (fun hab => absurd hab (by decide)) (fun _ => ?_)
  refine wpAny_ite_split (fun _ => ?_) (fun hab => absurd (by decide +kernel) hab)
  refine wpAny_bind (wpAny_typeOf hT ?_)
  exact wpAny_pure h

/-- the items of what is walked, as a list -/
theorem collect_w {r : Addr} {T : String} {Good : List Value → Prop} {Q : List Value → Shared → Prop} (hh : A.handled = none) (hT : s.TypeIs (.ref r) T) (hnl : (Value.type T == Value.type "list") = false) (hnt : (Value.type T == Value.type "tuple") = false)
    (hint : ∀ (A : Around) (E : Value → Shared → Prop) (s₁ : Shared) (Q : Bool → Shared → Prop), (∀ b o, s.heap.get? b = some o → s₁.heap.get? b = some o) → Q false s₁ → wpAny (model prog w) A (Builtin.List.listLengthHint (.ref r)) Q E s₁)
    (iter : ∀ (A : Around) (E : Value → Shared → Prop) (s₁ : Shared) (Q : Value → Shared → Prop), A.handled = none → (∀ b o, s.heap.get? b = some o → s₁.heap.get? b = some o) →
      (∀ I fp n P (St : Nat → Heap → Prop) s₂, Walks prog w A I fp [I] n P St → St 0 s₂.heap → (∀ b ∈ fp, b = r ∨ s₁.heap.objs.size ≤ b) → s₁.heap.objs.size ≤ I → Ex s₁ s₂ → s₂.gens = s₁.gens → s₂.toks = s₁.toks → n ≤ sizeLine → (∀ acc, ItemsOf P acc n → Good acc.toList) → Q (.ref I) s₂) →
      wpAny (model prog w) A (pyIter (.ref r)) Q E s₁)
    (hQ : ∀ vs s', Good vs → Ex s s' → s'.gens = s.gens → s.toks ≤ s'.toks → Q vs s') : wpAny (model prog w) A (collect (.ref r)) Q E s := by
  obtain ⟨or, hor, _⟩ := id hT
  have hlr : r < s.heap.objs.size := Heap.lt_size hor
  have hSr : s.heap.objs.size ≠ r := Nat.ne_of_gt hlr
  unfold collect
  refine wpAny_bind (wpAny_runValue (codeAny_builtin PySem.F.entry_proto_collect ?_))
  rw [Around.under_plainId PySem.F.plain_proto_collect _]
  show wpAny _ A.in1 (newList [] >>= fun l => again (.builtin "list.__iadd__" ⟨[l, .ref r], []⟩)) _ _ s
  refine wpAny_bind (wpAny_newObj_type ?_)
  refine wpAny_pure ⟨plainId_quiet PySem.F.plain_list_iadd _, codeAny_builtin PySem.F.entry_list_iadd ?_⟩
  rw [Around.under_plainId PySem.F.plain_list_iadd _]
  generalize hs1 : ({ s with heap := s.heap.push { cls := .type "list", data := .seq ([] : List Value).toArray } } : Shared) = s₁
  have hS1 : s₁.heap.get? s.heap.objs.size = some { cls := .type "list", data := .seq ([] : List Value).toArray } := by rw [← hs1]; exact Heap.get?_push_size _ rfl
  have k1 : ∀ b o, s.heap.get? b = some o → s₁.heap.get? b = some o := fun b o e => by rw [← hs1]; exact Heap.get?_push_of_some _ e
  have x1 : Ex s s₁ := by rw [← hs1]; exact (Mv.push s _ s.toks).ex
  have hg1 : s₁.gens = s.gens := by rw [← hs1]
  have ht1 : s₁.toks = s.toks := by rw [← hs1]
  have hz1 : s₁.heap.objs.size = s.heap.objs.size + 1 := by rw [← hs1]; exact Heap.size_push ..
  generalize hSe : s.heap.objs.size = S at *
  have hn : s.heap.get? S = none := none_ge (Nat.le_of_eq hSe)
  show wpAny _ A.in1 (Builtin.List.listExtendWith (.ref S) (.ref r) (.ref S)) _ _ s₁
  unfold Builtin.List.listExtendWith
  refine wpAny_bind (wpAny_typeOf (T := T) (by obtain ⟨o, ho, hc⟩ := hT; exact ⟨o, k1 _ _ ho, hc⟩) ?_)
  have h1 : Builtin.List.listSameRef (.ref S) (.ref r) = false := by simp [Builtin.List.listSameRef, hSr]
  simp only [h1, hnl, hnt, Bool.or_false, Bool.false_eq_true, if_false]
  refine wpAny_bind (iter A.in1 _ s₁ _ hh k1 fun I fp n P St s₂ W hst hfp hI x2 hg2 ht2 hnz good => ?_)
  refine wpAny_bind (wpAny_holding (hint _ _ _ _ (fun b o e => x2.kp _ _ (k1 b o e)) ?_))
  have hSf : S ∉ fp := fun hm => by
    rcases hfp S hm with e | e
    · exact hSr e
    · rw [hz1] at e; exact absurd e (Nat.not_le.mpr (Nat.lt_succ_self _))
  have hS2 := x2.kp _ _ hS1
  have key : ∀ {R : Result → Shared → Prop}, (∀ s' acc' c', s'.heap.get? S = some { cls := .type "list", dict := none, data := .seq acc' c', slots := #[] } → Good acc'.toList → Ex s s' → s'.gens = s.gens → s.toks ≤ s'.toks → R (.ok (.ret (.ref S))) s') →
      ∀ (h : Heap) (c₁ : Nat), (∀ b o, b ≠ S → s₂.heap.get? b = some o → h.get? b = some o) → h.get? S = some { cls := .type "list", data := .seq #[] c₁ } →
      codeAny (model prog w) A (.builtin "list.extend.loop" ⟨[.ref S, .ref I, .ref S], []⟩) R { s₂ with heap := h } := by
    intro R hR h c₁ hk hS3
    refine codeAny_extend_loopS W.toS hnz S hSf _ n 0 _ _ _ rfl (Nat.zero_le _) (W.frame 0 _ _ hst fun b hb o e => hk b o (fun q => hSf (q ▸ hb)) e) hS3 (ItemsOf.nil P) fun s' acc' c' hm hS' hacc => ?_
    refine hR s' acc' c' hS' (good _ hacc) ⟨fun b o e => hm.heap b o (fun hb => ?_) (hk b o (fun q => by rw [q, hn] at e; cases e) (x2.kp _ _ (k1 b o e))), fun g => ?_, hm.os.trans (x2.os.trans x1.os)⟩ ?_ ?_
    · have hlt := Heap.lt_size e
      rcases List.mem_cons.mp hb with h | h
      · rw [h] at e; rw [hn] at e; cases e
      · rw [List.mem_singleton.mp h] at hlt; exact absurd (Nat.lt_of_lt_of_le hlt (Nat.le_of_lt (by rw [hSe]; rw [hz1] at hI; exact hI))) (Nat.lt_irrefl _)
    · have : s'.gens = s₂.gens := hm.gens
      rw [this, hg2, hg1]; exact g
    · have : s'.gens = s₂.gens := hm.gens
      rw [this, hg2, hg1]
    · have : s₂.toks ≤ s'.toks := hm.toks
      omega
  refine wpAny_ite_split (fun _ => ?_) (fun _ => wpAny_pure ⟨plainId_quiet PySem.F.plain_extend_loop _, key ?_ s₂.heap 0 (fun _ _ _ e => e) hS2⟩)
  · refine wpAny_bind (wpAny_rule ?_)
    refine wpAny_bind ?_
    show wpAny _ _ (updateSeq S (·.push .none) >>= fun _ => updateSeq S (·.pop)) _ _ _
    refine wpAny_bind (wpAny_updateSeq hS2 rfl ?_)
    have hS₂ := Heap.get?_update_self (Obj.mapSeq (·.push Value.none)) hS2 rfl
    refine wpAny_updateSeq (hz := by seq_fits) hS₂ rfl ?_
    have hS₃ := Heap.get?_update_self (Obj.mapSeq (·.pop)) hS₂ rfl
    refine wpAny_pure ⟨plainId_quiet PySem.F.plain_extend_loop _, key ?_ _ _ (fun b o hb e => (Heap.get?_update_other _ _ (Ne.symm hb)).trans ((Heap.get?_update_other _ _ (Ne.symm hb)).trans e)) hS₃⟩
    intro s' acc' c' hS' hg h1 h2 h3
    show wpAny _ A (load S >>= _) _ _ s'
    exact wpAny_bind (wpAny_load hS' (wpAny_pure (hQ _ s' hg h1 h2 h3)))
  · intro s' acc' c' hS' hg h1 h2 h3
    show wpAny _ A (load S >>= _) _ _ s'
    exact wpAny_bind (wpAny_load hS' (wpAny_pure (hQ _ s' hg h1 h2 h3)))
end
end Mine
end

section
open PySem PySem.W PyProof.Rows PySem.Calls
set_option maxRecDepth 100000
set_option linter.unusedVariables false
namespace Mine
section
variable {prog : Program} {w : World} {A : Around} {E : Value → Shared → Prop} {s : Shared}

theorem sorted_via {v : Value} {ns : List Int} {Q : Value → Shared → Prop} (hlen : ns.length < 64)
    (hc : ∀ (E' : Value → Shared → Prop) (Q' : List Value → Shared → Prop), (∀ vs ks s', IntsAre vs ks → ks.Perm ns → Ex s s' → s'.gens = s.gens → s.toks ≤ s'.toks → Q' vs s') → wpAny (model prog w) A.in1 (collect v) Q' E' s)
    (h : ∀ D s' ms, ms.Perm ns → ms.Pairwise (· ≤ ·) → LI s'.heap D ms → s.heap.get? D = none → Ex s s' → s'.gens = s.gens → s.toks ≤ s'.toks → Q (.ref D) s') :
    wpAny (model prog w) A (call (.builtin "sorted") [v]) Q E s := by
  refine Calls.call_function_entry kind_sorted plain_sorted entry_sorted (args_sorted1 _) ?_
  unfold Builtin.«sorted»
  refine wpAny_bind (m := checkCount "sorted" 1 1 _) (wpAny_pure ?_)
  refine wpAny_bind (hc _ _ fun vs ks s₁ hi hp x1 hg1 ht1 => ?_)
  have hvl : vs.length < 64 := by have := hi.length; have := hp.length_eq; omega
  refine wpAny_bind (wpAny_newList ?_ (by rw [sizeLine_eq]; omega))
  have hoL : (s₁.heap.push (seqObj "list" vs.toArray 0)).get? s₁.heap.objs.size = some (seqObj "list" vs.toArray 0) := Heap.get?_push_size _ rfl
  have hDn : s.heap.get? s₁.heap.objs.size = none := x1.none (none_ge (Nat.le_refl _))
  generalize hD : s₁.heap.objs.size = D at *
  refine wpAny_bind (wpAny_holding (wpAny_call_entry slot_list_sort ⟨_, hoL, rfl⟩ entry_list_sort (list_sort_tree hoL hi hvl fun out ns' a1 a2 a3 => ⟨_, rfl, ?_⟩) (args_list_sort _)))
  refine wpAny_pure ⟨_, rfl, h D _ ns' (a2.trans hp) a3 ?_ hDn ?_ hg1 ht1⟩
  · refine ⟨out.toList, ?_, a1⟩
    have h1 := PyProof.Rows.get?_update_seq hoL (fun _ => #[])
    have h2 := Heap.get?_push_of_some (seqObj "list" #[] 0) (Heap.get?_push_of_some (seqObj "tuple" vs.toArray 0) h1)
    have h3 := PyProof.Rows.get?_update_seq h2 (fun _ => out)
    rw [show out.toList.toArray = out by simp]
    exact ⟨_, h3, rfl, _, rfl⟩
  · refine x1.trans ⟨fun b o e => ?_, id, rfl⟩
    have hb : D ≠ b := by rw [← hD]; exact Nat.ne_of_gt (Heap.lt_size e)
    show (sortedHeap (s₁.heap.push (seqObj "list" vs.toArray 0)) D vs out).get? b = some o
    unfold sortedHeap
    refine (Heap.get?_update_other _ _ hb).trans (Heap.get?_push_of_some _ (Heap.get?_push_of_some _ ((Heap.get?_update_other _ _ hb).trans (Heap.get?_push_of_some _ e))))

/-- sorted(set of ints) -/
theorem sorted_set {a : Addr} {l : List Int} {Q : Value → Shared → Prop} (hh : A.handled = none) (hS : IsSet prog w s.heap a l) (hlen : l.length < 64)
    (h : ∀ D s' ms, ms.Perm l → ms.Pairwise (· ≤ ·) → LI s'.heap D ms → s.heap.get? D = none → Ex s s' → s'.gens = s.gens → s.toks ≤ s'.toks → Q (.ref D) s') :
    wpAny (model prog w) A (call (.builtin "sorted") [.ref a]) Q E s := by
  refine sorted_via hlen (fun E' Q' hq => ?_) h
  refine collect_w (Good := fun vs => ∃ ks, IntsAre vs ks ∧ ks.Perm l) hh hS.2.typeIs (by decide) (by decide) (fun A E s₁ Q k hq => hint_set (IsSet.at hS fun o e => k _ o e).2.typeIs hq) (fun A E s₁ Q hh k hq => ?_) fun vs s' ⟨ks, hi, hp⟩ x hg ht => hq vs ks s' hi hp x hg ht
  refine it_set hh (IsSet.at hS fun o e => k _ o e) fun I fp St s₂ vs ks hi hp W hst hfp _ hI x hg ht => ?_
  refine hq I fp l.length _ St s₂ W hst hfp hI x hg ht (by rw [sizeLine_eq]; omega) fun acc hacc => ⟨ks, ?_, hp⟩
  have : acc.toList = vs := by
    apply List.ext_getElem?
    intro i
    rw [Array.getElem?_toList]
    by_cases hi' : i < acc.size
    · have := hacc.2 i _ (Array.getElem?_eq_getElem hi')
      rw [Array.getElem?_eq_getElem hi', this]
    · rw [Array.getElem?_eq_none (by omega), List.getElem?_eq_none]
      have h1 := hi.length; have h2 := hp.length_eq; have h3 := hacc.1; omega
  rw [this]; exact hi

/-- sorted(dict with int keys) -/
theorem sorted_dict {d : Addr} {kvs : List (Int × Value)} {Q : Value → Shared → Prop} (hh : A.handled = none) (hs : (d == sysModules) = false) (hd : DictI prog w s.heap d kvs) (hlen : kvs.length < 64)
    (h : ∀ D s' ms, ms.Perm (kvs.map (·.1)) → ms.Pairwise (· ≤ ·) → LI s'.heap D ms → s.heap.get? D = none → Ex s s' → s'.gens = s.gens → s.toks ≤ s'.toks → Q (.ref D) s') :
    wpAny (model prog w) A (call (.builtin "sorted") [.ref d]) Q E s := by
  refine sorted_via (ns := kvs.map (·.1)) (by simpa using hlen) (fun E' Q' hq => ?_) h
  refine collect_w (Good := fun vs => IntsAre vs (kvs.map (·.1))) hh hd.typeIs (by decide) (by decide) (fun A E s₁ Q k hq => kdl_hint_dict (hd.at fun o e => k _ o e).typeIs hq) (fun A E s₁ Q hh k hq => ?_) fun vs s' hi x hg ht => hq vs _ s' hi (List.Perm.refl _) x hg ht
  have hd1 : DictI prog w s₁.heap d kvs := hd.at fun o e => k _ o e
  obtain ⟨ep, hat⟩ := hd1.dictAt
  have hlt : d < s₁.heap.objs.size := by obtain ⟨o, _, ho, _⟩ := hat; exact Heap.lt_size ho
  refine wpAny_pyIter_dict hs hat ?_
  have W := Walks.dictKeys (prog := prog) (w := w) (A := A) (knd := intKind prog w) hh s₁.heap.objs.size d (Nat.ne_of_lt hlt) kvs ep
  refine hq _ _ kvs.length _ _ _ W ⟨⟨_, Heap.get?_push_size _ rfl, rfl, rfl⟩, hat.at' fun o e => Heap.get?_push_of_some _ e⟩ (fun b hb => ?_) (Nat.le_refl _) (Mv.push s₁ _ s₁.toks).ex rfl rfl (by rw [sizeLine_eq]; omega) fun acc hacc => ?_
  · simp only [List.mem_cons, List.not_mem_nil, or_false] at hb
    rcases hb with rfl | rfl
    · exact .inr (Nat.le_refl _)
    · exact .inl rfl
  · have hall : ∀ v ∈ acc.toList, ∃ n t, v = .int n t := fun v hv => by
      obtain ⟨i, hi, e⟩ := List.mem_iff_getElem.mp hv
      obtain ⟨k, x, _, hk⟩ := hacc.2 i v (by rw [← Array.getElem?_toList, List.getElem?_eq_getElem hi, e])
      obtain ⟨t, rfl⟩ := Value.isInt_shape hk
      exact ⟨k, t, rfl⟩
    have hm : acc.toList.map numOf = kvs.map (·.1) := by
      apply List.ext_getElem?
      intro i
      rw [List.getElem?_map, List.getElem?_map, Array.getElem?_toList]
      by_cases hi' : i < acc.size
      · obtain ⟨k, x, e, hk⟩ := hacc.2 i _ (Array.getElem?_eq_getElem hi')
        obtain ⟨t, ht⟩ := Value.isInt_shape hk
        rw [Array.getElem?_eq_getElem hi', e, ht]; rfl
      · rw [Array.getElem?_eq_none (by omega), List.getElem?_eq_none (by have := hacc.1; omega)]; rfl
    rw [← hm]; exact intsAre_map _ hall
/-- sorted(list of ints) -/
theorem sorted_list {a : Addr} {l : List Int} {Q : Value → Shared → Prop} (hL : LI s.heap a l) (hlen : l.length < 64)
    (h : ∀ D s' ms, ms.Perm l → ms.Pairwise (· ≤ ·) → LI s'.heap D ms → s.heap.get? D = none → Ex s s' → s'.gens = s.gens → s.toks ≤ s'.toks → Q (.ref D) s') :
    wpAny (model prog w) A (call (.builtin "sorted") [.ref a]) Q E s := by
  obtain ⟨vs, hl, hi⟩ := hL
  have hvl : vs.length < 64 := by have := hi.length; omega
  refine sorted_via hlen (fun E' Q' hq => collect_list hl (hq vs l _ hi (List.Perm.refl _) ⟨fun b o e => ?_, id, rfl⟩ rfl (Nat.le_refl _)) (by rw [sizeLine_eq]; omega)) h
  exact (Heap.get?_update_other _ _ (Nat.ne_of_gt (Heap.lt_size e))).trans (Heap.get?_push_of_some _ e)
end
end Mine
end

section
open PySem PySem.W PyProof.Rows PySem.Calls
set_option maxRecDepth 100000
set_option linter.unusedVariables false
namespace Mine

theorem runs_det {M : Model} {Γ : Ctx} {p : Pos} {t : Sem PySem.Fin} {fs : List Frame} {s : Shared} {e₁ : End} {s₁ : Shared} (h₁ : Runs M Γ p t fs s e₁ s₁) : ∀ {e₂ : End} {s₂ : Shared}, Runs M Γ p t fs s e₂ s₂ → e₁ = e₂ ∧ s₁ = s₂ := by
  induction h₁ with
  | done => intro e₂ s₂ h; cases h; exact ⟨rfl, rfl⟩
  | raise => intro e₂ s₂ h; cases h; exact ⟨rfl, rfl⟩
  | again hq h ih => intro e₂ s₂ h; cases h with | again _ h => exact ih h
  | rule h ih => intro e₂ s₂ h; cases h with | rule h => exact ih h
  | «at» h ih => intro e₂ s₂ h; cases h with | «at» h => exact ih h
  | load ho h ih =>
    intro e₂ s₂ h
    cases h with | load ho' h => rw [ho] at ho'; cases ho'; exact ih h
  | update ho h ih => intro e₂ s₂ h; cases h with | update _ h => exact ih h
  | loadIfAlive h ih => intro e₂ s₂ h; cases h with | loadIfAlive h => exact ih h
  | point h ih => intro e₂ s₂ h; cases h with | point h => exact ih h
  | alloc h ih => intro e₂ s₂ h; cases h with | alloc h => exact ih h
  | fresh h ih => intro e₂ s₂ h; cases h with | fresh h => exact ih h
  | ask h ih => intro e₂ s₂ h; cases h with | ask h => exact ih h
  | choose hn h ih => intro e₂ s₂ h; cases h with | choose _ h => exact ih h
  | os h ih => intro e₂ s₂ h; cases h with | os h => exact ih h
  | handled h ih => intro e₂ s₂ h; cases h with | handled h => exact ih h
  | genState hg h ih =>
    intro e₂ s₂ h
    cases h with | genState hg' h => rw [hg] at hg'; cases hg'; exact ih h
  | stack h ih => intro e₂ s₂ h; cases h with | stack h => exact ih h
  | thread h ih => intro e₂ s₂ h; cases h with | thread h => exact ih h
  | newGen h ih => intro e₂ s₂ h; cases h with | newGen h => exact ih h
  | call h h' ih ih' =>
    intro e₂ s₂ h
    cases h with
    | call g g' => obtain ⟨a, b⟩ := ih g; cases a; cases b; exact ih' g'
    | callSusp g => obtain ⟨a, b⟩ := ih g; cases a
  | callSusp h ih =>
    intro e₂ s₂ h
    cases h with
    | call g g' => obtain ⟨a, b⟩ := ih g; cases a
    | callSusp g => obtain ⟨a, b⟩ := ih g; cases a; cases b; exact ⟨rfl, rfl⟩
  | yield => intro e₂ s₂ h; cases h; exact ⟨rfl, rfl⟩
  | resumeFresh hg h hq h' ih ih' =>
    intro e₂ s₂ h
    cases h with
    | resumeFresh hg' g _ g' => rw [hg] at hg'; cases hg'; obtain ⟨a, b⟩ := ih g; cases a; cases b; exact ih' g'
    | resumeSuspended hg' => rw [hg] at hg'; cases hg'
    | resumeJustStarted hg' hv => exact absurd rfl hv
    | resumeRunning hg' => rw [hg] at hg'; cases hg'
    | resumeFinished hg' => rw [hg] at hg'; cases hg'
  | resumeSuspended hg h hq h' ih ih' =>
    intro e₂ s₂ h
    cases h with
    | resumeFresh hg' => rw [hg] at hg'; cases hg'
    | resumeSuspended hg' g _ g' => rw [hg] at hg'; cases hg'; obtain ⟨a, b⟩ := ih g; cases a; cases b; exact ih' g'
    | resumeJustStarted hg' => rw [hg] at hg'; cases hg'
    | resumeThrowFresh hg' => rw [hg] at hg'; cases hg'
    | resumeRunning hg' => rw [hg] at hg'; cases hg'
    | resumeFinished hg' => rw [hg] at hg'; cases hg'
  | resumeJustStarted hg hv h ih =>
    intro e₂ s₂ h
    cases h with
    | resumeFresh => exact absurd rfl hv
    | resumeSuspended hg' => rw [hg] at hg'; cases hg'
    | resumeJustStarted hg' _ g => exact ih g
    | resumeRunning hg' => rw [hg] at hg'; cases hg'
    | resumeFinished hg' => rw [hg] at hg'; cases hg'
  | resumeThrowFresh hg h ih =>
    intro e₂ s₂ h
    cases h with
    | resumeSuspended hg' => rw [hg] at hg'; cases hg'
    | resumeThrowFresh hg' g => exact ih g
    | resumeRunning hg' => rw [hg] at hg'; cases hg'
    | resumeFinished hg' => rw [hg] at hg'; cases hg'
  | resumeRunning hg h ih =>
    intro e₂ s₂ h
    cases h with
    | resumeFresh hg' => rw [hg] at hg'; cases hg'
    | resumeSuspended hg' => rw [hg] at hg'; cases hg'
    | resumeJustStarted hg' => rw [hg] at hg'; cases hg'
    | resumeThrowFresh hg' => rw [hg] at hg'; cases hg'
    | resumeRunning hg' g => exact ih g
    | resumeFinished hg' => rw [hg] at hg'; cases hg'
  | resumeFinished hg h ih =>
    intro e₂ s₂ h
    cases h with
    | resumeFresh hg' => rw [hg] at hg'; cases hg'
    | resumeSuspended hg' => rw [hg] at hg'; cases hg'
    | resumeJustStarted hg' => rw [hg] at hg'; cases hg'
    | resumeThrowFresh hg' => rw [hg] at hg'; cases hg'
    | resumeRunning hg' => rw [hg] at hg'; cases hg'
    | resumeFinished hg' g => exact ih g
  | segRet h h' ih ih' =>
    intro e₂ s₂ h
    cases h with
    | segRet g g' => obtain ⟨a, b⟩ := ih g; cases a; cases b; exact ih' g'
    | segSuspOut _ g => obtain ⟨a, b⟩ := ih g; cases a
    | segSuspGen _ g => obtain ⟨a, b⟩ := ih g; cases a
  | segGen h h' ih ih' =>
    intro e₂ s₂ h
    cases h with
    | segGen g g' => obtain ⟨a, b⟩ := ih g; cases a; cases b; exact ih' g'
    | segSuspOut _ g => obtain ⟨a, b⟩ := ih g; cases a
    | segSuspGen _ g => obtain ⟨a, b⟩ := ih g; cases a
  | segSuspOut hn h ih =>
    intro e₂ s₂ h
    cases h with
    | segRet g g' => obtain ⟨a, b⟩ := ih g; cases a
    | segGen g g' => obtain ⟨a, b⟩ := ih g; cases a
    | segSuspOut _ g => obtain ⟨a, b⟩ := ih g; cases a; cases b; exact ⟨rfl, rfl⟩
    | segSuspGen hn' => rw [hn] at hn'; cases hn'
  | segSuspGen hn h hq h' ih ih' =>
    intro e₂ s₂ h
    cases h with
    | segRet g g' => obtain ⟨a, b⟩ := ih g; cases a
    | segGen g g' => obtain ⟨a, b⟩ := ih g; cases a
    | segSuspOut hn' => rw [hn] at hn'; cases hn'
    | segSuspGen hn' g _ g' => rw [hn] at hn'; cases hn'; obtain ⟨a, b⟩ := ih g; cases a; cases b; exact ih' g'

theorem wakes_det {M : Model} {Γ : Ctx} {p : Pos} {g : Nat} {r : Resume} {s : Shared} {a b : GenResult} {s₁ s₂ : Shared} (h₁ : Wakes M Γ p g r s a s₁) (h₂ : Wakes M Γ p g r s b s₂) : a = b ∧ s₁ = s₂ := by
  unfold Wakes at h₁ h₂
  split at h₁
  · exact h₁.elim
  · rename_i hg
    rw [hg] at h₂
    dsimp only at h₂
    split at h₁
    · obtain ⟨e, t, h, q, rfl, rfl⟩ := h₁
      obtain ⟨e', t', h', q', rfl, rfl⟩ := h₂
      obtain ⟨x, y⟩ := runs_det h h'
      rw [x, y]; exact ⟨rfl, rfl⟩
    · rename_i hv
      split at h₂
      · rename_i q; cases q; exact (hv rfl).elim
      · exact ⟨h₁.1.trans h₂.1.symm, h₁.2.trans h₂.2.symm⟩
      · rename_i q; cases q
    · exact ⟨h₁.1.trans h₂.1.symm, h₁.2.trans h₂.2.symm⟩
  · rename_i hg
    rw [hg] at h₂
    dsimp only at h₂
    obtain ⟨e, t, h, q, rfl, rfl⟩ := h₁
    obtain ⟨e', t', h', q', rfl, rfl⟩ := h₂
    obtain ⟨x, y⟩ := runs_det h h'
    rw [x, y]; exact ⟨rfl, rfl⟩
  · rename_i hg
    rw [hg] at h₂
    exact ⟨h₁.1.trans h₂.1.symm, h₁.2.trans h₂.2.symm⟩
  · rename_i hg
    rw [hg] at h₂
    exact ⟨h₁.1.trans h₂.1.symm, h₁.2.trans h₂.2.symm⟩

/-- two walks of one tree meet in one end -/
theorem wp_meet {α : Type} {M : Model} {Γ : Ctx} {m : Sem α} : ∀ {Q₁ Q₂ : α → Pos → Shared → Prop} {E₁ E₂ : Value → Pos → Shared → Prop} {p : Pos} {s : Shared}, Sem.wp M Γ m Q₁ E₁ p s → Sem.wp M Γ m Q₂ E₂ p s →
    (∃ a p s, Q₁ a p s ∧ Q₂ a p s) ∨ (∃ e p s, E₁ e p s ∧ E₂ e p s) := by
  induction m with
  | pure a => intro Q₁ Q₂ E₁ E₂ p s h₁ h₂; exact .inl ⟨a, p, s, h₁, h₂⟩
  | raise e => intro Q₁ Q₂ E₁ E₂ p s h₁ h₂; exact .inr ⟨e, p, s, h₁, h₂⟩
  | unsupported | finish | yield | fork | await | register => intro Q₁ Q₂ E₁ E₂ p s h₁ h₂; exact h₁.elim
  | rule tag k ih => intro Q₁ Q₂ E₁ E₂ p s h₁ h₂; exact ih _ h₁ h₂
  | «at» p' k ih => intro Q₁ Q₂ E₁ E₂ p s h₁ h₂; exact ih _ h₁ h₂
  | load a part k ih =>
    intro Q₁ Q₂ E₁ E₂ p s h₁ h₂
    obtain ⟨o, ho, h₁⟩ := h₁
    obtain ⟨o', ho', h₂⟩ := h₂
    rw [ho] at ho'; cases ho'
    exact ih _ h₁ h₂
  | loadIfAlive a k ih => intro Q₁ Q₂ E₁ E₂ p s h₁ h₂; exact ih _ h₁ h₂
  | point l k ih => intro Q₁ Q₂ E₁ E₂ p s h₁ h₂; exact ih _ h₁ h₂
  | update a part f k ih => intro Q₁ Q₂ E₁ E₂ p s h₁ h₂; exact ih _ h₁.2 h₂.2
  | alloc o k ih => intro Q₁ Q₂ E₁ E₂ p s h₁ h₂; exact ih _ h₁ h₂
  | fresh k ih => intro Q₁ Q₂ E₁ E₂ p s h₁ h₂; exact ih _ h₁ h₂
  | ask k ih => intro Q₁ Q₂ E₁ E₂ p s h₁ h₂; exact ih _ h₁ h₂
  | choose src n k ih => intro Q₁ Q₂ E₁ E₂ p s h₁ h₂; exact ih _ h₁.2 h₂.2
  | os q l k ih => intro Q₁ Q₂ E₁ E₂ p s h₁ h₂; exact ih _ h₁ h₂
  | call c h g l k ih =>
    intro Q₁ Q₂ E₁ E₂ p s h₁ h₂
    obtain ⟨r₁, s₁, hr₁, h₁⟩ := h₁
    obtain ⟨r₂, s₂, hr₂, h₂⟩ := h₂
    obtain ⟨a, b⟩ := runs_det hr₁ hr₂
    cases a; cases b
    exact ih _ h₁ h₂
  | genState g k ih =>
    intro Q₁ Q₂ E₁ E₂ p s h₁ h₂
    obtain ⟨st, hg, h₁⟩ := h₁
    obtain ⟨st', hg', h₂⟩ := h₂
    rw [hg] at hg'; cases hg'
    exact ih _ h₁ h₂
  | handled own k ih => intro Q₁ Q₂ E₁ E₂ p s h₁ h₂; exact ih _ h₁ h₂
  | newGen c k ih => intro Q₁ Q₂ E₁ E₂ p s h₁ h₂; exact ih _ h₁ h₂
  | resume g r l k ih =>
    intro Q₁ Q₂ E₁ E₂ p s h₁ h₂
    obtain ⟨r₁, s₁, hr₁, h₁⟩ := h₁
    obtain ⟨r₂, s₂, hr₂, h₂⟩ := h₂
    obtain ⟨a, b⟩ := wakes_det hr₁ hr₂
    cases a; cases b
    exact ih _ h₁ h₂
  | stack k ih => intro Q₁ Q₂ E₁ E₂ p s h₁ h₂; exact ih _ h₁ h₂
  | thread k ih => intro Q₁ Q₂ E₁ E₂ p s h₁ h₂; exact ih _ h₁ h₂
end Mine
end

section
open PySem PySem.W PyProof.Rows PySem.Calls
set_option maxRecDepth 100000
set_option linter.unusedVariables false
namespace Mine

/-! ### the sorting, as a tree of questions -/
def ev {α : Type} (lt : Nat → Nat → Bool) : KasT α → α
  | .ret a => a
  | .ask i j k => ev lt (k (lt i j))
def Tr {α : Type} (n : Nat) : KasT α → (α → Prop) → Prop
  | .ret a, P => P a
  | .ask i j k, P => i < n ∧ j < n ∧ ∀ b, Tr n (k b) P
theorem tr_mono {α : Type} {n : Nat} {P P' : α → Prop} (hp : ∀ a, P a → P' a) : ∀ {t : KasT α}, Tr n t P → Tr n t P'
  | .ret a, h => hp a h
  | .ask i j k, h => ⟨h.1, h.2.1, fun b => tr_mono hp (h.2.2 b)⟩
theorem tr_bind {α β : Type} {n : Nat} {P : β → Prop} {f : α → KasT β} : ∀ {t : KasT α}, Tr n t (fun a => Tr n (f a) P) → Tr n (t.bind f) P
  | .ret a, h => h
  | .ask i j k, h => ⟨h.1, h.2.1, fun b => tr_bind (h.2.2 b)⟩
theorem tr_wp {α : Type} {n : Nat} {P : α → Prop} {cmp : Nat → Nat → (Bool → Shared → Prop) → Shared → Prop} {lt : Nat → Nat → Bool} {s : Shared} {G : α → Shared → Prop} (hc : ∀ i j C, i < n → j < n → C (lt i j) s → cmp i j C s) :
    ∀ {t : KasT α}, Tr n t P → G (ev lt t) s → t.kasWp cmp G s
  | .ret a, _, h => h
  | .ask i j k, t, h => hc i j _ t.1 t.2.1 (tr_wp hc (t.2.2 _) h)

theorem tr_ev {α : Type} {n : Nat} {P : α → Prop} {lt : Nat → Nat → Bool} : ∀ {t : KasT α}, Tr n t P → P (ev lt t)
  | .ret a, h => h
  | .ask i j k, h => show P (ev lt (k (lt i j))) from tr_ev (h.2.2 (lt i j))

def AllLt (n : Nat) (p : Array Nat) : Prop := ∀ x ∈ p.toList, x < n
theorem AllLt.get {n : Nat} {p : Array Nat} (h : AllLt n p) (hn : 0 < n) (i : Nat) : p.getD i 0 < n := by
  by_cases hi : i < p.size
  · have : p.getD i 0 = p[i] := by simp [Array.getD, hi]
    rw [this]; exact h _ (by simp)
  · have : p.getD i 0 = 0 := by simp [Array.getD, hi]
    rw [this]; exact hn
theorem AllLt.perm {n : Nat} {p q : Array Nat} (h : AllLt n p) (hp : q.Perm p) : AllLt n q := fun x hx => h x ((Array.perm_iff_toList_perm.mp hp).mem_iff.mp hx)
theorem AllLt.rev {n : Nat} {p : Array Nat} (h : AllLt n p) (i j : Nat) : AllLt n (kas_rev p i j) := h.perm (mirror_perm _ _ _ _)

section
variable {n : Nat} (hn : 0 < n)
include hn
theorem tr_asc {p : Array Nat} (hp : AllLt n p) : ∀ f m, Tr n (kas_asc p f m) (fun _ => True)
  | 0, m => trivial
  | f + 1, m => ⟨hp.get hn _, hp.get hn _, fun b => by
    cases b with
    | true => exact trivial
    | false => exact tr_asc hp f (m + 1)⟩
theorem tr_desc : ∀ f (p : Array Nat) m q, AllLt n p → Tr n (kas_desc f p m q) (fun r => AllLt n r.1)
  | 0, p, m, q, hp => hp
  | f + 1, p, m, q, hp => ⟨hp.get hn _, hp.get hn _, fun b => by
    cases b with
    | true =>
      simp only [if_true]
      split
      · exact tr_desc f _ _ _ (hp.rev _ _)
      · exact tr_desc f _ _ _ hp
    | false =>
      simp only [Bool.false_eq_true, if_false]
      exact ⟨hp.get hn _, hp.get hn _, fun b => by
        cases b with
        | true => exact hp
        | false => exact tr_desc f _ _ _ hp⟩⟩
theorem tr_tail3 {p : Array Nat} (hp : AllLt n p) (m r : Nat) : Tr n (kas_tail3 m r p) (fun r => AllLt n r.2) :=
  tr_bind (tr_mono (fun _ _ => hp.rev _ _) (tr_asc hn (hp.rev _ _) _ _))
theorem tr_descPart {p : Array Nat} (hp : AllLt n p) (m r : Nat) : Tr n (kas_descPart m r p) (fun r => AllLt n r.2) := by
  refine tr_bind (tr_mono (fun r h => ?_) (tr_desc hn _ _ _ _ hp))
  split
  · exact tr_tail3 hn (h.rev _ _) _ _
  · exact tr_tail3 hn h _ _
theorem tr_count {p : Array Nat} (hp : AllLt n p) (m : Nat) : Tr n (kas_count m p) (fun r => AllLt n r.2) := by
  refine tr_bind (tr_mono (fun r _ => ?_) (tr_asc hn hp _ _))
  split
  · exact hp
  · split
    · refine ⟨hp.get hn _, hp.get hn _, fun b => ?_⟩
      cases b with
      | true => exact hp
      | false => exact tr_descPart hn (hp.rev _ _) _ _
    · exact tr_descPart hn hp _ _
theorem tr_place {p : Array Nat} (hp : AllLt n p) (k : Nat) : ∀ f l r, Tr n (kas_place p k f l r) (fun _ => True)
  | 0, l, r => trivial
  | f + 1, l, r => by
    unfold kas_place
    split
    · exact trivial
    · refine ⟨hp.get hn _, hp.get hn _, fun b => ?_⟩
      cases b with
      | true => exact tr_place hp k f _ _
      | false => exact tr_place hp k f _ _
theorem tr_bin : ∀ f (p : Array Nat) k, AllLt n p → Tr n (kas_bin f p k) (AllLt n)
  | 0, p, k, hp => hp
  | f + 1, p, k, hp => tr_bind (tr_mono (fun l _ => tr_bin f _ _ (hp.perm (bubble_perm _ _ _))) (tr_place hn hp k _ _ _))
theorem tr_sort : Tr n (kas_sort n) (AllLt n) := by
  refine tr_bind (tr_mono (fun r h => ?_) (tr_count hn (p := List.toArray (List.range n)) (fun x hx => by simpa using hx) n))
  split
  · exact tr_bin hn _ _ _ h
  · exact h
end

/-- what the sorting makes of ints -/
theorem sort_ev {prog : Program} {w : World} {A : Around} {Γ : Ctx} (hΓ : Γ.In A) (pos : Pos) (s : Shared) {ns : List Int} (h2 : 2 ≤ ns.length) (h64 : ns.length < 64) :
    (ev (fun i j => decide (ns.getD i 0 < ns.getD j 0)) (kas_sort ns.length)).toList.Perm (List.range ns.length) ∧
    ((ev (fun i j => decide (ns.getD i 0 < ns.getD j 0)) (kas_sort ns.length)).toList.map fun i => ns.getD i 0).Pairwise (· ≤ ·) := by
  have hall : AllLt ns.length (ev (fun i j => decide (ns.getD i 0 < ns.getD j 0)) (kas_sort ns.length)) := tr_ev (tr_sort (by omega))
  generalize hp : ev (fun i j => decide (ns.getD i 0 < ns.getD j 0)) (kas_sort ns.length) = p at hall
  have hl : (ns.map fun k => Value.int k 0).length = ((List.range ns.length).map fun i : Nat => Value.int i 0).length := by simp
  have hvl : ((List.range ns.length).map fun i : Nat => Value.int i 0).length = ns.length := by simp
  generalize hks : (ns.map fun k => Value.int k 0) = ks at hl
  generalize hvs : ((List.range ns.length).map fun i : Nat => Value.int i 0) = vs at hl hvl
  have hkg : ∀ i, i < ns.length → ks.getD i Value.none = .int (ns.getD i 0) 0 := fun i hi => by rw [← hks]; simp [hi]
  have hvg : ∀ i, i < ns.length → vs.getD i Value.none = .int i 0 := fun i hi => by rw [← hvs]; simp [hi]
  have w1 : wpAny (model prog w) A ((sortRuns').run (SortSt.mk' oneType' (ks.toArray.zip vs.toArray) #[] 7 none)) (fun r s' => arrOf r.2 = p.map (kas_item (ks.toArray.zip vs.toArray)) ∧ p.size = vs.length) (fun _ _ => False) s := by
    refine kat_run (Q := fun st' s' => arrOf st' = p.map (kas_item (ks.toArray.zip vs.toArray)) ∧ p.size = vs.length) (G := fun p' _ => p' = p) hl (by omega) (by omega) (fun p' st' s' h1 h2 h3 h4 => by subst h4; exact ⟨h2, h1⟩) ?_
    rw [hvl]
    refine tr_wp (lt := fun i j => decide (ns.getD i 0 < ns.getD j 0)) (fun i j C hi hj hc => ?_) (tr_sort (by omega)) hp
    unfold kas_ask
    rw [hkg i hi, hkg j hj]
    exact kat_lt_int hc
  have hik : IntKeys (ks.toArray.zip vs.toArray) := fun q hq => by
    have h1 : q.1 ∈ ks := by
      have : q ∈ (ks.toArray.zip vs.toArray).toList := hq
      rw [Array.toList_zip] at this
      exact (List.of_mem_zip this).1
    rw [← hks] at h1
    obtain ⟨k, _, e⟩ := List.mem_map.mp h1
    exact ⟨k, 0, e.symm⟩
  have hsz : (ks.toArray.zip vs.toArray).size = ns.length := by simp [hl, hvl]
  have w2 := wpS_sortRuns (prog := prog) (w := w) (A := A) (E := fun _ _ => False) (s := s) (a₀ := ks.toArray.zip vs.toArray) (st := SortSt.mk' oneType' (ks.toArray.zip vs.toArray) #[] 7 none)
    (Q := fun _ st' => (arrOf st').Perm (ks.toArray.zip vs.toArray) ∧ SortedTo (arrOf st') ns.length) hik ⟨Array.Perm.refl _, rfl, rfl, rfl⟩ (by omega) (by omega) (fun st' a1 a2 a3 => ⟨a1, by rw [hsz] at a3; exact a3⟩)
  rcases wp_meet (w1 Γ pos hΓ) (w2 Γ pos hΓ) with ⟨a, pp, ss, ⟨h1, h0⟩, _, h2', h3⟩ | ⟨_, _, _, h, _⟩
  · rw [h1] at h2' h3
    have hperm : p.toList.Perm (List.range ns.length) := by
      have q := (Array.perm_iff_toList_perm.mp h2').map (fun q : Keyed => (numOf q.2).toNat)
      rw [Array.toList_map, List.map_map, Array.toList_zip] at q
      have e2 : (List.map (fun q : Keyed => (numOf q.2).toNat) (ks.zip vs)) = List.range ns.length := by
        have : (List.map (fun q : Keyed => (numOf q.2).toNat) (ks.zip vs)) = ((ks.zip vs).map Prod.snd).map fun v => (numOf v).toNat := by rw [List.map_map]; rfl
        rw [this, List.map_snd_zip (by omega), ← hvs, List.map_map]
        conv => rhs; rw [← List.map_id (List.range ns.length)]
        exact List.map_congr_left fun i _ => by simp [numOf]
      rw [e2] at q
      have e3 : List.map ((fun q : Keyed => (numOf q.2).toNat) ∘ kas_item (ks.toArray.zip vs.toArray)) p.toList = p.toList := by
        conv => rhs; rw [← List.map_id p.toList]
        refine List.map_congr_left fun i hi => ?_
        show (numOf (kas_item (ks.toArray.zip vs.toArray) i).2).toNat = i
        rw [kat_item hl, hvg i (hall i hi)]
        rfl
      rw [e3] at q
      exact q
    refine ⟨hperm, ?_⟩
    rw [List.pairwise_iff_getElem]
    intro i j hi hj hij
    rw [List.length_map, Array.length_toList] at hi hj
    have hps : p.size = ns.length := h0.trans hvl
    have := h3 i j (Nat.le_of_lt hij) (by omega)
    rw [K_eq (by simpa using hi), K_eq (by simpa using hj)] at this
    have ei : ∀ i (hi : i < p.size), numOf ((p.map (kas_item (ks.toArray.zip vs.toArray)))[i]'(by simpa using hi)).1 = ns.getD p[i] 0 := fun i hi => by
      rw [Array.getElem_map, kat_item hl, hkg _ (hall _ (by simp))]
      rfl
    rw [ei i hi, ei j hj] at this
    simpa using this
  · exact h.elim
end Mine
end

section
open PySem PySem.W PyProof.Rows PySem.Calls
set_option maxRecDepth 100000
set_option linter.unusedVariables false
namespace Mine
def enc (p : Int × Int) : Int := p.1 * 1000 + p.2
def Small (ps : List (Int × Int)) : Prop := ∀ p ∈ ps, 0 ≤ p.2 ∧ p.2 < 1000
theorem enc_inj {p q : Int × Int} (hp : 0 ≤ p.2 ∧ p.2 < 1000) (hq : 0 ≤ q.2 ∧ q.2 < 1000) (h : enc p = enc q) : p = q := by
  unfold enc at h
  have h1 : p.1 = q.1 := by omega
  have h2 : p.2 = q.2 := by omega
  exact Prod.ext h1 h2

section
variable {prog : Program} {w : World} {A : Around} {E : Value → Shared → Prop} {s : Shared}

theorem pair_lt {v u : Value} {p q : Int × Int} {Q : Bool → Shared → Prop} (hv : PairV s.heap v p) (hu : PairV s.heap u q) (hp : 0 ≤ p.2 ∧ p.2 < 1000) (hq : 0 ≤ q.2 ∧ q.2 < 1000) (h : Q (decide (enc p < enc q)) s) :
    wpAny (model prog w) A (keyLt' (tuples' true) v u) Q E s := by
  obtain ⟨U, t1, t2, rfl, oU, hoU, hcU, nU, hdU⟩ := hv
  obtain ⟨V, t3, t4, rfl, oV, hoV, hcV, nV, hdV⟩ := hu
  refine kat_lt hoU hdU hoV hdV ?_
  show KatLex prog w A true _ Q [(.int p.1 t1, .int q.1 t3), (.int p.2 t2, .int q.2 t4)] 0 s
  unfold enc at h
  refine kat_cons (wpAny_eqBool_int ?_)
  by_cases h1 : p.1 = q.1
  · rw [show (p.1 == q.1) = true by simpa using h1]
    refine kat_yes (kat_cons (wpAny_eqBool_int ?_))
    by_cases h2 : p.2 = q.2
    · rw [show (p.2 == q.2) = true by simpa using h2]
      refine kat_yes (kat_nil ?_)
      have e : decide (p.1 * 1000 + p.2 < q.1 * 1000 + q.2) = false := by rw [h1, h2]; simp
      rw [e] at h
      exact h
    · rw [show (p.2 == q.2) = false by simpa using h2]
      refine kat_no (kat_one _ _ (wpAny_lt_int ?_))
      have e : decide (p.1 * 1000 + p.2 < q.1 * 1000 + q.2) = decide (p.2 < q.2) := by rw [h1]; exact decide_eq_decide.mpr (by omega)
      rw [e] at h
      exact h
  · rw [show (p.1 == q.1) = false by simpa using h1]
    refine kat_no (oneLt_int ?_)
    have e : decide (p.1 * 1000 + p.2 < q.1 * 1000 + q.2) = decide (p.1 < q.1) := decide_eq_decide.mpr (by omega)
    rw [e] at h
    exact h

theorem katTups_of {h : Heap} : ∀ {vs : List Value} {ps : List (Int × Int)}, PairsV h vs ps → ∃ fs, KatTups h vs fs ∧ fs.length = vs.length ∧ ∀ v ∈ fs, ∃ k t, v = Value.int k t
  | _, _, .nil => ⟨[], KatTups.nil, rfl, fun v hv => nomatch hv⟩
  | _, _, .cons ⟨U, t, u, e, o, ho, hc, n, hd⟩ r => by
    obtain ⟨fs, h1, h2, h3⟩ := katTups_of r
    subst e
    exact ⟨_ :: fs, KatTups.cons ho hc hd rfl h1, by simp [h2], fun v hv => by
      rcases List.mem_cons.mp hv with rfl | hv
      · exact ⟨_, t, rfl⟩
      · exact h3 v hv⟩

theorem list_sort_pairs {a : Addr} {vs : List Value} {ps : List (Int × Int)} {n : Nat} {P : PySem.Fin → Shared → Prop} (ho : s.heap.get? a = some (seqObj "list" vs.toArray n)) (hP : PairsV s.heap vs ps) (hs : Small ps) (h64 : vs.length < 64)
    (h : ∀ (out : List Value) (qs : List (Int × Int)), Paired (fun v q => PairV s.heap v q) out qs → qs.Perm ps → (qs.map enc).Pairwise (· ≤ ·) → P (.done (.ret .none)) { s with heap := sortedHeap s.heap a vs out.toArray }) :
    wpAny (model prog w) A (Builtin.«list.sort» ⟨[.ref a], []⟩) P E s := by
  rw [list_sort_plain]
  have ha : a < s.heap.objs.size := Heap.lt_size ho
  refine wpAny_bind (listItems_at ho rfl ?_)
  refine wpAny_bind (listUpdate_at ho rfl ?_)
  obtain ⟨e1, ho1⟩ : ∃ e1, (s.heap.update a (Obj.mapSeq fun _ => #[])).get? a = some (seqObj "list" #[] e1) := ⟨_, PyProof.Rows.get?_update_seq ho (fun _ => #[])⟩
  refine wpAny_bind (seqEpoch_at ho1 rfl ?_)
  refine wpAny_bind (wpAny_newTuple ?_)
  refine wpAny_bind (wpAny_newList ?_)
  refine wpAny_holding ?_
  have kt : ∀ b o, s.heap.get? b = some o → o.cls = .type "tuple" → IsSeq o → (((s.heap.update a (Obj.mapSeq fun _ => #[])).push (seqObj "tuple" vs.toArray 0)).push (seqObj "list" #[] 0)).get? b = some o := fun b o e hc _ => by
    have hb : a ≠ b := fun q => by rw [← q, ho] at e; cases e; exact absurd (show Value.type "list" = Value.type "tuple" from hc) (by decide)
    exact Heap.get?_push_of_some _ (Heap.get?_push_of_some _ ((Heap.get?_update_other _ _ hb).trans e))
  have ho6 : (((s.heap.update a (Obj.mapSeq fun _ => #[])).push (seqObj "tuple" vs.toArray 0)).push (seqObj "list" #[] 0)).get? a = some (seqObj "list" #[] e1) := by
    rw [Heap.get?_push_ne _ _ _ (by rw [size_push', Heap.size_update]; exact Nat.ne_of_lt (Nat.lt_succ_of_lt ha)), Heap.get?_push_ne _ _ _ (by rw [Heap.size_update]; exact Nat.ne_of_lt ha)]
    exact ho1
  have hP6 : PairsV (((s.heap.update a (Obj.mapSeq fun _ => #[])).push (seqObj "tuple" vs.toArray 0)).push (seqObj "list" #[] 0)) vs ps := Paired.imp (fun v q x => PairV.tup x kt) hP
  show wpAny (model prog w) A _ P E { s with heap := ((s.heap.update a (Obj.mapSeq fun _ => #[])).push (seqObj "tuple" vs.toArray 0)).push (seqObj "list" #[] 0) }
  generalize hh6 : ((s.heap.update a (Obj.mapSeq fun _ => #[])).push (seqObj "tuple" vs.toArray 0)).push (seqObj "list" #[] 0) = h6 at *
  dsimp only
  have hsz : vs.toArray.size = vs.length := by simp
  have hpl : vs.length = ps.length := hP.length
  have fin : ∀ (out : List Value), out.toArray.size = vs.length → P (.done (.ret .none)) { s with heap := sortedHeap s.heap a vs out.toArray } → P (.done (.ret .none)) { s with heap := h6.update a (Obj.mapSeq fun _ => out.toArray) } := fun out _ hp => by rw [← hh6]; exact hp
  by_cases h2 : vs.toArray.size < 2
  · rw [if_pos h2, if_pos h2]
    refine wpAny_bind (wpAny_pure ?_)
    rw [StateT.run_pure]
    refine wpAny_bind (wpAny_pure ?_)
    dsimp only
    refine wpAny_bind (seqEpoch_at ho6 rfl ?_)
    have he : (arrOf (SortSt.mk' general' (vs.toArray.zip vs.toArray) #[] 7 none)).map (·.2) = vs.toArray := by
      show (vs.toArray.zip vs.toArray).map (·.2) = vs.toArray
      apply Array.toList_inj.mp
      rw [Array.toList_map, Array.toList_zip]
      exact List.map_snd_zip (Nat.le_refl _)
    refine wpAny_bind (listUpdate_at ho6 rfl ?_ (hsz2 := by show ((arrOf (SortSt.mk' general' (vs.toArray.zip vs.toArray) #[] 7 none)).map (·.2)).size ≤ _; rw [he, sizeLine_eq]; omega))
    simp only [bne_self_eq_false, Bool.false_eq_true, if_false]
    refine wpAny_pure ?_
    rw [he]
    refine fin vs hsz (h vs ps hP (List.Perm.refl _) ?_)
    rw [List.pairwise_iff_getElem]
    intro i j hi hj hij
    rw [List.length_map] at hi hj; omega
  · rw [if_neg h2, if_neg h2]
    obtain ⟨fs, hf1, hf2, hf3⟩ := katTups_of hP6
    refine wpAny_bind (kat_kind (s := { s with heap := h6 }) (T := .type "int") hf1 (by omega) (fun v hv => by obtain ⟨k, t, rfl⟩ := hf3 v hv; exact Looks.now) (by decide) ?_)
    rw [show (Value.type "int" != Value.type "tuple") = true by decide]
    intro Γ pos hΓ
    obtain ⟨hperm, hsort⟩ := sort_ev (prog := prog) (w := w) hΓ pos s (ns := ps.map enc) (by simp; omega) (by simp; omega)
    rw [List.length_map] at hperm hsort
    have hn : ps.length = vs.length := hpl.symm
    generalize hpp : ev (fun i j => decide ((ps.map enc).getD i 0 < (ps.map enc).getD j 0)) (kas_sort ps.length) = p at hperm hsort
    refine (wpAny_bind (m := (sortRuns').run (SortSt.mk' (tuples' true) (vs.toArray.zip vs.toArray) #[] 7 none)) (wpAny_mono (kat_run (s := { s with heap := h6 }) (κ := tuples' true) (ks := vs) (vs := vs) (E := E) (Q := fun st' s' => arrOf st' = p.map (kas_item (vs.toArray.zip vs.toArray)) ∧ failedOf st' = none ∧ s' = { s with heap := h6 }) (G := fun p' s' => p' = p ∧ s' = { s with heap := h6 }) rfl (by omega) h64 (fun p' st' s' h1 h2 h3 h4 => by obtain ⟨rfl, rfl⟩ := h4; exact ⟨h2, h3, rfl⟩) ?_) ?_ fun _ _ e => e)) Γ pos hΓ
    · rw [← hn]
      refine tr_wp (lt := fun i j => decide ((ps.map enc).getD i 0 < (ps.map enc).getD j 0)) (fun i j C hi hj hc => ?_) (tr_sort (by omega)) ⟨hpp, rfl⟩
      unfold kas_ask
      have gv : ∀ i, i < ps.length → PairV h6 (vs.getD i Value.none) (ps.getD i (0, 0)) ∧ (ps.map enc).getD i 0 = enc (ps.getD i (0, 0)) ∧ ps.getD i (0, 0) ∈ ps := fun i hi => by
        obtain ⟨v, hv, x⟩ := Paired.get hP6 i ps[i] (List.getElem?_eq_getElem hi)
        have : ps.getD i (0, 0) = ps[i] := by simp [hi]
        rw [this, List.getD_eq_getElem?_getD, hv]
        exact ⟨x, by simp [hi], List.getElem_mem hi⟩
      obtain ⟨vi, ei, mi⟩ := gv i hi
      obtain ⟨vj, ej, mj⟩ := gv j hj
      rw [ei, ej] at hc
      exact pair_lt vi vj (hs _ mi) (hs _ mj) hc
    · rintro ⟨⟨⟩, st'⟩ s' ⟨har, hf, rfl⟩
      dsimp only
      refine wpAny_bind (seqEpoch_at ho6 rfl ?_)
      have he := kat_snds (ks := vs) (vs := vs) rfl har
      have hpl2 : p.toList.length = vs.length := by rw [hperm.length_eq, List.length_range]; omega
      refine wpAny_bind (listUpdate_at ho6 rfl ?_ (hsz2 := by show ((arrOf st').map (·.2)).size ≤ _; rw [he, sizeLine_eq, List.size_toArray, List.length_map]; omega))
      rw [hf]
      simp only [bne_self_eq_false, Bool.false_eq_true, if_false]
      refine wpAny_pure ?_
      rw [he]
      have hlt : ∀ i ∈ p.toList, i < ps.length := fun i hi => by have := hperm.mem_iff.mp hi; simpa using this
      refine fin _ (by simp [hpl2]) (h _ (p.toList.map fun i => ps.getD i (0, 0)) ?_ ?_ ?_)
      · generalize p.toList = l at hlt
        induction l with
        | nil => exact .nil
        | cons i r ih =>
          refine .cons ?_ (ih fun j hj => hlt j (List.mem_cons_of_mem _ hj))
          have hi := hlt i List.mem_cons_self
          obtain ⟨v, hv, x⟩ := Paired.get hP i ps[i] (List.getElem?_eq_getElem hi)
          show PairV s.heap (vs.getD i Value.none) (ps.getD i (0, 0))
          rw [List.getD_eq_getElem?_getD, hv, List.getD_eq_getElem?_getD, List.getElem?_eq_getElem hi]
          exact x
      · have := hperm.map (fun i => ps.getD i (0, 0))
        have e : (List.range ps.length).map (fun i => ps.getD i (0, 0)) = ps := by
          apply List.ext_getElem (by simp)
          intro i h1 h2
          simp at h1
          simp [h1]
        rw [e] at this; exact this
      · rw [List.map_map]
        have e : (p.toList.map (enc ∘ fun i => ps.getD i (0, 0))) = p.toList.map fun i => (ps.map enc).getD i 0 := List.map_congr_left fun i hi => by
          have := hlt i hi
          simp [this]
        rw [e]; exact hsort
end
end Mine
end

section
open PySem PySem.W PyProof.Rows PySem.Calls
set_option maxRecDepth 100000
set_option linter.unusedVariables false
namespace Mine
section
variable {prog : Program} {w : World} {A : Around} {E : Value → Shared → Prop} {s : Shared}

theorem sortedP_via {v : Value} {ps : List (Int × Int)} {Q : Value → Shared → Prop} (hlen : ps.length < 64) (hs : Small ps)
    (hc : ∀ (E' : Value → Shared → Prop) (Q' : List Value → Shared → Prop), (∀ vs qs s', PairsV s'.heap vs qs → qs.Perm ps → Ex s s' → s'.gens = s.gens → s.toks ≤ s'.toks → Q' vs s') → wpAny (model prog w) A.in1 (collect v) Q' E' s)
    (h : ∀ D s' ms, ms.Perm ps → (ms.map enc).Pairwise (· ≤ ·) → LP s'.heap D ms → s.heap.get? D = none → Ex s s' → s'.gens = s.gens → s.toks ≤ s'.toks → Q (.ref D) s') :
    wpAny (model prog w) A (call (.builtin "sorted") [v]) Q E s := by
  refine Calls.call_function_entry kind_sorted plain_sorted entry_sorted (args_sorted1 _) ?_
  unfold Builtin.«sorted»
  refine wpAny_bind (m := checkCount "sorted" 1 1 _) (wpAny_pure ?_)
  refine wpAny_bind (hc _ _ fun vs qs s₁ hi hp x1 hg1 ht1 => ?_)
  have hvl : vs.length < 64 := by have := hi.length; have := hp.length_eq; omega
  have hsq : Small qs := fun q hq => hs q (hp.mem_iff.mp hq)
  refine wpAny_bind (wpAny_newList ?_ (by rw [sizeLine_eq]; omega))
  have hoL : (s₁.heap.push (seqObj "list" vs.toArray 0)).get? s₁.heap.objs.size = some (seqObj "list" vs.toArray 0) := Heap.get?_push_size _ rfl
  have hDn : s.heap.get? s₁.heap.objs.size = none := x1.none (none_ge (Nat.le_refl _))
  have hi2 : PairsV (s₁.heap.push (seqObj "list" vs.toArray 0)) vs qs := hi.keeps fun b o e _ => Heap.get?_push_of_some _ e
  generalize hD : s₁.heap.objs.size = D at *
  refine wpAny_bind (wpAny_holding (wpAny_call_entry slot_list_sort ⟨_, hoL, rfl⟩ entry_list_sort (list_sort_pairs hoL hi2 hsq hvl fun out ns' a1 a2 a3 => ⟨_, rfl, ?_⟩) (args_list_sort _)))
  have kk : ∀ b o, s₁.heap.get? b = some o → (sortedHeap (s₁.heap.push (seqObj "list" vs.toArray 0)) D vs out.toArray).get? b = some o := fun b o e => by
    have hb : D ≠ b := by rw [← hD]; exact Nat.ne_of_gt (Heap.lt_size e)
    unfold sortedHeap
    exact (Heap.get?_update_other _ _ hb).trans (Heap.get?_push_of_some _ (Heap.get?_push_of_some _ ((Heap.get?_update_other _ _ hb).trans (Heap.get?_push_of_some _ e))))
  refine wpAny_pure ⟨_, rfl, h D _ ns' (a2.trans hp) a3 ?_ hDn (x1.trans ⟨kk, id, rfl⟩) hg1 ht1⟩
  refine ⟨out, ?_, Paired.imp (fun v q x => PairV.tup x fun b o e hc' hs' => ?_) a1⟩
  · have h1 := PyProof.Rows.get?_update_seq hoL (fun _ => #[])
    have h2 := Heap.get?_push_of_some (seqObj "list" #[] 0) (Heap.get?_push_of_some (seqObj "tuple" vs.toArray 0) h1)
    have h3 := PyProof.Rows.get?_update_seq h2 (fun _ => out.toArray)
    exact ⟨_, h3, rfl, _, rfl⟩
  · have hb : D ≠ b := fun q => by rw [← q, hoL] at e; cases e; exact absurd (show Value.type "list" = Value.type "tuple" from hc') (by decide)
    show (sortedHeap (s₁.heap.push (seqObj "list" vs.toArray 0)) D vs out.toArray).get? b = some o
    unfold sortedHeap
    exact (Heap.get?_update_other _ _ hb).trans (Heap.get?_push_of_some _ (Heap.get?_push_of_some _ ((Heap.get?_update_other _ _ hb).trans e)))

/-- sorted(list of pairs of ints) -/
theorem sorted_pairs {a : Addr} {l : List (Int × Int)} {Q : Value → Shared → Prop} (hL : LP s.heap a l) (hlen : l.length < 64) (hs : Small l)
    (h : ∀ D s' ms, ms.Perm l → (ms.map enc).Pairwise (· ≤ ·) → LP s'.heap D ms → s.heap.get? D = none → Ex s s' → s'.gens = s.gens → s.toks ≤ s'.toks → Q (.ref D) s') :
    wpAny (model prog w) A (call (.builtin "sorted") [.ref a]) Q E s := by
  obtain ⟨vs, hl, hi⟩ := hL
  have hvl : vs.length < 64 := by have := hi.length; omega
  have kk : ∀ b o, s.heap.get? b = some o → ((s.heap.push (seqObj "list" #[] 0)).update s.heap.objs.size (Obj.mapSeq (· ++ vs.toArray))).get? b = some o := fun b o e =>
    (Heap.get?_update_other _ _ (Nat.ne_of_gt (Heap.lt_size e))).trans (Heap.get?_push_of_some _ e)
  exact sortedP_via hlen hs (fun E' Q' hq => collect_list hl (hq vs l _ (hi.keeps fun b o e _ => kk b o e) (List.Perm.refl _) ⟨kk, id, rfl⟩ rfl (Nat.le_refl _)) (by rw [sizeLine_eq]; omega)) h

/-- the items of a dict of ints -/
def DictP (prog : Program) (w : World) (h : Heap) (d : Addr) (ps : List (Int × Int)) : Prop := ∃ kvs, DictI prog w h d kvs ∧ Paired (fun (kv : Int × Value) (p : Int × Int) => kv.1 = p.1 ∧ ∃ t, kv.2 = .int p.2 t) kvs ps
theorem DictP.at {h h' : Heap} {d : Addr} {ps : List (Int × Int)} (x : DictP prog w h d ps) (k : ∀ o, h.get? d = some o → h'.get? d = some o) : DictP prog w h' d ps := let ⟨kvs, hd, hp⟩ := x; ⟨kvs, hd.at k, hp⟩

/-- sorted(the items' view of a dict of ints) -/
theorem sorted_items {v d : Addr} {l : List (Int × Int)} {Q : Value → Shared → Prop} (hh : A.handled = none) (hv : s.heap.IsItemsView v d) (hd : DictP prog w s.heap d l) (hlen : l.length < 64) (hs : Small l)
    (h : ∀ D s' ms, ms.Perm l → (ms.map enc).Pairwise (· ≤ ·) → LP s'.heap D ms → s.heap.get? D = none → Ex s s' → s'.gens = s.gens → s.toks ≤ s'.toks → Q (.ref D) s') :
    wpAny (model prog w) A (call (.builtin "sorted") [.ref v]) Q E s := by
  obtain ⟨kvs, hd, hp⟩ := hd
  obtain ⟨ep, hat⟩ := hd.dictAt
  have hkl : kvs.length = l.length := hp.length
  refine sortedP_via hlen hs (fun E' Q' hq => wpAny_with_toks (Nat.le_refl s.toks) (kdx_collect hh hv hat (by rw [sizeLine_eq]; omega) fun h' tk as k1 hal hG htk => ?_)) h
  refine hq _ l _ ?_ (List.Perm.refl _) ⟨k1, id, rfl⟩ rfl htk
  have hlk : ∀ j (hj : j < l.length), ∃ a, as[j]? = some a ∧ PairV h' (.ref a) l[j] := fun j hj => by
    have hja : j < as.length := by omega
    obtain ⟨key, k, x, e1, e2, e3⟩ := hG.pairs j as[j] (List.getElem?_eq_getElem hja)
    obtain ⟨⟨k', x'⟩, e4, e5, t, e6⟩ := Paired.get hp j l[j] (List.getElem?_eq_getElem hj)
    rw [e1] at e4; cases e4
    obtain ⟨t', rfl⟩ := Value.isInt_shape e2
    refine ⟨as[j], List.getElem?_eq_getElem hja, as[j], t', t, rfl, _, e3, rfl, 0, ?_⟩
    rw [← e5, ← e6]
  show PairsV h' (as.map Value.ref) l
  have hal' : as.length = l.length := by omega
  clear hq hat hd hp hG hlen hs h hkl hal
  induction l generalizing as with
  | nil => rw [List.length_eq_zero_iff.mp hal']; exact .nil
  | cons p r ih =>
    cases as with
    | nil => simp at hal'
    | cons a as =>
      refine .cons ?_ (ih as (fun j hj => ?_) (by simpa using hal'))
      · obtain ⟨a', e, x⟩ := hlk 0 (by simp)
        simp at e; subst e; simpa using x
      · obtain ⟨a', e, x⟩ := hlk (j + 1) (by simp; omega)
        exact ⟨a', by simpa using e, by simpa using x⟩
end
end Mine
end

section
open PySem PySem.W PyProof.Rows PySem.Calls
set_option maxRecDepth 100000
set_option linter.unusedVariables false
namespace Mine
section
variable {prog : Program} {w : World} {A : Around} {E : Value → Shared → Prop} {s : Shared}
theorem entry_set_ne : entryFor table "set.__ne__" = some Builtin.«frozenset.__ne__» :=
  entryFor_alias (id' := "frozenset.__ne__") (by kernel_rfl) rfl (by decide +kernel) (by kernel_rfl)

/-- two equal sets told unequal -/
theorem ne_set {a b : Addr} {l l' : List Int} {Q : Value → Shared → Prop} (ha : IsSet prog w s.heap a l) (hb : IsSet prog w s.heap b l') (hp : l.Perm l') (hu : A.units < cLine) (h : Q (.bool false) s) :
    wpAny (model prog w) A (compareOp .NotEq (.ref a) (.ref b)) Q E s := by
  refine wpAny_richCompare_same_room (op := .NotEq) ha.2.typeIs hb.2.typeIs PySem.F.slot_set_ne (wpAny_call_entry PySem.F.slot_set_ne ha.2.typeIs entry_set_ne ?_ (PySem.F.args_set_ne_2 _ _)) hu
  unfold Builtin.«frozenset.__ne__»
  wp_delta
  obtain ⟨_, oa, es, ep, ta, hoa, hexa, hda, hela, hmema, hba, hfa, hna⟩ := id ha
  obtain ⟨_, ob, es', ep', tb, hob, hexb, hdb, helb, hmemb, hbb, hfb, hnb⟩ := id hb
  refine wpAny_bind ?_
  unfold Builtin.Frozenset.slot1
  refine wpAny_bind (m := slotArgs "__ne__" 1 _) (wpAny_pure ?_)
  refine wpAny_pure ?_
  dsimp only
  refine wpAny_bind ?_
  unfold Builtin.Frozenset.isAnySet
  refine wpAny_bind (wpAny_isInstance (T := "set") (b := true) hb.2.typeIs sub_set_self ?_)
  refine wpAny_pure ?_
  rw [if_neg (by decide)]
  unfold Builtin.Frozenset.addrOf Builtin.Frozenset.sizeOf
  refine wpAny_bind (wpAny_pure ?_)
  refine wpAny_bind (wpAny_pure ?_)
  refine wpAny_bind (wpAny_bind (wpAny_setEntries_of hoa hda hfa (wpAny_pure ?_)))
  refine wpAny_bind (wpAny_bind (wpAny_setEntries_of hob hdb hfb (wpAny_pure ?_)))
  rw [if_neg (by rw [hna, hnb, hp.length_eq]; simp)]
  refine wpAny_bind ?_
  refine wpAny_bind ?_
  refine wpAny_bind (wpAny_isInstance (T := "set") (b := false) ha.2.typeIs (by rw [isSubtype_type]; kernel_rfl) ?_)
  refine wpAny_pure ?_
  rw [if_neg (by decide)]
  unfold Builtin.Frozenset.subsetOf Builtin.Frozenset.sizeOf
  refine wpAny_bind (wpAny_bind (wpAny_setEntries_of hoa hda hfa (wpAny_pure ?_)))
  refine wpAny_bind (wpAny_bind (wpAny_setEntries_of hob hdb hfb (wpAny_pure ?_)))
  rw [if_neg (by rw [hna, hnb, hp.length_eq]; exact Nat.lt_irrefl _)]
  unfold setEpoch
  refine wpAny_bind (wpAny_bind (wpAny_setState_of hoa hda hfa (wpAny_pure ?_)))
  unfold Builtin.Frozenset.walkUnseen
  refine wpAny_bind (wpAny_bind (wpAny_setEntries_of hoa hda hfa ?_))
  refine wpAny_bind (wpAny_setEntries_of hob hdb hfb ?_)
  have intOf : ∀ {es : Array (Int × Value)}, ElemsOf (intKind prog w) es.toList → ∀ e ∈ es.toList, ∃ k t, e.2 = .int k t ∧ e.1 = (intKind prog w).hash k := fun hel e he => by
    obtain ⟨⟨k, hk, hh⟩, _⟩ := hel e he
    obtain ⟨t, ht⟩ := Value.isInt_shape hk
    exact ⟨k, t, ht, hh⟩
  refine wpAny_bind (wpAny_forIn_list _ (fun rest q s' => s' = s ∧ q = (none, ()) ∧ ∀ e ∈ rest, ∃ k t, e.2 = Value.int k t) _ ?_ ?_ _ _ ⟨rfl, rfl, fun e he => ?_⟩)
  · rintro ⟨hx, x⟩ rest q s' ⟨rfl, rfl, hr⟩
    obtain ⟨k, t, rfl⟩ : ∃ k t, x = Value.int k t := hr _ List.mem_cons_self
    dsimp only
    refine wpAny_bind (m := Builtin.Frozenset.quietEq (.int k t)) (wpAny_pure ?_)
    rw [if_neg (by decide)]
    exact wpAny_pure ⟨rfl, rfl, fun e he => hr e (List.mem_cons_of_mem _ he)⟩
  · rintro q s' ⟨rfl, rfl, hr⟩
    refine wpAny_pure ?_
    dsimp only
    refine wpAny_bind (wpAny_forIn_list _ (fun rest q s'' => s'' = s' ∧ q = (none, ()) ∧ ∀ e ∈ rest, e ∈ es.toList) _ ?_ ?_ _ _ ⟨rfl, rfl, fun e he => he⟩)
    · rintro ⟨hx, x⟩ rest q s'' ⟨rfl, rfl, hr'⟩
      have he := hr' _ List.mem_cons_self
      obtain ⟨k, t, e2, e1⟩ := intOf hela _ he
      have e2' : x = Value.int k t := e2
      have e1' : hx = (intKind prog w).hash k := e1
      subst e2'; subst e1'
      have hk : k ∈ l := of_decide_eq_true ((hmema k).mpr ⟨_, he, intKind_is _ _ _ _⟩)
      dsimp only
      refine wpAny_bind (wpAny_holding (wpAny_setFind_of (knd := intKind prog w) (k := k) (intKind_is _ _ _ _) rfl hb.2 fun r hr2 => ?_))
      have : r.isSome = true := by rw [hr2]; exact decide_eq_true (hp.mem_iff.mp hk)
      rw [if_neg (by cases r <;> simp_all)]
      refine wpAny_bind ?_
      unfold Builtin.Frozenset.unchanged setEpoch
      refine wpAny_bind (wpAny_bind (wpAny_setState_of hoa hda hfa (wpAny_pure ?_)))
      rw [if_neg (by simp)]
      exact wpAny_pure (wpAny_pure ⟨rfl, rfl, fun e he => hr' e (List.mem_cons_of_mem _ he)⟩)
    · rintro q s'' ⟨rfl, rfl, _⟩
      refine wpAny_pure (wpAny_pure ⟨_, rfl, fun x => (nomatch x), ?_⟩)
      exact h
  · rcases List.mem_append.mp he with he | he
    · obtain ⟨k, t, e, _⟩ := intOf hela e he; exact ⟨k, t, e⟩
    · obtain ⟨k, t, e, _⟩ := intOf helb e he; exact ⟨k, t, e⟩
end
end Mine
end

section
open PySem PySem.W PyProof.Rows PySem.Calls
set_option maxRecDepth 100000
set_option linter.unusedVariables false
namespace Mine
def cellOf (ns : List Int) (k : Nat) : Int := if k < ns.length then (if ns.getD k 0 < 0 then -(ns.getD k 0) else ns.getD k 0).fmod 1000003 else 7 * k + 3
theorem cellOf_nonneg (ns : List Int) (k : Nat) : 0 ≤ cellOf ns k := by
  unfold cellOf
  split
  · exact Int.fmod_nonneg_of_pos _ (by decide)
  · omega
section
variable {prog : Program} {w : World} {A : Around} {E : Value → Shared → Prop} {s : Shared} {mg mb : Str → Option Value}
theorem i_mul {a b : Int} {t u : Tok} {Q : Value → Shared → Prop} (h : Q (.int (a * b) s.toks) { s with toks := s.toks + 1 }) (hm : IntMulOk a b := by mul_fits) : wpAny (model prog w) A (binaryOp .Mult (.int a t) (.int b u)) Q E s := AutoIntOps.mul_0 h hm

/-- _law_cell(script, k) -/
theorem cell_call {a l : Addr} {ns : List Int} {k : Nat} {t : Tok} {Q : Value → Shared → Prop} {j : Nat} (hr : Rm A (j + 1)) (X : AtF s.heap mg 4 a) (D : Wd mg mb s.heap) (hl : LI s.heap l ns) (hlen : ns.length ≤ 100) (hk : k ≤ 1000)
    (h : ∀ s' t', Ex s s' → Q (.int (cellOf ns k) t') s') : wpAny (model prog w) A (call (.ref a) [.ref l, .int k t]) Q E s := by
  refine call_at (binds := [(nm "script", .ref l), (nm "at", .int k t)]) hr.room X D (fun pm code doc => by rfl) [nm "script", nm "at"] rfl (by decide +kernel) (by decide) fun env s₁ E' hs hc F L M V => ?_
  have V1 : VarAt s₁.heap env (nm "script") (.ref l) := V _ List.mem_cons_self
  have V2 : VarAt s₁.heap env (nm "at") (.int k t) := V _ (List.mem_cons_of_mem _ List.mem_cons_self)
  have D1 := D.keeps M.all
  have KI : Kin env (dr 4).scope := Kin.of hs
  obtain ⟨vs, hl1, hi⟩ := hl.keeps (h' := s₁.heap) fun b o e _ => M.all _ _ e
  have hvl : vs.length = ns.length := hi.length
  refine wpAny_execs_cons ?_
  refine wpAny_Return_some ?_
  refine wpAny_IfExp (wpAny_isTrue_Compare1 (ev_name F.kind V2 ?_))
  refine ev_cB F D1 KI (kB_of (by decide +kernel) kv_len : kB (dr 4).scope "len" (.builtin "len") = true) (arg1 (ev_name F.kind V1 ?_))
  refine call_len_list hl1 (by simp; omega) ?_
  refine PySem.P.lt_int (wpAny_truthy_bool ?_)
  have D2 : Wd mg mb ({ s₁ with toks := s₁.toks + 1 + 1 } : Shared).heap := D1
  have V12 : VarAt ({ s₁ with toks := s₁.toks + 1 + 1 } : Shared).heap env (nm "script") (.ref l) := V1
  have V22 : VarAt ({ s₁ with toks := s₁.toks + 1 + 1 } : Shared).heap env (nm "at") (.int k t) := V2
  have hl2 : ({ s₁ with toks := s₁.toks + 1 + 1 } : Shared).heap.IsList l vs.toArray := hl1
  have x2 : Ex s ({ s₁ with toks := s₁.toks + 1 + 1 } : Shared) := M.ex.trans (Ex.toks s₁ _)
  generalize ({ s₁ with toks := s₁.toks + 1 + 1 } : Shared) = s₂ at *
  by_cases hlt : k < ns.length
  · have e : decide ((k : Int) < (vs.toArray.size : Nat)) = true := by simp; omega
    rw [e]
    simp only [if_true]
    have hc : cellOf ns k = (if ns.getD k 0 < 0 then -(ns.getD k 0) else ns.getD k 0).fmod 1000003 := if_pos hlt
    obtain ⟨u, hu⟩ := ints_get hi k (ns.getD k 0) (by simp [hlt])
    refine wpAny_BinOp ?_
    refine ev_cB F D2 KI (kB_of (by decide +kernel) kv_abs : kB (dr 4).scope "abs" (.builtin "abs") = true) (arg1 ?_)
    refine ev_cT F D2 KI (kB_of (by decide +kernel) kv_int : kB (dr 4).scope "int" (.type "int") = true) (arg1 ?_)
    refine sub_list (ev_name F.kind V12 (ev_name F.kind V22 ⟨l, vs.toArray, k, t, .int (ns.getD k 0) u, rfl, rfl, hl2, by omega, by simpa using hu, ?_⟩))
    refine call_int_int ?_
    refine call_abs_int fun u' tk => ?_
    refine wpAny_Constant_int ?_
    refine i_mod (by decide) ?_
    rw [← hc]
    exact h _ _ ((x2.trans (Ex.toks s₂ _)).trans (Ex.toks _ _))
  · have e : decide ((k : Int) < (vs.toArray.size : Nat)) = false := by simp; omega
    rw [e]
    simp only [Bool.false_eq_true, if_false]
    have hc : cellOf ns k = 7 * k + 3 := if_neg hlt
    refine wpAny_BinOp (wpAny_BinOp (wpAny_Constant_int (ev_name F.kind V22 (i_mul (wpAny_Constant_int (i_add ?_))))))
    rw [← hc]
    exact h _ _ ((x2.trans (Ex.toks s₂ _)).trans (Ex.toks _ _))
end
end Mine
end

section
open PySem PySem.W PyProof.Rows PySem.Calls
set_option maxRecDepth 100000
set_option linter.unusedVariables false
namespace Mine
section
variable {prog : Program} {w : World} {A : Around} {E : Value → Shared → Prop} {s : Shared} {env : Env} {hb : Heap}

/-- for x in it: body, it walked -/
theorem for_src {x : Str} {px pos : Pos} {iter : Expr} {body : List Stmt} {Q : Flow → Shared → Prop} (F : Fm env hb) (hx : env.kindOf x = some .local ∨ (env.kindOf x = some .cell ∧ (env.cells.lookup x).isSome = true)) (hxo : okName x = true)
    (h : wpAny (model prog w) A (eval iter env) (fun xv s₁ => wpAny (model prog w) A (pyIter xv) (fun it s₂ => ∃ I fp wr n P St, ∃ J : Nat → Shared → Prop, it = .ref I ∧ Walks prog w A I fp wr n P St ∧ St 0 s₂.heap ∧ (∀ b ∈ fp, Out env b) ∧ J 0 s₂ ∧
      (∀ i s₃, J i s₃ → Live env s₃.heap) ∧
      (∀ i v s₃ s₄ s₅ (E' : Value → Shared → Prop), i < n → J i s₃ → St i s₃.heap → P i v → Mv wr s₃ s₄ → Live env s₄.heap → Stored env x v s₄ s₅ →
        wpAny (model prog w) A (execs body env) (fun f s₆ => match f with
          | .next | .cont => J (i + 1) s₆ ∧ ∀ b ∈ fp, ∀ o, s₅.heap.get? b = some o → s₆.heap.get? b = some o
          | .brk => False
          | .ret r => Q (.ret r) s₆) E' s₅) ∧
      (∀ s₃ s₄, J n s₃ → St n s₃.heap → Mv wr s₃ s₄ → Q .next s₄)) E s₁) E s)
    (hs : ∀ x, foldedSetIterable iter env x = pure x := by intro _; rfl) :
    wpAny (model prog w) A (exec (.For (.Name x px) iter body [] pos) env) Q E s := by
  refine wpAny_For (wpAny_mono h (fun xv s₁ h₁ => wpAny_mono h₁ (fun it s₂ h₂ => ?_) fun _ _ x => x) fun _ _ x => x) hs
  obtain ⟨I, fp, wr, n, P, St, J, rfl, W, hst, hfp, hJ, hLJ, turn, done⟩ := h₂
  refine codeAny_forLoop (fun m s' => ∃ i, m = n - i ∧ i ≤ n ∧ J i s' ∧ St i s'.heap) ?_ n ⟨0, rfl, Nat.zero_le _, hJ, hst⟩
  rintro m s' ⟨i, rfl, hi, hj, hst'⟩
  rcases Nat.lt_or_ge i n with hlt | hge
  · refine W.item i s' _ _ hlt hst' fun v h' tk hP hst1 hk => ?_
    have m4 : Mv wr s' { s' with heap := h', toks := tk } := Mv.of hk
    have L3 := hLJ i s' hj
    have hwo : ∀ b ∈ wr, Out env b := fun b hb => hfp b (W.sub b hb)
    have L4 : Live env ({ s' with heap := h', toks := tk } : Shared).heap :=
      ⟨let ⟨m, o, es, ep, ho, r⟩ := L3.ns; ⟨m, o, es, ep, hk _ _ (fun q => (hwo _ q).1 rfl) ho, r⟩, fun nn c e => let ⟨v, o, ho, hd⟩ := L3.cell nn c e; ⟨v, o, hk _ _ (fun q => (hwo _ q).2 nn e) ho, hd⟩⟩
    refine wpAny_assign_Name (st_name F L4 hx hxo fun s₅ st => ?_)
    refine wpAny_mono (turn i v s' _ s₅ _ hlt hj hst' hP m4 L4 st) (fun f s₆ h₆ => ?_) fun _ _ x => x
    have stk : ∀ {s₆ : Shared}, (∀ b ∈ fp, ∀ o, s₅.heap.get? b = some o → s₆.heap.get? b = some o) → St (i + 1) s₆.heap := fun hk6 =>
      W.frame _ _ _ hst1 fun b hb o e => hk6 b hb o (st.fs.kp b o (hfp b hb) (fun q => nomatch q) e)
    cases f with
    | next => exact ⟨n - (i + 1), by omega, i + 1, rfl, hlt, h₆.1, stk h₆.2⟩
    | cont => exact ⟨n - (i + 1), by omega, i + 1, rfl, hlt, h₆.1, stk h₆.2⟩
    | brk => exact h₆.elim
    | ret r => exact h₆
  · have : i = n := Nat.le_antisymm hi hge
    subst this
    refine W.done s' _ _ hst' fun h' tk hk => ?_
    exact wpAny_execs_nil (done s' _ hj hst' (Mv.of hk))
end
end Mine
end

section
open PySem PySem.W PyProof.Rows PySem.Calls
set_option maxRecDepth 100000
set_option linter.unusedVariables false
namespace Mine
/-- the second clause's walk -/
def innerM (e iter2 : Expr) (acc : Value) (env : Env) : Sem Unit := do
  let x ← eval iter2 env
  standAt iter2.pos
  let x ← foldedSetIterable iter2 env x
  let _ ← runOwn (.compStart e 1 (← holding [x] (pyIter x)) acc env) env

structure InnerShape (e : Expr) (y : Str) (py p : Pos) (ifs : List Expr) (body : Value → Env → Sem Unit) (prog : Program) (w : World) (A : Around) : Prop where
  turn : ∀ it acc env, compTurn e 1 it acc env = turnM p it (.Name y py) ifs (body acc env) (.compLoop e 1 it acc env) env
  denL : ∀ it acc env, (model prog w).den (.compLoop e 1 it acc env) = (compTurn e 1 it acc env).onRaise (fun x => do noteFrame x env; theTreesLotGoes x)
  denS : ∀ it acc env, (model prog w).den (.compStart e 1 it acc env) = (compStart e 1 it acc env).onRaise (fun x => do noteFrame x env; standAt theWindowsPlace)
  underL : ∀ it acc env, A.under (.compLoop e 1 it acc env) = A
  underS : ∀ it acc env, A.under (.compStart e 1 it acc env) = A
  quiet : ∀ it acc env, (Code.compLoop e 1 it acc env).quiet = true
  goes : ∀ it v, letOwnedTupleGo (.Name y py) it v = pure ()

section
variable {prog : Program} {w : World} {A : Around} {E : Value → Shared → Prop} {s : Shared} {env : Env} {hb : Heap}

theorem inner_use {e iter2 : Expr} {g1 g : Comprehension} {gs : List Comprehension} {y : Str} {py : Pos} {ifs : List Expr} {body : Value → Env → Sem Unit} {acc : Value} {Q : Unit → Shared → Prop} (hcl : clausesOf e = g1 :: g :: gs) (ha : g.is_async = 0)
    (hsh : InnerShape e y py iter2.pos ifs body prog w A) (F : Fm env hb) (hy : env.kindOf y = some .local ∨ (env.kindOf y = some .cell ∧ (env.cells.lookup y).isSome = true)) (hyo : okName y = true)
    (h : wpAny (model prog w) A (eval iter2 env) (fun xv s₁ => wpAny (model prog w) A (pyIter xv) (fun it s₂ => ∃ I fp wr n P St, ∃ J : Nat → Shared → Prop, it = .ref I ∧ Walks prog w A I fp wr n P St ∧ St 0 s₂.heap ∧ (∀ b ∈ fp, Out env b) ∧ J 0 s₂ ∧
      (∀ i s₃, J i s₃ → Live env s₃.heap) ∧
      (∀ i v s₃ s₄ s₅ (E' : Value → Shared → Prop), i < n → J i s₃ → P i v → Mv wr s₃ s₄ → Live env s₄.heap → Stored env y v s₄ s₅ →
        wpAny (model prog w) A (testsM ifs env) (fun ok s₆ => if ok = true then wpAny (model prog w) A (body acc env) (fun _ s₇ => J (i + 1) s₇ ∧ ∀ b ∈ fp, ∀ o, s₅.heap.get? b = some o → s₇.heap.get? b = some o) E' s₆
          else J (i + 1) s₆ ∧ ∀ b ∈ fp, ∀ o, s₅.heap.get? b = some o → s₆.heap.get? b = some o) E' s₅) ∧
      (∀ s₃ s₄, J n s₃ → Mv wr s₃ s₄ → Q () s₄)) E s₁) E s)
    (hs : ∀ x, foldedSetIterable iter2 env x = pure x := by intro _; rfl) :
    wpAny (model prog w) A (innerM e iter2 acc env) Q E s := by
  unfold innerM
  refine wpAny_bind (wpAny_mono h (fun xv s₁ h₁ => wpAny_bind (wpAny_standAt (wpAny_bind (wpAny_of_eq (hs xv) (wpAny_bind (wpAny_holding (wpAny_mono h₁ (fun it s₂ h₂ => ?_) fun _ _ x => x))))))) fun _ _ x => x)
  obtain ⟨I, fp, wr, n, P, St, J, rfl, W, hst, hfp, hJ, hLJ, turn, done⟩ := h₂
  refine wpAny_bind (wpAny_runOwn ?_)
  refine cs_start (g := g) (by rw [hcl]; rfl) ha (hsh.denS _ _ _) (hsh.underS _ _ _) (hsh.quiet _ _ _) ?_ (fun Q E' q => W.self 0 _ _ _ hst q)
  refine cl_loop (hsh.turn _ _ _) (hsh.denL _ _ _) (hsh.underL _ _ _) (hsh.quiet _ _ _) (hsh.goes _) (fun i s' => J i s' ∧ St i s'.heap) n (fun i s' E' hi hI => ?_) (fun s' E' hI => ?_) ⟨hJ, hst⟩
  · obtain ⟨hj, hst'⟩ := hI
    refine W.item i s' _ _ hi hst' fun v h' tk hP hst1 hk => ⟨v, rfl, ?_⟩
    have m4 : Mv wr s' { s' with heap := h', toks := tk } := Mv.of hk
    have L3 := hLJ i s' hj
    have hwo : ∀ b ∈ wr, Out env b := fun b hb => hfp b (W.sub b hb)
    have L4 : Live env ({ s' with heap := h', toks := tk } : Shared).heap :=
      ⟨let ⟨m, o, es, ep, ho, r⟩ := L3.ns; ⟨m, o, es, ep, hk _ _ (fun q => (hwo _ q).1 rfl) ho, r⟩, fun nn c e => let ⟨v, o, ho, hd⟩ := L3.cell nn c e; ⟨v, o, hk _ _ (fun q => (hwo _ q).2 nn e) ho, hd⟩⟩
    refine wpAny_assign_Name (st_name F L4 hy hyo fun s₅ st => ?_)
    have stk : ∀ {s₆ : Shared}, (∀ b ∈ fp, ∀ o, s₅.heap.get? b = some o → s₆.heap.get? b = some o) → St (i + 1) s₆.heap := fun hk6 =>
      W.frame _ _ _ hst1 fun b hb o e => hk6 b hb o (st.fs.kp b o (hfp b hb) (fun q => nomatch q) e)
    refine wpAny_mono (turn i v s' _ s₅ _ hi hj hP m4 L4 st) (fun ok s₆ h₆ => ?_) fun _ _ x => x
    cases ok with
    | true =>
      simp only [if_true] at h₆ ⊢
      exact wpAny_mono h₆ (fun _ s₇ h₇ => ⟨h₇.1, stk h₇.2⟩) fun _ _ x => x
    | false =>
      simp only [Bool.false_eq_true, if_false] at h₆ ⊢
      exact ⟨h₆.1, stk h₆.2⟩
  · obtain ⟨hj, hst'⟩ := hI
    refine W.done s' _ _ hst' fun h' tk hk => ⟨rfl, ?_⟩
    exact wpAny_pure (done s' _ hj (Mv.of hk))
end
end Mine
end

section
open PySem PySem.W PyProof.Rows PySem.Calls
set_option maxRecDepth 100000
set_option linter.unusedVariables false
namespace Mine
section
variable {prog : Program} {w : World} {A : Around} {E : Value → Shared → Prop} {s : Shared} {Q : Value → Shared → Prop}

theorem it_list2 {l : Addr} {items : Array Value} (hh : A.handled = none) (hl : s.heap.IsList l items)
    (h : ∀ I s₂ fp (St : Nat → Heap → Prop), Walks prog w A I fp [I] items.size (fun i v => items[i]? = some v) St → St 0 s₂.heap → (∀ b ∈ fp, b = I ∨ b = l) → s.heap.get? I = none → Mv [] s s₂ → (∀ i h, St i h → ∃ o fs, h.get? I = some o ∧ o.data = .fields fs) → Q (.ref I) s₂) : wpAny (model prog w) A (pyIter (.ref l)) Q E s := by
  refine wpAny_pyIter_list hl ?_
  have hlt : l < s.heap.objs.size := by obtain ⟨o, ho, _⟩ := hl; exact Heap.lt_size ho
  exact h _ _ [s.heap.objs.size, l] (fun i h => h.IsListIter s.heap.objs.size l i ∧ h.IsList l items) (Walks.list hh _ l (Nat.ne_of_lt hlt) items) ⟨⟨_, Heap.get?_push_size _ rfl, rfl, rfl⟩, hl.push _⟩
    (fun b hb => by simpa using hb) (fresh_size _) (Mv.push s _ s.toks) (fun i h hs => let ⟨o, ho, _, hd⟩ := hs.1; ⟨o, _, ho, hd⟩)
theorem it_tuple2 {l : Addr} {items : Array Value} (hh : A.handled = none) (hl : s.heap.IsTuple l items)
    (h : ∀ I s₂ fp (St : Nat → Heap → Prop), Walks prog w A I fp [I] items.size (fun i v => items[i]? = some v) St → St 0 s₂.heap → (∀ b ∈ fp, b = I ∨ b = l) → s.heap.get? I = none → Mv [] s s₂ → (∀ i h, St i h → ∃ o fs, h.get? I = some o ∧ o.data = .fields fs) → Q (.ref I) s₂) : wpAny (model prog w) A (pyIter (.ref l)) Q E s := by
  refine wpAny_pyIter_tuple hl ?_
  have hlt : l < s.heap.objs.size := by obtain ⟨o, ho, _⟩ := hl; exact Heap.lt_size ho
  exact h _ _ [s.heap.objs.size, l] (fun i h => h.IsTupleIter s.heap.objs.size l i ∧ h.IsTuple l items) (Walks.tuple hh _ l (Nat.ne_of_lt hlt) items) ⟨⟨_, Heap.get?_push_size _ rfl, rfl, rfl⟩, hl.push _⟩
    (fun b hb => by simpa using hb) (fresh_size _) (Mv.push s _ s.toks) (fun i h hs => let ⟨o, ho, _, hd⟩ := hs.1; ⟨o, _, ho, hd⟩)
theorem it_range2 {r : Addr} {a b : Int} {t u v : Tok} (hh : A.handled = none) (hr : IsRange s.heap r a b 1 t u v) (h1 : -(2 ^ 62) ≤ a) (h2 : a < 2 ^ 62) (h3 : -(2 ^ 62) ≤ b) (h4 : b < 2 ^ 62)
    (h : ∀ I s₂ fp (St : Nat → Heap → Prop), Walks prog w A I fp [I] (b - a).toNat (fun i v => ∃ t, v = .int (a + i) t) St → St 0 s₂.heap → (∀ b ∈ fp, b = I) → s.heap.get? I = none → Mv [] s s₂ → (∀ i h, St i h → ∃ o fs, h.get? I = some o ∧ o.data = .fields fs) → Q (.ref I) s₂) : wpAny (model prog w) A (pyIter (.ref r)) Q E s := by
  refine wpAny_pyIter_range hr (small_one h1 h2 h3 h4) ?_
  have hsz : Builtin.Range.rangeSize a b 1 = ((b - a).toNat : Int) := by rw [rangeSize_one]; split <;> omega
  refine h _ _ [s.heap.objs.size] _ { Walks.range hh s.heap.objs.size a 1 (b - a).toNat with item := fun i s Q E hi st hQ => (Walks.range hh _ a 1 (b - a).toNat).item i s Q E hi st fun v h' tk ⟨t, e⟩ => hQ v h' tk ⟨t, by simpa using e⟩ } ?_
    (fun b hb => by simpa using hb) (fresh_size _) (Mv.push s _ s.toks) (fun i h hs => ⟨_, _, hs, rfl⟩)
  have e1 : (a + ((0 : Nat) : Int) * 1) = a := by simp
  have e2 : (((b - a).toNat : Int) - ((0 : Nat) : Int)) = Builtin.Range.rangeSize a b 1 := by rw [hsz]; simp
  show IsRangeIter _ _ (a + ((0 : Nat) : Int) * 1) (((b - a).toNat : Int) - ((0 : Nat) : Int)) 1
  rw [e1, e2]
  exact Heap.get?_push_size _ rfl
end

/-! ### the rings, plainly -/
def lvSet (L : List (Int × Int)) (u lv : Int) : List (Int × Int) := if L.any (fun p => p.1 = u) then L.map (fun p => if p.1 = u then (p.1, lv) else p) else L ++ [(u, lv)]
def notIn (ks : List Int) (v : Int) : Bool := !ks.contains v
def ringNext (gr : Int → List Int) (ks us : List Int) : List Int := us.flatMap fun u => (gr u).filter (notIn ks)

section
variable {prog : Program} {w : World} {A : Around} {E : Value → Shared → Prop} {s : Shared} {env : Env} {hb : Heap}

theorem valueAt_isSome {kvs : List (Int × Value)} {k : Int} : (valueAt kvs k).isSome = (kvs.map (·.1)).contains k := by
  by_cases h : k ∈ kvs.map (·.1)
  · obtain ⟨x, e, _⟩ := valueAt_mem h
    rw [e]; simp only [Option.isSome_some]; exact (List.contains_iff_mem.mpr h).symm
  · rw [Bool.eq_iff_iff]
    constructor
    · intro h1
      obtain ⟨x, e⟩ := Option.isSome_iff_exists.mp h1
      exfalso
      refine h ?_
      clear h h1
      induction kvs with
      | nil => cases e
      | cons p r ih =>
        rw [valueAt_cons] at e
        by_cases e' : p.1 = k
        · rw [← e']; exact List.mem_cons_self
        · rw [if_neg e'] at e; exact List.mem_cons_of_mem _ (ih e)
    · intro h1; exact absurd (List.contains_iff_mem.mp h1) h
end

/-! ### comprehensions of two clauses -/
def turn2M (p : Pos) (it : Value) (t : Expr) (ifs : List Expr) (e iter2 : Expr) (acc : Value) (c : Code) (env : Env) : Sem Fin := do
  standAt p
  match ← pyNext it with
  | none => pure (.done .next)
  | some v =>
    letOwnedTupleGo t it v
    assign t env v
    let ok ← testsM ifs env
    if ok then do
      let x ← eval iter2 env
      standAt iter2.pos
      let x ← foldedSetIterable iter2 env x
      let _ ← runOwn (.compStart e 1 (← holding [x] (pyIter x)) acc env) env
      again c
    else again c
theorem turn2_eq {p : Pos} {it : Value} {t : Expr} {ifs : List Expr} {e iter2 : Expr} {acc : Value} {c : Code} {env : Env} : turn2M p it t ifs e iter2 acc c env = turnM p it t ifs (innerM e iter2 acc env) c env := by
  unfold turn2M turnM innerM
  congr 1
  funext _
  congr 1
  funext r
  cases r with
  | none => rfl
  | some v =>
    simp only [bind_assoc, pure_bind]
theorem shape2c {elt t1 t2 i1 i2 : Expr} {f1 f2 : List Expr} {scope : Scope} {pos : Pos} {it acc : Value} {env : Env} :
    compTurn (.ListComp elt [⟨t1, i1, f1, 0⟩, ⟨t2, i2, f2, 0⟩] scope pos) 0 it acc env = turnM i1.pos it t1 f1 (innerM (.ListComp elt [⟨t1, i1, f1, 0⟩, ⟨t2, i2, f2, 0⟩] scope pos) i2 acc env) (.compLoop (.ListComp elt [⟨t1, i1, f1, 0⟩, ⟨t2, i2, f2, 0⟩] scope pos) 0 it acc env) env := by
  rw [← turn2_eq]
  rfl
theorem shape2d {elt e2 t1 t2 i1 i2 : Expr} {f1 f2 : List Expr} {scope : Scope} {pos : Pos} {it acc : Value} {env : Env} :
    compTurn (.DictComp elt e2 [⟨t1, i1, f1, 0⟩, ⟨t2, i2, f2, 0⟩] scope pos) 0 it acc env = turnM i1.pos it t1 f1 (innerM (.DictComp elt e2 [⟨t1, i1, f1, 0⟩, ⟨t2, i2, f2, 0⟩] scope pos) i2 acc env) (.compLoop (.DictComp elt e2 [⟨t1, i1, f1, 0⟩, ⟨t2, i2, f2, 0⟩] scope pos) 0 it acc env) env := by
  rw [← turn2_eq]
  rfl
end Mine
end

section
open PySem PySem.W PyProof.Rows PySem.Calls
set_option maxRecDepth 100000
set_option linter.unusedVariables false
namespace Mine
/-- what a two-clause turn has gathered -/
def RAcc (gs : Nat → List Int) (D : Addr) (i : Nat) (h : Heap) : Prop := LI h D ((List.range i).flatMap gs)
theorem LI.atD {h h' : Heap} {a : Addr} {ns : List Int} (x : LI h a ns) (k : ∀ o, h.get? a = some o → h'.get? a = some o) : LI h' a ns := let ⟨vs, hl, hi⟩ := x; ⟨vs, hl.at k, hi⟩
theorem RAcc.stb {gs : Nat → List Int} (D : Addr) (i : Nat) : Stb D (RAcc gs D i) := fun h h' x hk => LI.atD x fun o e => hk D o e (.inl rfl)
theorem LI.len {h : Heap} {a : Addr} {ns : List Int} (x : LI h a ns) : ∃ vs, h.IsList a vs.toArray ∧ IntsAre vs ns ∧ vs.length = ns.length := let ⟨vs, hl, hi⟩ := x; ⟨vs, hl, hi, hi.length⟩

section
variable {prog : Program} {w : World} {A : Around} {E : Value → Shared → Prop} {s : Shared} {env : Env} {hb : Heap}

theorem li_append {D : Addr} {ns : List Int} {k : Int} {t : Tok} {Q : Value → Shared → Prop} (hL : LI s.heap D ns) (hlen : ns.length ≤ sizeLine) (h : ∀ h', LI h' D (ns ++ [k]) → Heap.SameBut D s.heap h' → Q .none { s with heap := h' }) :
    wpAny (model prog w) A (call (.builtin "list.append") [.ref D, .int k t]) Q E s := by
  obtain ⟨vs, hl, hi, hvl⟩ := hL.len
  refine wpAny_list_append hl (fun h' hl' hs' => h h' ⟨vs ++ [.int k t], by simpa using hl', hi.append (.cons k t .nil)⟩ hs') (by simp; omega)

/-- ring = [other for node in ring for other in table[node] if other not in levels] -/
theorem ring_use {ring node other table levels : Str} {p1 p2 p3 p4 p5 p6 p7 p8 p9 p10 p11 p12 p13 : Pos} {scope : Scope} {R T D0 : Addr} {us : List Int} {kvs : List (Int × Value)} {gr : Int → List Int} {ps : List (Int × Int)} {Q : Flow → Shared → Prop} (hA : A.handled = none)
    (F : Fm env hb) (Lv : Live env s.heap) (hok : compOk scope = true) (hfree : ∀ x ∈ scope.names, x.2 = .free → (env.cells.lookup x.1).isSome = true)
    (hn : scope.names.lookup node = some .local) (ho : scope.names.lookup other = some .local) (hno : node ≠ other) (hnk : okName node = true) (hok2 : okName other = true)
    (ht : scope.names.lookup table = some .free) (hl : scope.names.lookup levels = some .free) (hto : table ≠ node ∧ table ≠ other) (hlo : levels ≠ node ∧ levels ≠ other) (hy : env.kindOf ring = some .local) (hyo : okName ring = true)
    (hsw : swapsWith (.ListComp (.Name other p2) [⟨.Name node p3, .Name ring p4, [], 0⟩, ⟨.Name other p5, .Subscript (.Name table p6) (.Name node p7) p8, [.Compare (.Name other p9) [.NotIn] [.Name levels p10] p11], 0⟩] scope p12) (some (.Name ring p1)) p13.line env = pure true)
    (Vr : VarAt s.heap env ring (.ref R)) (hR : LI s.heap R us) (Vt : CellAt s.heap env table (.ref T)) (G : GraphAt prog w s.heap T kvs gr) (hTs : (T == sysModules) = false) (Vl : CellAt s.heap env levels (.ref D0)) (hD : DictP prog w s.heap D0 ps) (hDs : (D0 == sysModules) = false)
    (hTl : T ≠ env.locals) (hDl : D0 ≠ env.locals)
    (hus : ∀ u ∈ us, u ∈ kvs.map (·.1)) (hrl : ∀ u ∈ us, (gr u).length ≤ 100) (hul : us.length ≤ 100000)
    (h : ∀ R' s', Stp env [ring] s s' → VarAt s'.heap env ring (.ref R') → LI s'.heap R' (ringNext gr (ps.map (·.1)) us) → s.heap.get? R' = none → Q .next s') :
    wpAny (model prog w) A (exec (.Assign [.Name ring p1] (.ListComp (.Name other p2) [⟨.Name node p3, .Name ring p4, [], 0⟩, ⟨.Name other p5, .Subscript (.Name table p6) (.Name node p7) p8, [.Compare (.Name other p9) [.NotIn] [.Name levels p10] p11], 0⟩] scope p12) p13) env) Q E s := by
  rw [exec_Assign_Name_used _ _ _ _ hsw]
  refine wpAny_bind (wpAny_standAt (wpAny_bind ?_))
  rw [arm_evalThenUse_ListComp]
  have shape : CompShape (.ListComp (.Name other p2) [⟨.Name node p3, .Name ring p4, [], 0⟩, ⟨.Name other p5, .Subscript (.Name table p6) (.Name node p7) p8, [.Compare (.Name other p9) [.NotIn] [.Name levels p10] p11], 0⟩] scope p12) node p3 (Expr.Name ring p4).pos [] (innerM (.ListComp (.Name other p2) [⟨.Name node p3, .Name ring p4, [], 0⟩, ⟨.Name other p5, .Subscript (.Name table p6) (.Name node p7) p8, [.Compare (.Name other p9) [.NotIn] [.Name levels p10] p11], 0⟩] scope p12) (.Subscript (.Name table p6) (.Name node p7) p8)) prog w A :=
    ⟨fun _ _ _ => shape2c, fun _ _ _ => rfl, fun _ _ _ => rfl, fun _ _ _ => rfl, fun _ _ _ => rfl, fun _ _ _ => rfl, fun _ _ => rfl⟩
  have shape2 : InnerShape (.ListComp (.Name other p2) [⟨.Name node p3, .Name ring p4, [], 0⟩, ⟨.Name other p5, .Subscript (.Name table p6) (.Name node p7) p8, [.Compare (.Name other p9) [.NotIn] [.Name levels p10] p11], 0⟩] scope p12) other p5 (Expr.Subscript (.Name table p6) (.Name node p7) p8).pos [.Compare (.Name other p9) [.NotIn] [.Name levels p10] p11] (lbody (.Name other p2)) prog w A :=
    ⟨fun _ _ _ => rfl, fun _ _ _ => rfl, fun _ _ _ => rfl, fun _ _ _ => rfl, fun _ _ _ => rfl, fun _ _ _ => rfl, fun _ _ => rfl⟩
  obtain ⟨vs, hlR, hiR, hvl⟩ := hR.len
  have hDld := hD
  obtain ⟨lkvs, hDd, hDp⟩ := hD
  have hkeys : lkvs.map (·.1) = ps.map (·.1) := by
    clear hDld hDd Vl h
    induction hDp with
    | nil => rfl
    | cons x _ ih => simp [x.1, ih]
  let gs : Nat → List Int := fun i => (gr (us.getD i 0)).filter (notIn (ps.map (·.1)))
  have hgs : (List.range us.length).flatMap gs = ringNext gr (ps.map (·.1)) us := by
    unfold ringNext
    have : us = (List.range us.length).map fun i => us.getD i 0 := by
      apply List.ext_getElem (by simp)
      intro i h1 h2
      simp [h1]
    conv => rhs; rw [this]
    rw [List.flatMap_map]
  refine wpAny_bind (wpAny_mono (comp_use (y := ring) (py := p1) (Q := fun s' => Q .next s') rfl rfl (by intro _; rfl) shape F Lv hok hfree (.inl hn) hnk hy hyo (RAcc gs) RAcc.stb (fun s₂ Q' E' x2 hq => ?_) ?_) (fun _ s' q => wpAny_pure (wpAny_pure q)) fun _ _ x => x)
  · refine wpAny_newObj_type (hq _ _ _ (Nat.le_refl _) (Heap.get?_push_size _ rfl) ?_ (Mv.push s₂ _ s₂.toks) ⟨[], ⟨_, Heap.get?_push_size _ rfl, rfl, _, rfl⟩, .nil⟩)
    show s₂.heap.objs.size ≤ (s₂.heap.push _).objs.size
    rw [Heap.size_push]; exact Nat.le_succ _
  · refine ev_name F.kind Vr ?_
    refine it_list hA hlR fun I s₂ fp wr St S => ?_
    refine ⟨I, fp, wr, _, _, St, rfl, ⟨S.walks, S.st, S.fpOld, S.wrNew, fun i h hs b hb o ho ⟨xs, k, hd⟩ => ?_, S.ex, fun cenv D i v s₃ E' CE hi hP hL hV hk hAcc hO hDn => ?_, fun D s' hDn hAcc ⟨st, hv⟩ => ?_⟩⟩
    · obtain ⟨fs, hf⟩ := S.cls i h hs b hb o ho
      rw [hf] at hd; cases hd
    · -- a turn
      have hi' : i < us.length := by have : i < vs.toArray.size := hi; simp at this; omega
      obtain ⟨t, hvt⟩ := ints_get hiR i (us.getD i 0) (by simp [hi'])
      have hvv : v = .int (us.getD i 0) t := by
        have : vs.toArray[i]? = some v := hP
        rw [List.getElem?_toArray, hvt] at this; exact (Option.some.inj this).symm
      subst hvv
      have hmem : us.getD i 0 ∈ us := by simp [hi']
      refine t_none ?_
      simp only [if_true]
      have Vt3 : VarAt s₃.heap cenv table (.ref T) := CE.var ht (Vt.keeps hk)
      have Vl3 : VarAt s₃.heap cenv levels (.ref D0) := CE.var hl (Vl.keeps hk)
      have G3 : GraphAt prog w s₃.heap T kvs gr := G.keeps fun b o e _ => hk b o e
      obtain ⟨x, hx1, hx2⟩ := valueAt_mem (hus _ hmem)
      obtain ⟨La, hLa, hLi⟩ := G3.rows _ hx2
      simp only at hLa hLi
      subst hLa
      refine inner_use rfl rfl shape2 CE.F (.inl (CE.kin other _ (by decide) ho)) hok2 ?_
      refine sub_dict (ev_name CE.F.kind Vt3 (ev_name CE.F.kind hV ⟨T, kvs, us.getD i 0, t, .ref La, rfl, rfl, G3.dict, hx1, ?_⟩))
      obtain ⟨as, hla, hia, hal⟩ := hLi.len
      have hLaS : ∃ o, s.heap.get? La = some o := by
        obtain ⟨La', e, vs', ⟨o, ho, _⟩, _⟩ := G.rows _ hx2
        cases e; exact ⟨o, ho⟩
      have hDLa : D ≠ La := fun q => by obtain ⟨o, e⟩ := hLaS; rw [← q, hDn] at e; cases e
      have hDex : ∃ o, s₃.heap.get? D = some o := by obtain ⟨vs', ⟨o, ho, _⟩, _⟩ := hAcc; exact ⟨o, ho⟩
      have noc : ∀ b, (∃ o, s.heap.get? b = some o) → cenv.cells.lookup other ≠ some b := fun b ⟨o, e⟩ q => by
        rw [CE.fresh other b q (by rw [ho]; decide)] at e; cases e
      have oldOf : ∀ {s' : Shared}, ExC D env cenv s₃ s' → ∀ b o, s.heap.get? b = some o → s'.heap.get? b = some o := fun x b o e => x.kp b o (fun q => by rw [q, hDn] at e; cases e) (fun q => by rw [q, CE.newL] at e; cases e)
        (fun n q => (CE.own n b q).resolve_left fun q2 => by rw [q2] at e; cases e) (hk b o e)
      refine it_list2 (s := { s₃ with toks := s₃.toks + 1 }) hA hla fun I2 s₂' fp2 St2 W2 hst2 hfp2 hI2 m2 hI2e => ?_
      have hDI2 : D ≠ I2 := fun q => by obtain ⟨o, e⟩ := hDex; rw [q] at e; rw [show s₃.heap.get? I2 = none from hI2] at e; cases e
      have hI2s : s.heap.get? I2 = none := by
        cases e : s.heap.get? I2 with
        | none => rfl
        | some o => have := hk _ _ e; rw [show s₃.heap.get? I2 = none from hI2] at this; cases this
      have x2 : ExC D env cenv s₃ s₂' := ⟨fun b o _ _ _ e => m2.all _ _ e, fun g => by rw [m2.gens]; exact g, m2.os, fun L => L.keeps m2.all⟩
      refine ⟨I2, fp2, [I2], _, _, St2, fun k s' => LI s'.heap D ((List.range i).flatMap gs ++ ((gr (us.getD i 0)).take k).filter (notIn (ps.map (·.1)))) ∧ Live cenv s'.heap ∧ ExC D env cenv s₃ s', rfl, W2, hst2, fun b hb => ?_,
        ⟨by simpa using LI.atD hAcc fun o e => m2.all _ _ e, hL.keeps m2.all, x2⟩, fun k s' hj => hj.2.1, fun k v sA sB sC E'' hk' hj hP' mB LB stC => ?_, fun sA sB hj mB => ?_⟩
      · rcases hfp2 b hb with rfl | rfl
        · exact hL.out hI2
        · obtain ⟨o, e, q⟩ := IsList.seq hla; exact hL.seqOut e q
      · obtain ⟨hLI, hLv, hx⟩ := hj
        have hk'' : k < (gr (us.getD i 0)).length := by have : k < as.toArray.size := hk'; simp at this; omega
        obtain ⟨t', hvt'⟩ := ints_get hia k ((gr (us.getD i 0))[k]) (List.getElem?_eq_getElem hk'')
        have hvv : v = .int ((gr (us.getD i 0))[k]) t' := by
          have : as.toArray[k]? = some v := hP'
          rw [List.getElem?_toArray, hvt'] at this; exact (Option.some.inj this).symm
        subst hvv
        generalize hxe : (gr (us.getD i 0))[k] = xv at *
        have htk : (gr (us.getD i 0)).take (k + 1) = (gr (us.getD i 0)).take k ++ [xv] := by rw [List.take_succ_eq_append_getElem hk'', hxe]
        have hLIB : LI sB.heap D _ := LI.atD hLI fun o e => mB.kp _ _ (by simpa using hDI2) e
        have hLIC : LI sC.heap D _ := LI.atD hLIB fun o e => stC.fs.kp _ _ hO (fun q => nomatch q) e
        have hxB : ExC D env cenv s₃ sC := by
          refine ⟨fun b o h1 h2 h3 e => ?_, fun g => by rw [stC.gens, mB.gens]; exact hx.gens g, stC.fs.os.trans (mB.os.trans hx.os), fun _ => stC.live⟩
          have hbI : b ≠ I2 := fun q => by rw [q] at e; rw [show s₃.heap.get? I2 = none from hI2] at e; cases e
          refine stC.own b o h2 (fun q => ?_) (mB.kp _ _ (by simpa using hbI) (hx.kp b o h1 h2 h3 e))
          obtain ⟨v', o', e', _⟩ := Lv.cell other b (h3 other q)
          exact noc b ⟨o', e'⟩ q
        have oldC := oldOf hxB
        have VlC : VarAt sC.heap cenv levels (.ref D0) := CE.var hl (Vl.keeps oldC)
        have hDC : DictI prog w sC.heap D0 lkvs := hDd.at fun o e => oldC _ _ e
        refine t_one (wpAny_isTrue_Compare1 (ev_name CE.F.kind stC.var (ev_name CE.F.kind VlC (wpAny_notIn_of (intKind_is _ _ _ _) hDs hDC.mapOf (wpAny_truthy_bool ?_)))))
        rw [valueAt_isSome, hkeys]
        show (if notIn (ps.map (·.1)) xv = true then _ else _)
        have fpk : ∀ {h' : Heap}, Heap.SameBut D sC.heap h' → ∀ b ∈ fp2, ∀ o, sC.heap.get? b = some o → h'.get? b = some o := fun hs b hb o e => hs.extBut b o (by rcases hfp2 b hb with rfl | rfl; exact fun q => hDI2 q.symm; exact fun q => hDLa q.symm) e
        by_cases hq : notIn (ps.map (·.1)) xv = true
        · rw [if_pos hq]
          unfold lbody
          refine wpAny_bind (ev_name CE.F.kind (s := { sC with toks := sC.toks + 1 }) stC.var ?_)
          refine wpAny_bind (li_append (s := { sC with toks := sC.toks + 1 }) hLIC ?_ fun h' hl' hs' => wpAny_pure ⟨⟨?_, stC.live.butOut hO hs'.extBut, ?_⟩, fpk hs'⟩)
          · have h1 : ∀ m, m ≤ us.length → ((List.range m).flatMap gs).length ≤ 100 * m := fun m hm => by
              induction m with
              | zero => simp
              | succ m ih =>
                rw [List.range_succ, List.flatMap_append, List.length_append]
                have h2 := ih (by omega)
                have h3 : ([m].flatMap gs).length ≤ 100 := by
                  have : [m].flatMap gs = gs m := by simp
                  rw [this]
                  exact Nat.le_trans (List.length_filter_le _ _) (hrl _ (by simp [show m < us.length by omega]))
                omega
            have h2 := h1 i (by omega)
            have h3 : (((gr (us.getD i 0)).take k).filter (notIn (ps.map (·.1)))).length ≤ 100 := Nat.le_trans (List.length_filter_le _ _) (by rw [List.length_take]; have := hrl _ hmem; omega)
            rw [List.length_append, sizeLine_eq]; omega
          · rw [htk, List.filter_append]
            have : [xv].filter (notIn (ps.map (·.1))) = [xv] := by simp [hq]
            rw [this, ← List.append_assoc]; exact hl'
          · exact ⟨fun b o h1 h2 h3 e => hs'.extBut b o h1 (hxB.kp b o h1 h2 h3 e), hxB.gens, hxB.os, fun _ => stC.live.butOut hO hs'.extBut⟩
        · rw [if_neg hq]
          refine ⟨⟨?_, stC.live, ⟨hxB.kp, hxB.gens, hxB.os, fun _ => stC.live⟩⟩, fun b _ o e => e⟩
          rw [htk, List.filter_append]
          have : [xv].filter (notIn (ps.map (·.1))) = [] := by simp [hq]
          rw [this, List.append_nil]; exact hLIC
      · obtain ⟨hLI, hLv, hx⟩ := hj
        refine ⟨?_, ⟨fun b o h1 h2 h3 e => mB.kp _ _ (fun q => ?_) (hx.kp b o h1 h2 h3 e), fun g => by rw [mB.gens]; exact hx.gens g, mB.os.trans hx.os, fun L => ?_⟩⟩
        · unfold RAcc
          rw [List.range_succ, List.flatMap_append]
          have hz : as.toArray.size = (gr (us.getD i 0)).length := by simp [hal]
          rw [hz, List.take_length] at hLI
          have e : [i].flatMap gs = (gr (us.getD i 0)).filter (notIn (ps.map (·.1))) := by simp [gs]
          rw [e]
          exact LI.atD hLI fun o e => mB.kp _ _ (by simpa using hDI2) e
        · rw [List.mem_singleton.mp q] at e; rw [show s₃.heap.get? I2 = none from hI2] at e; cases e
        · exact hLv.butOut (hL.out hI2) fun b o hb e => mB.kp b o (by simpa using hb) e
    · exact h D s' st hv (by have := hAcc; unfold RAcc at this; rw [← hgs]; simpa [hvl] using this) hDn
end
end Mine
end

section
open PySem PySem.W PyProof.Rows PySem.Calls
set_option maxRecDepth 100000
set_option linter.unusedVariables false
namespace Mine
def ringStep (gr : Int → List Int) (st : List (Int × Int) × List Int) (lv : Int) : List (Int × Int) × List Int :=
  let r := ringNext gr (st.1.map (·.1)) st.2
  (r.foldl (fun L u => lvSet L u lv) st.1, r)
def ringsUp (gr : Int → List Int) (starts : List Int) (b : Nat) : List (Int × Int) × List Int :=
  (List.range b).foldl (fun st (i : Nat) => ringStep gr st (i + 1)) (starts.map (fun x => (x, 0)), starts)
theorem ringsUp_succ {gr : Int → List Int} {starts : List Int} {b : Nat} : ringsUp gr starts (b + 1) = ringStep gr (ringsUp gr starts b) (b + 1) := by
  unfold ringsUp
  rw [List.range_succ, List.foldl_append]; rfl
theorem stored_lvSet {kvs : List (Int × Value)} {ps : List (Int × Int)} (h : Paired (fun (kv : Int × Value) (p : Int × Int) => kv.1 = p.1 ∧ ∃ t, kv.2 = .int p.2 t) kvs ps) (k lv : Int) (t : Tok) :
    Paired (fun (kv : Int × Value) (p : Int × Int) => kv.1 = p.1 ∧ ∃ t, kv.2 = .int p.2 t) (stored kvs k (.int lv t)) (lvSet ps k lv) := by
  have hany : kvs.any (fun kv => kv.1 = k) = ps.any (fun p => p.1 = k) := by
    induction h with
    | nil => rfl
    | cons x _ ih => simp only [List.any_cons, x.1, ih]
  unfold stored lvSet
  rw [hany]
  by_cases hc : ps.any (fun p => p.1 = k) = true
  · rw [if_pos hc, if_pos hc]
    clear hc hany
    induction h with
    | nil => exact .nil
    | @cons kv p _ _ x _ ih =>
      refine .cons ?_ ih
      obtain ⟨e, t', e'⟩ := x
      dsimp only
      by_cases hk : kv.1 = k
      · rw [if_pos hk, if_pos (e ▸ hk)]; exact ⟨e, t, rfl⟩
      · rw [if_neg hk, if_neg (e ▸ hk)]; exact ⟨e, t', e'⟩
  · rw [if_neg hc, if_neg hc]
    exact h.snoc ⟨rfl, t, rfl⟩
theorem ringsUp_mem {gr : Int → List Int} {starts nodes : List Int} (hs : ∀ x ∈ starts, x ∈ nodes) (hc : ∀ u ∈ nodes, ∀ v ∈ gr u, v ∈ nodes) (b : Nat) : ∀ u ∈ (ringsUp gr starts b).2, u ∈ nodes := by
  induction b with
  | zero => exact hs
  | succ b ih =>
    rw [ringsUp_succ]
    intro u hu
    obtain ⟨v, hv, hu⟩ := List.mem_flatMap.mp (show u ∈ ringNext gr _ _ from hu)
    exact hc v (ih v hv) u (List.mem_filter.mp hu).1
end Mine
end

section
open PySem PySem.W PyProof.Rows PySem.Calls
set_option maxRecDepth 100000
set_option linter.unusedVariables false
namespace Mine
theorem cell_some {sc : Scope} {env : Env} {m : Nat} {n : Str} (hc : env.cells = cellsFrom m sc.names []) (h : ((cellsFrom 0 sc.names []).lookup n).isSome = true) : (env.cells.lookup n).isSome = true := by
  rw [hc]; exact cells_lookup_isSome h
theorem nodup_inj {l : List Int} (h : l.Nodup) {i j : Nat} (hi : i < l.length) (hj : j < l.length) (e : l[i] = l[j]) : i = j := by
  have hp := List.pairwise_iff_getElem.mp h
  rcases Nat.lt_trichotomy i j with h1 | h1 | h1
  · exact absurd e (hp i j hi hj h1)
  · exact h1
  · exact absurd e.symm (hp j i hj hi h1)
theorem free_in {names : List (Str × NameKind)} {env : Env} (ns : List Str) (h : names.all (fun x => !(x.2 == .free) || ns.contains x.1) = true) (hn : ∀ n ∈ ns, (env.cells.lookup n).isSome = true) : ∀ x ∈ names, x.2 = .free → (env.cells.lookup x.1).isSome = true := fun x hx hk => by
  have := List.all_eq_true.mp h x hx
  simp only [hk, beq_self_eq_true, Bool.not_true, Bool.false_or, List.contains_iff_mem] at this
  exact hn _ this
theorem free_no {names : List (Str × NameKind)} {env : Env} (h : names.all (fun x => !(x.2 == .free)) = true) : ∀ x ∈ names, x.2 = .free → (env.cells.lookup x.1).isSome = true := fun x hx hk => by
  have := List.all_eq_true.mp h x hx
  simp [hk] at this
section
variable {prog : Program} {w : World} {A : Around} {E : Value → Shared → Prop} {s : Shared} {mg mb : Str → Option Value}

/-- what stands between the statements of _law_rings -/
structure RJ (prog : Program) (w : World) (env : Env) (T D0 : Addr) (s₀ s : Shared) (L : List (Int × Int)) (us : List Int) : Prop where
  live : Live env s.heap
  ex : Ex s₀ s
  vt : VarAt s.heap env (nm "table") (.ref T)
  vl : VarAt s.heap env (nm "levels") (.ref D0)
  ring : ∃ R, VarAt s.heap env (nm "ring") (.ref R) ∧ LI s.heap R us
  dict : DictP prog w s.heap D0 L
theorem DictP.obj {h : Heap} {d : Addr} {ps : List (Int × Int)} (x : DictP prog w h d ps) : ∃ o es ep, h.get? d = some o ∧ o.data = .dict es ep := by
  obtain ⟨kvs, ⟨o, es, ep, ho, _, hd, _⟩, _⟩ := x
  exact ⟨o, es, ep, ho, hd⟩
theorem RJ.mvI {env : Env} {T D0 I : Addr} {s₀ s s' : Shared} {L : List (Int × Int)} {us : List Int} (x : RJ prog w env T D0 s₀ s L us) (hIo : Out env I) (hI0 : s₀.heap.get? I = none) (hIf : ∃ o fs, s.heap.get? I = some o ∧ o.data = .fields fs) (m : Mv [I] s s') : RJ prog w env T D0 s₀ s' L us := by
  obtain ⟨oI, fs, hoI, hdI⟩ := hIf
  have k : ∀ b o, b ≠ I → s.heap.get? b = some o → s'.heap.get? b = some o := fun b o hb e => m.kp b o (by simpa using hb) e
  have seq : ∀ b o, s.heap.get? b = some o → IsSeq o → s'.heap.get? b = some o := fun b o e ⟨xs, n, hd⟩ => k b o (fun q => by rw [q, hoI] at e; cases e; rw [hdI] at hd; cases hd) e
  refine ⟨x.live.butOut hIo k, ⟨fun b o e => k b o (fun q => by rw [q, hI0] at e; cases e) (x.ex.kp _ _ e), fun g => by rw [m.gens]; exact x.ex.gens g, m.os.trans x.ex.os⟩, x.vt.butOut hIo k, x.vl.butOut hIo k, let ⟨R, vr, hR⟩ := x.ring; ⟨R, vr.butOut hIo k, hR.keeps seq⟩, x.dict.at fun o e => k _ _ (fun q => ?_) e⟩
  obtain ⟨o', es, ep, ho', hd'⟩ := x.dict.obj
  rw [q, hoI] at ho'; cases ho'; rw [hdI] at hd'; cases hd'
theorem RJ.stp {env : Env} {hb : Heap} {T D0 : Addr} {s₀ s s' : Shared} {L : List (Int × Int)} {us : List Int} {N : List Str} (x : RJ prog w env T D0 s₀ s L us) (F : Fm env hb) (hb0 : ∀ b o, s₀.heap.get? b = some o → hb.get? b = some o) (hD : Out env D0) (st : Stp env N s s') (h1 : nm "table" ∉ N) (h2 : nm "levels" ∉ N) (h3 : nm "ring" ∉ N) : RJ prog w env T D0 s₀ s' L us :=
  ⟨st.live, ⟨fun b o e => st.old (F.out (hb0 _ _ e)) (x.ex.kp _ _ e), fun g => st.fs.gens (x.ex.gens g), st.fs.os.trans x.ex.os⟩, st.vars _ _ h1 x.vt, st.vars _ _ h2 x.vl, let ⟨R, vr, hR⟩ := x.ring; ⟨R, st.vars _ _ h3 vr, hR.keeps (st.seq x.live)⟩, x.dict.at fun o e => st.old hD e⟩
theorem RJ.keeps {env : Env} {T D0 : Addr} {s₀ s s' : Shared} {L : List (Int × Int)} {us : List Int} (x : RJ prog w env T D0 s₀ s L us) (y : Ex s s') : RJ prog w env T D0 s₀ s' L us :=
  ⟨x.live.keeps y.kp, x.ex.trans y, x.vt.keeps y.kp, x.vl.keeps y.kp, let ⟨R, vr, hR⟩ := x.ring; ⟨R, vr.keeps y.kp, hR.keeps y.seq⟩, x.dict.at fun o e => y.kp _ _ e⟩
theorem lvSet_len (L : List (Int × Int)) (u lv : Int) : (lvSet L u lv).length ≤ L.length + 1 := by
  unfold lvSet; split <;> simp
theorem lvFold_len (r : List Int) (L : List (Int × Int)) (lv : Int) : (r.foldl (fun L u => lvSet L u lv) L).length ≤ L.length + r.length := by
  induction r generalizing L with
  | nil => simp
  | cons u r ih => rw [List.foldl_cons]; have := ih (lvSet L u lv); have := lvSet_len L u lv; simp only [List.length_cons]; omega
/-- _law_rings(table, starts, bound) -/
theorem rings_call {a T S : Addr} {kvs : List (Int × Value)} {gr : Int → List Int} {starts : List Int} {bound : Nat} {tc : Tok} {k : Nat} {Q : Value → Shared → Prop} (hr : Rm A (k + 1)) (X : AtF s.heap mg 5 a) (D : Wd mg mb s.heap)
    (G : GraphAt prog w s.heap T kvs gr) (ok : GraphOk kvs gr) (hTs : (T == sysModules) = false) (hf : LI s.heap S starts) (hfn : starts.Nodup) (hfs : ∀ x ∈ starts, x ∈ kvs.map (·.1)) (hb : bound ≤ 100)
    (hlen : ∀ b ≤ bound, (ringsUp gr starts b).2.length ≤ 100000 ∧ (ringsUp gr starts b).1.length ≤ 1000)
    (h : ∀ D s', Ex s s' → DictP prog w s'.heap D (ringsUp gr starts bound).1 → (D == sysModules) = false → s.heap.get? D = none → Q (.ref D) s') :
    wpAny (model prog w) A (call (.ref a) [.ref T, .ref S, .int bound tc]) Q E s := by
  refine call_at (binds := [(nm "table", .ref T), (nm "starts", .ref S), (nm "bound", .int bound tc)]) hr.room X D (fun pm code doc => by rfl) [nm "table", nm "starts", nm "bound"] rfl (by decide +kernel) (by decide) fun env s₁ E' hs hc F L M V => ?_
  have V1 : VarAt s₁.heap env (nm "table") (.ref T) := V _ List.mem_cons_self
  have V2 : VarAt s₁.heap env (nm "starts") (.ref S) := V _ (List.mem_cons_of_mem _ List.mem_cons_self)
  have V3 : VarAt s₁.heap env (nm "bound") (.int bound tc) := V _ (List.mem_cons_of_mem _ (List.mem_cons_of_mem _ List.mem_cons_self))
  have D1 := D.keeps M.all
  have KI : Kin env (dr 5).scope := Kin.of hs
  have hlc : (env.cells.lookup (nm "levels")).isSome = true := cell_some hc (by decide +kernel)
  have htc : (env.cells.lookup (nm "table")).isSome = true := cell_some hc (by decide +kernel)
  have klv : env.kindOf (nm "levels") = some .cell := KI _ _ (by decide) (by decide +kernel)
  have krg : env.kindOf (nm "ring") = some .local := KI _ _ (by decide) (by decide +kernel)
  have hA : (A.deeper env).handled = none := hr.hh
  have hf1 := hf.keeps (h' := s₁.heap) fun b o e _ => M.all _ _ e
  obtain ⟨vs, hlS, hiS, hvl⟩ := hf1.len
  have hsl : starts.length ≤ 100 := Nat.le_trans (nodup_len hfn hfs) (by have := ok.len; simp; omega)
  refine wpAny_execs_cons ?_
  refine PyProof.Rows.Assign_Tuple ?_ (by rfl) ?_
  · refine wpAny_Tuple_spliced ?_
    refine arg_cons ?_
    refine dc_eval (fun _ => true) (fun i => starts.getD i 0) (fun _ y _ => ∃ t, y = .int 0 t) (fun _ _ _ _ x _ => x) F L D1 (by decide +kernel) (free_no (by decide +kernel)) (.inl (by decide +kernel)) (by decide +kernel) ?_
    refine ev_name F.kind V2 ?_
    refine it_list hA hlS fun I s₂ fp wr St S₂ => ?_
    refine ⟨I, fp, wr, _, _, St, rfl, ?_, S₂, ?_, ?_, ?_⟩
    · show vs.toArray.size ≤ _
      simp [sizeLine_eq]; omega
    · intro i j hi hj _ _ e
      have hi' : i < starts.length := by have : i < vs.toArray.size := hi; simp at this; omega
      have hj' : j < starts.length := by have : j < vs.toArray.size := hj; simp at this; omega
      simp only [List.getD_eq_getElem?_getD, List.getElem?_eq_getElem hi', List.getElem?_eq_getElem hj', Option.getD_some] at e
      exact nodup_inj hfn hi' hj' e
    · intro cenv i v s₃ E'' CE hi hP hL hV hk
      have hi' : i < starts.length := by have : i < vs.toArray.size := hi; simp at this; omega
      obtain ⟨t, hvt⟩ := ints_get hiS i (starts.getD i 0) (by simp [hi'])
      have hvv : v = .int (starts.getD i 0) t := by
        have : vs.toArray[i]? = some v := hP
        rw [List.getElem?_toArray, hvt] at this; exact (Option.some.inj this).symm
      subst hvv
      refine t_none ⟨rfl, Ex.refl _, fun _ => ?_⟩
      refine ev_name CE.F.kind hV ⟨⟨t, rfl⟩, ?_⟩
      exact wpAny_Constant_int ⟨⟨_, rfl⟩, Ex.toks _ _⟩
    · intro D0 kv0 s₃ hDn hDs hDd hDp x3
      have hD3 : DictP prog w s₃.heap D0 (ringsUp gr starts 0).1 := by
        refine ⟨kv0, hDd, ?_⟩
        have hz : vs.toArray.size = starts.length := by simp [hvl]
        rw [hz, List.filter_eq_self.mpr (fun _ _ => rfl)] at hDp
        show Paired _ kv0 (starts.map fun x => (x, 0))
        have e : starts.map (fun x => (x, (0 : Int))) = (List.range starts.length).map fun i => (starts.getD i 0, (0 : Int)) := by
          apply List.ext_getElem (by simp)
          intro i h1 h2
          simp at h1
          simp [h1]
        rw [e]
        refine Paired.of_get ?_ fun i kv p e1 e2 => ?_
        · rw [List.length_map]; exact hDp.length.symm
        · obtain ⟨j, e3, e4, t, e5⟩ := Paired.get hDp i kv e1
          rw [List.getElem?_map, e3] at e2
          cases e2
          exact ⟨e4, t, e5⟩
      have L3 := L.keeps x3.kp
      refine arg1 ?_
      refine ev_cT F (D1.keeps x3.kp) KI (kB_of (by decide +kernel) kv_list : kB (dr 5).scope "list" (.type "list") = true) (arg1 (ev_name F.kind (V2.keeps x3.kp) ?_))
      refine ls_list (hlS.at fun o e => x3.kp _ _ e) (by simp [sizeLine_eq]; omega) fun R s₄ m4 hRn hR4 => ?_
      refine ⟨by simp [sizeLine_eq], ?_⟩
      generalize ht5 : s₄.heap.objs.size = Tp
      generalize hs5 : ({ s₄ with heap := s₄.heap.push { cls := .type "tuple", data := .seq [Value.ref D0, Value.ref R].toArray } } : Shared) = s₅
      have m5 : Mv [] s₄ s₅ := by rw [← hs5]; exact Mv.push s₄ _ s₄.toks
      have hT5 : s₅.heap.IsTuple Tp #[.ref D0, .ref R] := by rw [← hs5, ← ht5]; exact ⟨_, Heap.get?_push_size _ rfl, rfl, 0, rfl⟩
      refine wpAny_assign_Tuple hA hT5 rfl rfl fun h6 hx6 => ?_
      show wpAny _ _ (do holding [Value.ref R] (assign (.Name (nm "levels") _) env (.ref D0)); holding [] (assign (.Name (nm "ring") _) env (.ref R)); pure ()) _ _ _
      have x6 : Ex s₅ { s₅ with heap := h6 } := ⟨fun b o e => hx6 b o (Nat.ne_of_lt (Heap.lt_size e)) e, id, rfl⟩
      have x36 : Ex s₃ { s₅ with heap := h6 } := m4.ex.trans (m5.ex.trans x6)
      have x16 : Ex s₁ { s₅ with heap := h6 } := x3.trans x36
      have L6 : Live env h6 := L.keeps x16.kp
      refine wpAny_bind (wpAny_holding (wpAny_assign_Name (st_name (s := { s₅ with heap := h6 }) F L6 (.inr ⟨klv, hlc⟩) (by decide) fun s₇ st7 => ?_)))
      refine wpAny_bind (wpAny_holding (wpAny_assign_Name (st_name F st7.live (.inl krg) (by decide) fun s₈ st8 => wpAny_pure ?_)))
      have hD0o : Out env D0 := L.out hDn
      have x8 : Ex s s₈ := ⟨fun b o e => st8.fs.kp b o (F.out e) (fun q => nomatch q) (st7.fs.kp b o (F.out e) (fun q => nomatch q) (x16.kp _ _ (M.all _ _ e))), fun g => st8.fs.gens (st7.fs.gens (x16.gens (M.ex.gens g))), st8.fs.os.trans (st7.fs.os.trans (x16.os.trans M.os))⟩
      have hD0s : s.heap.get? D0 = none := M.ex.none hDn
      have J0 : RJ prog w env T D0 s s₈ (ringsUp gr starts 0).1 (ringsUp gr starts 0).2 := by
        refine ⟨st8.live, x8, st8.vars _ _ (by decide) (st7.vars _ _ (by decide) (V1.keeps x16.kp)), st8.vars _ _ (by decide) st7.var, ⟨R, st8.var, ?_⟩, ?_⟩
        · have h1 : LI s₄.heap R starts := ⟨vs, hR4, hiS⟩
          exact ((h1.keeps (h' := h6) fun b o e _ => x6.kp _ _ (m5.all _ _ e)).keeps (st7.stp.seq L6)).keeps (st8.stp.seq st7.live)
        · exact DictP.at (DictP.at hD3 fun o e => x36.kp _ _ e) fun o e => st8.fs.kp _ _ hD0o (fun q => nomatch q) (st7.fs.kp _ _ hD0o (fun q => nomatch q) e)
      have V38 : VarAt s₈.heap env (nm "bound") (.int bound tc) := st8.vars _ _ (by decide) (st7.vars _ _ (by decide) (V3.keeps x16.kp))
      have D8 := D.keeps x8.kp
      refine wpAny_execs_cons ?_
      refine for_src F (.inl (KI _ _ (by decide) (by decide +kernel))) (by decide) ?_
      refine ev_cT F D8 KI (kB_of (by decide +kernel) kv_range : kB (dr 5).scope "range" (.type "range") = true) (arg_cons (wpAny_Constant_int (arg1 ?_)))
      refine wpAny_BinOp (ev_name F.kind V38 (wpAny_Constant_int (i_add ?_)))
      refine call_range_2 ?_
      refine it_range2 hA (IsRange.new _ _ _ _ _ _ _) (by decide) (by decide) (by omega) (by omega) fun I s₉ fp St W hst hfp hI m9 hIc => ?_
      have J9 : RJ prog w env T D0 s s₉ (ringsUp gr starts 0).1 (ringsUp gr starts 0).2 := J0.keeps ⟨fun b o e => m9.all b o (Heap.get?_push_of_some _ e), fun g => by rw [m9.gens]; exact g, m9.os⟩
      have hI8 : s₈.heap.get? I = none := by
        cases e : s₈.heap.get? I with
        | none => rfl
        | some o =>
          have h1 := Heap.get?_push_of_some { cls := .type "range", data := .fields #[] } e
          have h2 : ∀ o', (s₈.heap.push o').get? I = some o := fun o' => Heap.get?_push_of_some o' e
          have h3 := hI
          rw [h2] at h3; cases h3
      have hIo : Out env I := J0.live.out hI8
      have hI0 : s.heap.get? I = none := J0.ex.none hI8
      have hID : D0 ≠ I := fun q => by
        obtain ⟨o, _, _, ho, _⟩ := J0.dict.obj
        rw [q, hI8] at ho; cases ho
      have hn : ((bound : Int) + 1 - 1).toNat = bound := by omega
      refine ⟨I, fp, [I], _, _, St, fun i s' => RJ prog w env T D0 s s' (ringsUp gr starts i).1 (ringsUp gr starts i).2, rfl, W, hst, fun b hb => by rw [hfp b hb]; exact hIo, J9, fun i s' j => j.live, fun i v sA sB sC E'' hi hJ hS hP mB LB stC => ?_, fun sA sB hJ hS mB => ?_⟩
      · -- a level
        have hib : i < bound := by omega
        obtain ⟨tv, rfl⟩ := hP
        have JB := hJ.mvI hIo hI0 (hIc i _ hS) mB
        have hb0 : ∀ b o, s.heap.get? b = some o → s.heap.get? b = some o := fun _ _ e => e
        have JC := JB.stp F hb0 hD0o stC.stp (by decide) (by decide) (by decide)
        obtain ⟨R1, vr, hR⟩ := JC.ring
        have GC : GraphAt prog w sC.heap T kvs gr := G.keeps fun b o e _ => JC.ex.kp _ _ e
        have hTo : ∃ o, s.heap.get? T = some o := by obtain ⟨o, _, _, ho, _⟩ := G.dict; exact ⟨o, ho⟩
        have hTl : T ≠ env.locals := by obtain ⟨o, e⟩ := hTo; exact (F.out e).1
        have hmemC := ringsUp_mem (gr := gr) hfs ok.closed i
        refine wpAny_execs_cons ?_
        refine ring_use hA F JC.live (by decide +kernel) (free_in [nm "levels", nm "table"] (by decide +kernel) (fun n hn => by rcases List.mem_cons.mp hn with rfl | hn; exact hlc; rw [List.mem_singleton.mp hn]; exact htc)) (by decide +kernel) (by decide +kernel) (by decide) (by decide) (by decide) (by decide +kernel) (by decide +kernel) (by decide) (by decide) krg (by decide) ?_ vr hR (JC.vt.cellAt (by rw [KI (nm "table") _ (by decide) (by decide +kernel : (dr 5).scope.names.lookup (nm "table") = some .cell)]; decide)) GC hTs (JC.vl.cellAt (by rw [klv]; decide)) JC.dict hDs hTl hD0o.1 hmemC (fun u hu => ?_) (hlen i (by omega)).1 fun R2 sD stD vrD hRD hR2n => ?_
        · have k2 : env.kindOf (Str.ofString "ring") = some .local := krg
          have kb : (env.blockKind == .function) = true := by unfold Env.blockKind; rw [hs]; rfl
          unfold swapsWith
          dsimp only
          rw [kb, k2]
          rfl
        · obtain ⟨kv, hkv, e⟩ := List.mem_map.mp (hmemC u hu)
          rw [← e]; exact ok.rl kv hkv
        · -- the new ring's nodes get their level
          generalize hr' : ringNext gr ((ringsUp gr starts i).1.map (·.1)) (ringsUp gr starts i).2 = r at hRD
          have hr2 : (ringsUp gr starts (i + 1)).2 = r := by rw [ringsUp_succ, ← hr']; rfl
          have hr1 : (ringsUp gr starts (i + 1)).1 = r.foldl (fun L u => lvSet L u ((i : Int) + 1)) (ringsUp gr starts i).1 := by rw [ringsUp_succ, ← hr']; rfl
          have hrlen : r.length ≤ 100000 := by rw [← hr2]; exact (hlen (i + 1) (by omega)).1
          have JD : RJ prog w env T D0 s sD (ringsUp gr starts i).1 r := ⟨stD.live, ⟨fun b o e => stD.old (F.out e) (JC.ex.kp _ _ e), fun g => stD.fs.gens (JC.ex.gens g), stD.fs.os.trans JC.ex.os⟩, stD.vars _ _ (by decide) JC.vt, stD.vars _ _ (by decide) JC.vl, ⟨R2, vrD, hRD⟩, JC.dict.at fun o e => stD.old hD0o e⟩
          have VlvD : VarAt sD.heap env (nm "level") (.int (1 + (i : Int)) tv) := stD.vars _ _ (by decide) stC.var
          have kI : ∀ o, sC.heap.get? I = some o → sD.heap.get? I = some o := fun o e => stD.old hIo e
          obtain ⟨rs, hlr, hir, hrl'⟩ := hRD.len
          refine wpAny_execs_cons ?_
          refine for_src F (.inl (KI _ _ (by decide) (by decide +kernel))) (by decide) ?_
          refine ev_name F.kind vrD ?_
          refine it_list2 hA hlr fun I2 sE fp2 St2 W2 hst2 hfp2 hI2 mE hI2c => ?_
          have hI2o : Out env I2 := stD.live.out hI2
          have hI20 : s.heap.get? I2 = none := JD.ex.none hI2
          have hI2D : D0 ≠ I2 := fun q => by obtain ⟨o, _, _, ho, _⟩ := JD.dict.obj; rw [q, hI2] at ho; cases ho
          have hR2D : D0 ≠ R2 := fun q => by
            obtain ⟨o, _, _, ho, hd⟩ := JD.dict.obj
            obtain ⟨o', ho', _, n, hd'⟩ := hlr
            rw [q, ho'] at ho; cases ho; rw [hd'] at hd; cases hd
          have hII2 : ∀ o, sC.heap.get? I = some o → I ≠ I2 := fun o e q => by have := kI o e; rw [q, hI2] at this; cases this
          refine ⟨I2, fp2, [I2], _, _, St2, fun j s' => RJ prog w env T D0 s s' ((r.take j).foldl (fun L u => lvSet L u ((i : Int) + 1)) (ringsUp gr starts i).1) r ∧ VarAt s'.heap env (nm "level") (.int (1 + (i : Int)) tv) ∧ ∀ o, sC.heap.get? I = some o → s'.heap.get? I = some o, rfl, W2, hst2, fun b hb => ?_,
            ⟨JD.keeps mE.ex, VlvD.keeps mE.all, fun o e => mE.all _ _ (kI o e)⟩, fun j s' x => x.1.live, fun j v sF sG sH E3 hj hJF hSF hPF mG LG stH => ?_, fun sF sG hJF hSF mG => ?_⟩
          · rcases hfp2 b hb with rfl | rfl
            · exact hI2o
            · obtain ⟨o, e, q⟩ := IsList.seq hlr; exact stD.live.seqOut e q
          · obtain ⟨JF, VF, kF⟩ := hJF
            have hjr : j < r.length := by have : j < rs.toArray.size := hj; simp at this; omega
            obtain ⟨t', hvt'⟩ := ints_get hir j r[j] (List.getElem?_eq_getElem hjr)
            have hvv : v = .int r[j] t' := by
              have : rs.toArray[j]? = some v := hPF
              rw [List.getElem?_toArray, hvt'] at this; exact (Option.some.inj this).symm
            subst hvv
            have JG := JF.mvI hI2o hI20 (hI2c j _ hSF) mG
            have VG : VarAt sG.heap env (nm "level") (.int (1 + (i : Int)) tv) := VF.butOut hI2o fun b o hb e => mG.kp b o (by simpa using hb) e
            have JH := JG.stp F hb0 hD0o stH.stp (by decide) (by decide) (by decide)
            have VH := stH.vars _ _ (by decide) VG
            obtain ⟨lkv, hDd, hDp⟩ := id JH.dict
            refine wpAny_execs_cons ?_
            refine wpAny_Assign_Subscript (ev_name F.kind VH (ev_name F.kind JH.vl (ev_name F.kind stH.var ?_)))
            refine wpAny_setItem_pairs (intKind_is _ _ _ _) hDd (fun h' hd' hs' => ?_) ?_
            · refine wpAny_execs_nil ?_
              have hdo := JH.dict.obj
              have seq : ∀ b o, sH.heap.get? b = some o → IsSeq o → h'.get? b = some o := fun b o e ⟨xs, n, hd⟩ => hs'.extBut b o (fun q => by obtain ⟨o', _, _, ho', hdd⟩ := hdo; rw [q, ho'] at e; cases e; rw [hdd] at hd; cases hd) e
              refine ⟨⟨⟨JH.live.butOut hD0o hs'.extBut, ⟨fun b o e => hs'.extBut b o (fun q => by rw [q, hD0s] at e; cases e) (JH.ex.kp _ _ e), JH.ex.gens, JH.ex.os⟩, JH.vt.butOut hD0o hs'.extBut, JH.vl.butOut hD0o hs'.extBut, let ⟨R, vr, hR⟩ := JH.ring; ⟨R, vr.butOut hD0o hs'.extBut, hR.keeps seq⟩, ?_⟩, VH.butOut hD0o hs'.extBut, fun o e => ?_⟩, fun b hb o e => ?_⟩
              · rw [List.take_succ_eq_append_getElem hjr, List.foldl_append]
                have e1 : (1 : Int) + (i : Int) = (i : Int) + 1 := by omega
                refine ⟨_, hd', ?_⟩
                rw [e1]
                exact stored_lvSet hDp _ _ _
              · refine hs'.extBut _ _ hID.symm (stH.fs.kp _ _ hIo (fun q => nomatch q) (mG.kp _ _ (by simpa using hII2 o e) (kF o e)))
              · refine hs'.extBut _ _ ?_ e
                rcases hfp2 b hb with rfl | rfl
                · exact hI2D.symm
                · exact hR2D.symm
            · have h1 := hDp.length
              have h2 := lvFold_len (r.take j) (ringsUp gr starts i).1 ((i : Int) + 1)
              have h3 : (r.take j).length ≤ r.length := by rw [List.length_take]; omega
              have h4 := (hlen i (by omega)).2
              rw [sizeLine_eq]; omega
          · obtain ⟨JF, VF, kF⟩ := hJF
            have hz : rs.toArray.size = r.length := by simp [hrl']
            rw [hz, List.take_length] at JF
            have JG := JF.mvI hI2o hI20 (hI2c _ _ hSF) mG
            refine wpAny_execs_nil ⟨?_, fun b hb o e => ?_⟩
            · show RJ prog w env T D0 s sG (ringsUp gr starts (i + 1)).1 (ringsUp gr starts (i + 1)).2
              rw [hr1, hr2]; exact JG
            · rw [hfp b hb] at e ⊢
              exact mG.kp _ _ (by simpa using hII2 o e) (kF o e)
      · rw [hn] at hJ hS
        have JB := hJ.mvI hIo hI0 (hIc _ _ hS) mB
        refine wpAny_execs_cons ?_
        refine wpAny_Return_some (ev_name F.kind JB.vl ?_)
        refine h D0 sB JB.ex JB.dict ?_ hD0s
        exact hDs
  · have k1 : env.kindOf (Str.ofString "levels") = some .cell := klv
    have k2 : env.kindOf (Str.ofString "ring") = some .local := krg
    unfold swappedStores
    dsimp only
    split
    · rfl
    · simp only [List.filterMap, k1, k2]
      rfl
end
end Mine
end

section
open PySem PySem.W PyProof.Rows PySem.Calls
set_option maxRecDepth 100000
set_option linter.unusedVariables false
namespace Mine
/-- what is handed: a list, a tuple, or a list's iterator at its start -/
def Handed (h : Heap) (v : Value) (ns : List Int) (W : List Addr) : Prop :=
  (∃ L, v = .ref L ∧ LI h L ns ∧ W = []) ∨ (∃ T vs, v = .ref T ∧ h.IsTuple T vs.toArray ∧ IntsAre vs ns ∧ W = []) ∨ (∃ I L vs, v = .ref I ∧ h.IsListIter I L 0 ∧ h.IsList L vs.toArray ∧ IntsAre vs ns ∧ W = [I])
theorem Handed.keeps {h h' : Heap} {v : Value} {ns : List Int} {W : List Addr} (x : Handed h v ns W) (k : ∀ b o, h.get? b = some o → h'.get? b = some o) : Handed h' v ns W := by
  rcases x with ⟨L, e, hl, hw⟩ | ⟨T, vs, e, ht, hi, hw⟩ | ⟨I, L, vs, e, hI, hl, hi, hw⟩
  · exact .inl ⟨L, e, hl.keeps fun b o e _ => k b o e, hw⟩
  · exact .inr (.inl ⟨T, vs, e, ht.at fun o e => k _ _ e, hi, hw⟩)
  · exact .inr (.inr ⟨I, L, vs, e, hI.at fun o e => k _ _ e, hl.at fun o e => k _ _ e, hi, hw⟩)
theorem Handed.ok {h : Heap} {v : Value} {ns : List Int} {W : List Addr} (x : Handed h v ns W) : WOk W h := by
  rcases x with ⟨L, e, hl, rfl⟩ | ⟨T, vs, e, ht, hi, rfl⟩ | ⟨I, L, vs, e, hI, hl, hi, rfl⟩
  · exact fun b hb => nomatch hb
  · exact fun b hb => nomatch hb
  · intro b hb
    rw [List.mem_singleton.mp hb]
    obtain ⟨o, ho, _, hd⟩ := hI
    exact ⟨o, _, ho, hd⟩
section
variable {prog : Program} {w : World} {A : Around} {E : Value → Shared → Prop} {s : Shared}
theorem handed_list {v : Value} {ns : List Int} {W : List Addr} {Q : Value → Shared → Prop} (hh : A.handled = none) (x : Handed s.heap v ns W) (hlen : ns.length ≤ 1000)
    (h : ∀ L s₂, ExW W s s₂ → s.heap.get? L = none → LI s₂.heap L ns → s₂.gens = s.gens → Q (.ref L) s₂) : wpAny (model prog w) A (call (.type "list") [v]) Q E s := by
  rcases x with ⟨L, rfl, ⟨vs, hl, hi⟩, rfl⟩ | ⟨T, vs, rfl, ht, hi, rfl⟩ | ⟨I, L, vs, rfl, hI, hl, hi, rfl⟩
  · exact ls_list hl (by have := hi.length; simp [sizeLine_eq]; omega) fun D s' m hn hD => h D s' m.ex.w hn ⟨vs, hD, hi⟩ m.gens
  · exact ls_tuple ht (by have := hi.length; simp [sizeLine_eq]; omega) fun D s' m hn hD => h D s' m.ex.w hn ⟨vs, hD, hi⟩ m.gens
  · exact ls_iter hh hI hl (Nat.zero_le _) (by have := hi.length; simp [sizeLine_eq]; omega) fun D s' m hn hD => h D s' ⟨m.kp, fun g => by rw [m.gens]; exact g, m.os⟩ hn ⟨vs, by simpa using hD, hi⟩ m.gens

theorem zip_lp {xs ys acc : Array Value} {ns ms : List Int} {wr : List Addr} {h : Heap} {L : Addr} (hx : IntsAre xs.toList ns) (hy : IntsAre ys.toList ms) (hl : h.IsList L acc) (x : ItemsV (ZipP wr xs ys) acc (min xs.size ys.size) h) : LP h L (ns.zip ms) := by
  have hxl : xs.size = ns.length := by have := hx.length; simpa using this
  have hyl : ys.size = ms.length := by have := hy.length; simpa using this
  refine ⟨acc.toList, by simpa using hl, Paired.of_get (by simp [x.1, hxl, hyl]) fun i v p h1 h2 => ?_⟩
  obtain ⟨U, a, b, e1, e2, rfl, ht, _⟩ := x.2 i v (by rw [← Array.getElem?_toList]; exact h1)
  rw [List.getElem?_zip_eq_some] at h2
  obtain ⟨t1, e3⟩ := ints_get hx i p.1 h2.1
  obtain ⟨t2, e4⟩ := ints_get hy i p.2 h2.2
  rw [Array.getElem?_toList, e1] at e3
  rw [Array.getElem?_toList, e2] at e4
  cases e3; cases e4
  exact ⟨U, t1, t2, rfl, ht⟩

/-- list(pairwise(v, ..)) -/
theorem pw_list {a : Addr} {v : Value} {mg mb : Str → Option Value} {kw : List (Str × Value)} {cyc : Bool} {ns : List Int} {k : Nat} {W : List Addr} {Q : Value → Shared → Prop} (hr : Rm A (k + 1)) (X : PwAt s.heap mg a) (D : Wd mg mb s.heap)
    (hkw : (kw = [] ∧ cyc = false) ∨ (kw = [(nm "cyclic", .bool true)] ∧ cyc = true)) (hlen : ns.length ≤ 100) (hv : Handed s.heap v ns W)
    (h : ∀ L s', ExW W s s' → LP s'.heap L (ns.zip (rolled ns cyc)) → Q (.ref L) s') :
    wpAny (model prog w) A (call (.ref a) [v] kw) (fun z s₁ => wpAny (model prog w) A (call (.type "list") [z]) Q E s₁) E s := by
  refine pw_call hr X D hkw hlen W hv.ok (fun A' s₁ E' Q' hA M hq => handed_list hA (hv.keeps M.all) (by omega) fun L s₂ x hn hl hg => hq L s₂ x hn hl) fun z s' TI TO i1 i2 l1 l2 xs ys x hz st hx hy hnew => ?_
  have hxl : xs.size = ns.length := by have := hx.length; simpa using this
  refine ls_zip hr.hh hz st (by rw [sizeLine_eq]; omega) fun L s'' acc m hLn hL hit => ?_
  refine h L s'' ⟨fun b o hb e => m.heap b o (fun hm => ?_) (x.kp b o hb e), fun g => ?_, m.os.trans x.os⟩ (zip_lp hx hy hL hit)
  · rcases hnew b hm with h1 | h1
    · exact hb h1
    · rw [h1] at e; cases e
  · have : s''.gens = s'.gens := m.gens
    rw [this]; exact x.gens g
end
end Mine
end

section
open PySem PySem.W PyProof.Rows PySem.Calls
set_option maxRecDepth 100000
set_option linter.unusedVariables false
namespace Mine
/-- where the law's defs stand -/
structure Ads where
  (a0 a1 a2 a3 a4 a5 ap : Addr)
/-- the law's frame -/
structure Law (mg mb : Str → Option Value) (env : Env) (s₀ : Shared) (as : Ads) : Prop where
  F : Fm env s₀.heap
  scope : env.scope = (dr 6).scope
  cells : ∃ m, env.cells = cellsFrom m (dr 6).scope.names []
  D : Wd mg mb s₀.heap
  f0 : AtF s₀.heap mg 0 as.a0
  f1 : AtF s₀.heap mg 1 as.a1
  f2 : AtF s₀.heap mg 2 as.a2
  f3 : AtF s₀.heap mg 3 as.a3
  f4 : AtF s₀.heap mg 4 as.a4
  f5 : AtF s₀.heap mg 5 as.a5
  pw : PwAt s₀.heap mg as.ap
/-- the frame stands -/
structure LSt (env : Env) (s₀ s : Shared) : Prop where
  live : Live env s.heap
  ex : Ex s₀ s
theorem Law.kin {mg mb : Str → Option Value} {env : Env} {s₀ : Shared} {as : Ads} (x : Law mg mb env s₀ as) : Kin env (dr 6).scope := Kin.of x.scope
theorem Law.cell {mg mb : Str → Option Value} {env : Env} {s₀ : Shared} {as : Ads} (x : Law mg mb env s₀ as) {n : Str} (h : ((cellsFrom 0 (dr 6).scope.names []).lookup n).isSome = true) : (env.cells.lookup n).isSome = true := by
  obtain ⟨m, hc⟩ := x.cells
  exact cell_some hc h
theorem LSt.stp {mg mb : Str → Option Value} {env : Env} {s₀ s s' : Shared} {as : Ads} {N : List Str} (x : LSt env s₀ s) (l : Law mg mb env s₀ as) (st : Stp env N s s') : LSt env s₀ s' :=
  ⟨st.live, ⟨fun b o e => st.old (l.F.out e) (x.ex.kp _ _ e), fun g => st.fs.gens (x.ex.gens g), st.fs.os.trans x.ex.os⟩⟩
theorem LSt.exs {env : Env} {s₀ s s' : Shared} (x : LSt env s₀ s) (y : Ex s s') : LSt env s₀ s' := ⟨x.live.keeps y.kp, x.ex.trans y⟩
theorem LSt.d {mg mb : Str → Option Value} {env : Env} {s₀ s : Shared} {as : Ads} (x : LSt env s₀ s) (l : Law mg mb env s₀ as) : Wd mg mb s.heap := l.D.keeps x.ex.kp
theorem sw_true {scope : Scope} {env : Env} {elt : Expr} {gs : List Comprehension} {pos tp : Pos} {n : Str} {line : Nat} {sc : Scope} (hs : env.scope = sc) (hk : (sc.kind == .function && !(sc.kind.isAnnotationScope)) = true) (hn : sc.names.lookup n = some .local) (hp : (tp.line == pos.line && !(scope.names.any fun (m, k) => m == n && (k == .local || k == .cell))) = true) :
    swapsWith (.ListComp elt gs scope pos) (some (.Name n tp)) line env = pure true := by
  have kb : (env.blockKind == .function) = true := by
    unfold Env.blockKind
    simp only [Bool.and_eq_true, Bool.not_eq_true'] at hk
    rw [hs, if_neg (by rw [hk.2]; exact Bool.false_ne_true)]; exact hk.1
  have k2 : env.kindOf n = some .local := by unfold Env.kindOf; rw [hs]; exact hn
  unfold swapsWith
  dsimp only
  simp only [Bool.and_eq_true] at hp
  rw [kb, k2]
  show pure ((some NameKind.local == some NameKind.local) && (tp.line == pos.line) && !(scope.names.any fun (m, k) => m == n && (k == .local || k == .cell))) = _
  rw [hp.1, hp.2]
  rfl

section
variable {prog : Program} {w : World} {A : Around} {E : Value → Shared → Prop} {s s₀ : Shared} {mg mb : Str → Option Value} {env : Env} {as : Ads}
/-- row = [int(number) for number in script[:12]] -/
theorem st0 {S : Addr} {ns : List Int} {Q : Flow → Shared → Prop} (hr : Rm A 3) (l : Law mg mb env s₀ as) (x : LSt env s₀ s) (V : VarAt s.heap env (nm "script") (.ref S)) (hS : LI s.heap S ns) (hlen : ns.length ≤ 100)
    (h : ∀ R s', Stp env [nm "row"] s s' → VarAt s'.heap env (nm "row") (.ref R) → LI s'.heap R (ns.take 12) → Q .next s') :
    wpAny (model prog w) A (exec ((dr 6).body.getD 0 (.Pass default)) env) Q E s := by
  show wpAny (model prog w) A (exec (.Assign [.Name (nm "row") _] (.ListComp _ [⟨.Name (nm "number") _, _, _, 0⟩] _ _) _) env) Q E s
  obtain ⟨vs, hl, hi, hvl⟩ := hS.len
  refine lc_use (fun _ => true) (fun i y _ => ∃ t, y = .int ((ns.take 12).getD i 0) t) (fun _ _ _ _ x _ => x) l.F x.live (by decide +kernel) (free_no (by decide +kernel)) (.inl (by decide +kernel)) (by decide +kernel) (l.kin _ _ (by decide) (by decide +kernel)) (by decide +kernel) (sw_true l.scope (by decide +kernel) (by decide +kernel) (by decide +kernel)) ?_
  refine ev_upto (ev_name l.F.kind V (wpAny_Constant_int ⟨S, vs.toArray, 12, _, rfl, hl, by simp [sizeLine_eq]; omega, rfl, fun L s₁ m1 hn1 hl1 => ?_⟩))
  have hi12 : IntsAre (vs.take 12) (ns.take 12) := ints_take hi 12
  have hz : (vs.toArray.toList.take 12).toArray.size = (ns.take 12).length := by simp [hvl]
  refine it_list hr.hh hl1 fun I s₂ fp wr St S₂ => ?_
  refine ⟨I, fp, wr, _, _, St, rfl, by rw [hz, sizeLine_eq, List.length_take]; omega, SrcIn.on ((Ex.toks s _).trans m1.ex) S₂, fun cenv i v s₃ E'' CE hi' hP hL hV hk => ?_, fun D ys s' hDn hD hp st hv => ?_⟩
  · rw [hz] at hi'
    obtain ⟨t, hvt⟩ := ints_get hi12 i ((ns.take 12).getD i 0) (by simp [List.getElem?_eq_getElem hi'])
    have hvv : v = .int ((ns.take 12).getD i 0) t := by
      have : (vs.toArray.toList.take 12).toArray[i]? = some v := hP
      rw [List.getElem?_toArray] at this
      rw [show vs.toArray.toList = vs from rfl, hvt] at this; exact (Option.some.inj this).symm
    subst hvv
    refine t_none ⟨rfl, Ex.refl _, fun _ => ?_⟩
    exact ev_cT CE.F ((x.d l).keeps hk) CE.kin (kB_of (by decide +kernel) kv_int : kB _ "int" (.type "int") = true) (arg1 (ev_name CE.F.kind hV (call_int_int ⟨⟨t, rfl⟩, Ex.refl _⟩)))
  · refine h D s' st hv ⟨ys.toList, toList_list hD, ?_⟩
    have h1 := ints_of_paired (f := fun i => (ns.take 12).getD i 0) hp
    rw [hz, List.filter_eq_self.mpr (fun _ _ => rfl)] at h1
    have e : (List.range (ns.take 12).length).map (fun i => (ns.take 12).getD i 0) = ns.take 12 := by
      apply List.ext_getElem (by simp)
      intro i h1 h2
      simp at h1
      simp [h1]
    rw [e] at h1
    exact h1
end
end Mine
end

section
open PySem PySem.W PyProof.Rows PySem.Calls
set_option maxRecDepth 100000
set_option linter.unusedVariables false
namespace Mine
theorem range_map (l : List Int) (f : Int → Int) : (List.range l.length).map (fun i => f (l.getD i 0)) = l.map f := by
  apply List.ext_getElem (by simp)
  intro i h1 h2
  simp at h1
  simp [h1]
theorem item_at {vs : List Value} {ns : List Int} (hi : IntsAre vs ns) {i : Nat} {v : Value} (h : vs.toArray[i]? = some v) : i < ns.length ∧ ∃ t, v = .int (ns.getD i 0) t := by
  rw [List.getElem?_toArray] at h
  have h1 : i < vs.length := (List.getElem?_eq_some_iff.mp h).1
  have h2 : i < ns.length := by have := hi.length; omega
  obtain ⟨t, ht⟩ := ints_get hi i (ns.getD i 0) (by simp [h2])
  rw [h] at ht
  exact ⟨h2, t, Option.some.inj ht⟩
section
variable {prog : Program} {w : World} {A : Around} {E : Value → Shared → Prop} {s s₀ : Shared} {mg mb : Str → Option Value} {env : Env} {as : Ads}
/-- small = [number % 4 for number in row] -/
theorem st1 {R : Addr} {ns : List Int} {Q : Flow → Shared → Prop} (hr : Rm A 3) (l : Law mg mb env s₀ as) (x : LSt env s₀ s) (V : VarAt s.heap env (nm "row") (.ref R)) (hR : LI s.heap R ns) (hlen : ns.length ≤ 100)
    (h : ∀ D s', Stp env [nm "small"] s s' → VarAt s'.heap env (nm "small") (.ref D) → LI s'.heap D (ns.map fun k => k.fmod 4) → Q .next s') :
    wpAny (model prog w) A (exec ((dr 6).body.getD 1 (.Pass default)) env) Q E s := by
  show wpAny (model prog w) A (exec (.Assign [.Name (nm "small") _] (.ListComp _ [⟨.Name (nm "number") _, _, _, 0⟩] _ _) _) env) Q E s
  obtain ⟨vs, hl, hi, hvl⟩ := hR.len
  have k1 : env.kindOf (nm "small") = some .cell := l.kin _ _ (by decide) (by decide +kernel)
  refine as_c l.F l.kin (by decide +kernel) (by decide) (l.cell (by decide +kernel)) ?_ (by unfold swapsWith; dsimp only; rw [k1]; cases (env.blockKind == .function) <;> rfl)
  refine lc_eval (fun _ => true) (fun i y _ => ∃ t, y = .int ((ns.getD i 0).fmod 4) t) (fun _ _ _ _ x _ => x) l.F x.live (by decide +kernel) (free_no (by decide +kernel)) (.inl (by decide +kernel)) (by decide +kernel) ?_
  refine ev_name l.F.kind V ?_
  refine it_list hr.hh hl fun I s₂ fp wr St S₂ => ?_
  have hz : vs.toArray.size = ns.length := by simp [hvl]
  refine ⟨I, fp, wr, _, _, St, rfl, by rw [hz, sizeLine_eq]; omega, S₂, fun cenv i v s₃ E'' CE hi' hP hL hV hk => ?_, fun D ys s' hDn hD hp x' => ⟨x.live.keeps x'.kp, fun s'' st => ?_⟩⟩
  · obtain ⟨h2, t, rfl⟩ := item_at hi hP
    refine t_none ⟨rfl, Ex.refl _, fun _ => ?_⟩
    exact wpAny_BinOp (ev_name CE.F.kind hV (wpAny_Constant_int (i_mod (by decide) ⟨⟨_, rfl⟩, Ex.toks _ _⟩)))
  · have h1 := ints_of_paired (f := fun i => (ns.getD i 0).fmod 4) hp
    rw [hz, List.filter_eq_self.mpr (fun _ _ => rfl), range_map ns (fun k => k.fmod 4)] at h1
    have hLI : LI s'.heap D (ns.map fun k => k.fmod 4) := ⟨ys.toList, toList_list hD, h1⟩
    exact h D s'' (Stp.on x' st.stp) st.var (hLI.keeps (st.stp.seq (x.live.keeps x'.kp)))
end
end Mine
end

section
open PySem PySem.W PyProof.Rows PySem.Calls
set_option maxRecDepth 100000
set_option linter.unusedVariables false
namespace Mine
def tableOf (sm : List Int) : List (Int × Int) := (List.range sm.length).map fun i : Nat => ((i : Int), sm.getD i 0)
section
variable {prog : Program} {w : World} {A : Around} {E : Value → Shared → Prop} {s s₀ : Shared} {mg mb : Str → Option Value} {env : Env} {as : Ads}
theorem dictP_of {D : Addr} {h : Heap} {kvs : List (Int × Value)} {n : Nat} {f g : Nat → Int} (hd : DictI prog w h D kvs) (hp : Paired (fun j (kv : Int × Value) => kv.1 = f j ∧ ∃ t, kv.2 = .int (g j) t) (List.range n) kvs) :
    DictP prog w h D ((List.range n).map fun i => (f i, g i)) := by
  refine ⟨kvs, hd, Paired.of_get (by rw [List.length_map]; exact hp.length.symm) fun i kv p e1 e2 => ?_⟩
  obtain ⟨j, e3, e4, t, e5⟩ := Paired.get hp i kv e1
  rw [List.getElem?_map, e3] at e2
  cases e2
  exact ⟨e4, t, e5⟩
/-- table = {at: small[at] for at in range(len(small))} -/
theorem st5 {S : Addr} {sm : List Int} {Q : Flow → Shared → Prop} (hr : Rm A 3) (l : Law mg mb env s₀ as) (x : LSt env s₀ s) (V : VarAt s.heap env (nm "small") (.ref S)) (hS : LI s.heap S sm) (hlen : sm.length ≤ 100)
    (h : ∀ D s', Stp env [nm "table"] s s' → VarAt s'.heap env (nm "table") (.ref D) → DictP prog w s'.heap D (tableOf sm) → (D == sysModules) = false → s.heap.get? D = none → Q .next s') :
    wpAny (model prog w) A (exec ((dr 6).body.getD 5 (.Pass default)) env) Q E s := by
  show wpAny (model prog w) A (exec (.Assign [.Name (nm "table") _] (.DictComp _ _ [⟨.Name (nm "at") _, _, _, 0⟩] _ _) _) env) Q E s
  obtain ⟨vs, hl, hi, hvl⟩ := hS.len
  have k1 : env.kindOf (nm "table") = some .cell := l.kin _ _ (by decide) (by decide +kernel)
  have k2 : env.kindOf (nm "small") = some .cell := l.kin _ _ (by decide) (by decide +kernel)
  refine as_c l.F l.kin (by decide +kernel) (by decide) (l.cell (by decide +kernel)) ?_ (by unfold swapsWith; dsimp only; rw [k1]; cases (env.blockKind == .function) <;> rfl)
  refine dc_eval (fun _ => true) (fun i => (i : Int)) (fun i y _ => ∃ t, y = .int (sm.getD i 0) t) (fun _ _ _ _ x _ => x) l.F x.live (x.d l) (by decide +kernel) (free_in [nm "small"] (by decide +kernel) (fun n hn => by rw [List.mem_singleton.mp hn]; exact l.cell (by decide +kernel))) (.inl (by decide +kernel)) (by decide +kernel) ?_
  refine ev_cT l.F (x.d l) l.kin (kB_of (by decide +kernel) kv_range : kB (dr 6).scope "range" (.type "range") = true) (arg1 ?_)
  refine ev_cB l.F (x.d l) l.kin (kB_of (by decide +kernel) kv_len : kB (dr 6).scope "len" (.builtin "len") = true) (arg1 (ev_name l.F.kind V ?_))
  refine call_len_list hl (by simp; omega) ?_
  refine call_range_1 ?_
  have hz : vs.toArray.size = sm.length := by simp [hvl]
  refine it_range hr.hh (IsRange.new _ _ _ _ _ _ _) (by decide) (by decide) (by omega) (by rw [hz]; omega) fun I s₂ fp wr St S₂ => ?_
  have hn : (((vs.toArray.size : Nat) : Int) - (0 : Int)).toNat = sm.length := by rw [hz]; omega
  have S3 : SrcIn prog w A s s₂ I fp wr (((vs.toArray.size : Nat) : Int) - (0 : Int)).toNat (fun (i : Nat) v => ∃ t, v = .int (0 + (i : Int)) t) St := by
    refine SrcIn.on ?_ S₂
    exact ⟨fun b o e => Heap.get?_push_of_some _ e, id, rfl⟩
  refine ⟨I, fp, wr, _, _, St, rfl, by rw [hn, sizeLine_eq]; omega, S3, fun i j _ _ _ _ e => by exact_mod_cast e, fun cenv i v s₃ E'' CE hi' hP hL hV hk => ?_, fun D kvs s' hDn hDs hD hp x' => ⟨x.live.keeps x'.kp, fun s'' st => ?_⟩⟩
  · have hi2 : i < sm.length := by omega
    obtain ⟨t, rfl⟩ := hP
    refine t_none ⟨rfl, Ex.refl _, fun _ => ?_⟩
    refine ev_name CE.F.kind hV ⟨⟨t, by simp⟩, ?_⟩
    have VS : VarAt s₃.heap cenv (nm "small") (.ref S) := CE.var (by decide +kernel) ((V.cellAt (by rw [k2]; decide)).keeps hk)
    obtain ⟨u, hu⟩ := ints_get hi i (sm.getD i 0) (by simp [hi2])
    refine sub_list (ev_name CE.F.kind VS (ev_name CE.F.kind hV ⟨S, vs.toArray, i, t, .int (sm.getD i 0) u, rfl, by simp, hl.at fun o e => hk _ _ e, by omega, by rw [List.getElem?_toArray]; exact hu, ⟨⟨u, rfl⟩, Ex.refl _⟩⟩))
  · rw [hn, List.filter_eq_self.mpr (fun _ _ => rfl)] at hp
    have hDP : DictP prog w s'.heap D (tableOf sm) := dictP_of (f := fun i => (i : Int)) (g := fun i => sm.getD i 0) hD hp
    have hDo : Out env D := x.live.out hDn
    exact h D s'' (Stp.on x' st.stp) st.var (hDP.at fun o e => st.stp.old hDo e) hDs hDn
end
end Mine
end

section
open PySem PySem.W PyProof.Rows PySem.Calls
set_option maxRecDepth 100000
set_option linter.unusedVariables false
namespace Mine
theorem Paired.flip {α β : Type} {F : α → β → Prop} : ∀ {l : List α} {l' : List β}, Paired F l l' → Paired (fun b a => F a b) l' l
  | _, _, .nil => .nil
  | _, _, .cons x t => .cons x (Paired.flip t)
section
variable {prog : Program} {w : World} {A : Around} {E : Value → Shared → Prop} {s s₀ : Shared} {mg mb : Str → Option Value} {env : Env} {as : Ads}
/-- told = groups(dict(table)) -/
theorem st6 {T : Addr} {ps : List (Int × Int)} {Q : Flow → Shared → Prop} (hr : Rm A 3) (l : Law mg mb env s₀ as) (x : LSt env s₀ s) (V : VarAt s.heap env (nm "table") (.ref T)) (hT : DictP prog w s.heap T ps) (hTs : (T == sysModules) = false) (hlen : ps.length ≤ 20)
    (h : ∀ D s', Stp env [nm "told"] s s' → VarAt s'.heap env (nm "told") (.ref D) → GS prog w s'.heap D (groupsOf ps) → (D == sysModules) = false → s.heap.get? D = none → Q .next s') :
    wpAny (model prog w) A (exec ((dr 6).body.getD 6 (.Pass default)) env) Q E s := by
  show wpAny (model prog w) A (exec (.Assign [.Name (nm "told") _] _ _) env) Q E s
  obtain ⟨kvs, hd, hp⟩ := hT
  refine as_c l.F l.kin (by decide +kernel) (by decide) (l.cell (by decide +kernel)) ?_ (by rfl)
  refine ev_cF l.F (x.d l) l.kin (by decide +kernel) (l.f1.keeps x.ex.kp) (arg1 ?_)
  refine ev_cT l.F (x.d l) l.kin (kB_of (by decide +kernel) kv_dict : kB (dr 6).scope "dict" (.type "dict") = true) (arg1 (ev_name l.F.kind V ?_))
  refine kt_call_dict (knd := intKind prog w) hTs hd (by have := hp.length; rw [sizeLine_eq]; omega) fun h₂ hd2 hs2 => ?_
  have kp2 : ∀ b o, s.heap.get? b = some o → h₂.get? b = some o := fun b o e => hs2.extBut b o (Nat.ne_of_lt (Heap.lt_size e)) (Heap.get?_push_of_some _ e)
  have x2 : Ex s { s with heap := h₂ } := ⟨kp2, id, rfl⟩
  refine ⟨kp2, ?_⟩
  refine groups_call (ps := ps) hr ((l.f1.keeps x.ex.kp).keeps kp2) ((x.d l).keeps kp2) (beq_eq_false_iff_ne.mpr (Nat.ne_of_gt (x.d l).sys)) hd2 (Paired.flip hp) hlen fun G s₃ x3 hGn hGs hG => ?_
  have x13 : Ex s s₃ := x2.trans x3
  have L3 := x.live.keeps x13.kp
  refine ⟨L3, fun s₄ st => ?_⟩
  have hGn0 : s.heap.get? G = none := x2.none hGn
  have hGo : Out env G := x.live.out hGn0
  exact h G s₄ (Stp.on x13 st.stp) st.var (hG.keeps fun b o e hb => st.stp.old (by rcases hb with rfl | hb; exact hGo; exact L3.setOut e hb) e) hGs hGn0
end
end Mine
end

section
open PySem PySem.W PyProof.Rows PySem.Calls
set_option maxRecDepth 100000
set_option linter.unusedVariables false
namespace Mine
section
variable {prog : Program} {w : World} {A : Around} {E : Value → Shared → Prop} {s s₀ : Shared} {mg mb : Str → Option Value} {env : Env} {as : Ads}
/-- walk = iter(small) -/
theorem st3 {S : Addr} {vs : List Value} {Q : Flow → Shared → Prop} (hr : Rm A 3) (l : Law mg mb env s₀ as) (x : LSt env s₀ s) (V : VarAt s.heap env (nm "small") (.ref S)) (hS : s.heap.IsList S vs.toArray)
    (h : ∀ I s', Stp env [nm "walk"] s s' → VarAt s'.heap env (nm "walk") (.ref I) → s'.heap.IsListIter I S 0 → s.heap.get? I = none → Q .next s') :
    wpAny (model prog w) A (exec ((dr 6).body.getD 3 (.Pass default)) env) Q E s := by
  show wpAny (model prog w) A (exec (.Assign [.Name (nm "walk") _] _ _) env) Q E s
  refine as_l l.F l.kin (by decide +kernel) ?_
  refine ev_cB l.F (x.d l) l.kin (kB_of (by decide +kernel) kv_iter : kB (dr 6).scope "iter" (.builtin "iter") = true) (arg1 (ev_name l.F.kind V (bi_iter ?_)))
  refine wpAny_pyIter_list hS ?_
  have hI : (s.heap.push { cls := .type "list_iterator", data := .fields #[.ref S, .int 0 0] }).IsListIter s.heap.objs.size S 0 := ⟨_, Heap.get?_push_size _ rfl, rfl, rfl⟩
  have m1 : Mv [] s { s with heap := s.heap.push { cls := .type "list_iterator", data := .fields #[.ref S, .int 0 0] } } := Mv.push s _ s.toks
  refine ⟨x.live.keeps m1.all, fun s' st => ?_⟩
  exact h _ s' (Stp.on m1.ex st.stp) st.var (hI.at fun o e => st.stp.old (x.live.out (fresh_size _)) e) (fresh_size _)
/-- lent = list(row) -/
theorem st10 {R : Addr} {ns : List Int} {Q : Flow → Shared → Prop} (hr : Rm A 3) (l : Law mg mb env s₀ as) (x : LSt env s₀ s) (V : VarAt s.heap env (nm "row") (.ref R)) (hR : LI s.heap R ns) (hlen : ns.length ≤ 100)
    (h : ∀ L s', Stp env [nm "lent"] s s' → VarAt s'.heap env (nm "lent") (.ref L) → LI s'.heap L ns → Q .next s') :
    wpAny (model prog w) A (exec ((dr 6).body.getD 10 (.Pass default)) env) Q E s := by
  show wpAny (model prog w) A (exec (.Assign [.Name (nm "lent") _] _ _) env) Q E s
  obtain ⟨vs, hl, hi, hvl⟩ := hR.len
  refine as_l l.F l.kin (by decide +kernel) ?_
  refine ev_cT l.F (x.d l) l.kin (kB_of (by decide +kernel) kv_list : kB (dr 6).scope "list" (.type "list") = true) (arg1 (ev_name l.F.kind V ?_))
  refine ls_list hl (by simp [sizeLine_eq]; omega) fun L s₁ m1 hn hL => ?_
  refine ⟨x.live.keeps m1.all, fun s' st => ?_⟩
  have hLI : LI s₁.heap L ns := ⟨vs, hL, hi⟩
  exact h L s' (Stp.on m1.ex st.stp) st.var (hLI.keeps (st.stp.seq (x.live.keeps m1.all)))
/-- head = _law_cell(script, 0) -/
theorem st14 {S : Addr} {ns : List Int} {Q : Flow → Shared → Prop} (hr : Rm A 3) (l : Law mg mb env s₀ as) (x : LSt env s₀ s) (V : VarAt s.heap env (nm "script") (.ref S)) (hS : LI s.heap S ns) (hlen : ns.length ≤ 100)
    (h : ∀ t s', Stp env [nm "head"] s s' → VarAt s'.heap env (nm "head") (.int (cellOf ns 0) t) → Q .next s') :
    wpAny (model prog w) A (exec ((dr 6).body.getD 14 (.Pass default)) env) Q E s := by
  show wpAny (model prog w) A (exec (.Assign [.Name (nm "head") _] _ _) env) Q E s
  refine as_c l.F l.kin (by decide +kernel) (by decide) (l.cell (by decide +kernel)) ?_ (by rfl)
  refine ev_cF l.F (x.d l) l.kin (by decide +kernel) (l.f4.keeps x.ex.kp) (arg_cons (ev_name l.F.kind V (arg1 (wpAny_Constant_int ?_))))
  refine ⟨fun _ _ e => e, ?_⟩
  refine cell_call (k := 0) hr (l.f4.keeps x.ex.kp) (x.d l) hS hlen (by decide) fun s₁ t x1 => ?_
  exact ⟨x.live.keeps x1.kp, fun s' st => h t s' (Stp.on ((Ex.toks s _).trans x1) st.stp) st.var⟩
/-- size = 1 + head % 6 -/
theorem st15 {hd : Int} {t : Tok} {Q : Flow → Shared → Prop} (hr : Rm A 3) (l : Law mg mb env s₀ as) (x : LSt env s₀ s) (V : VarAt s.heap env (nm "head") (.int hd t))
    (h : ∀ t s', Stp env [nm "size"] s s' → VarAt s'.heap env (nm "size") (.int (1 + hd.fmod 6) t) → Q .next s') :
    wpAny (model prog w) A (exec ((dr 6).body.getD 15 (.Pass default)) env) Q E s := by
  show wpAny (model prog w) A (exec (.Assign [.Name (nm "size") _] _ _) env) Q E s
  refine as_c l.F l.kin (by decide +kernel) (by decide) (l.cell (by decide +kernel)) ?_ (by rfl)
  refine wpAny_BinOp (wpAny_Constant_int (wpAny_BinOp (ev_name l.F.kind V (wpAny_Constant_int (i_mod (by decide) (i_add ?_))))))
  refine ⟨x.live, fun s' st => h _ s' (Stp.on ((Ex.toks s _).trans (Ex.toks _ _)) st.stp) st.var⟩
end
end Mine
end

section
open PySem PySem.W PyProof.Rows PySem.Calls
set_option maxRecDepth 100000
set_option linter.unusedVariables false
namespace Mine
section
variable {prog : Program} {w : World} {A : Around} {E : Value → Shared → Prop} {s s₀ : Shared} {mg mb : Str → Option Value} {env : Env} {as : Ads}
theorem if_no {test : Expr} {body : List Stmt} {pos : Pos} {Q : Flow → Shared → Prop} (h : wpAny (model prog w) A (isTrue test env (eval test env)) (fun b s' => b = false ∧ Q .next s') E s) : wpAny (model prog w) A (exec (.If test body [] pos) env) Q E s := by
  refine wpAny_If (wpAny_mono h (fun b s' hb => ?_) fun _ _ x => x)
  obtain ⟨rfl, hq⟩ := hb
  rw [if_neg (by decide)]
  exact wpAny_execs_nil hq
theorem GS.typeIs {D : Addr} {gs : List (Int × List Int)} (x : GS prog w s.heap D gs) : s.TypeIs (.ref D) "dict" := let ⟨_, hd, _⟩ := x.is; hd.typeIs
/-- if table != {} and arbitrary_element(table) != 0: return False -/
theorem st12 {T : Addr} {sm : List Int} {Q : Flow → Shared → Prop} (hr : Rm A 3) (l : Law mg mb env s₀ as) (x : LSt env s₀ s) (V : VarAt s.heap env (nm "table") (.ref T)) (hT : DictP prog w s.heap T (tableOf sm)) (hTs : (T == sysModules) = false)
    (h : ∀ s', Ex s s' → Q .next s') :
    wpAny (model prog w) A (exec ((dr 6).body.getD 12 (.Pass default)) env) Q E s := by
  obtain ⟨kvs, hd, hp⟩ := hT
  show wpAny (model prog w) A (exec (.If (.BoolOp .And _ _) _ [] _) env) Q E s
  refine if_no ?_
  refine wpAny_isTrue_BoolOp (wpAny_allTrue_And_cons (wpAny_isTrue_Compare1 (ev_name l.F.kind V (wpAny_Dict_empty ?_))))
  have hnew : (s.heap.push { cls := .type "dict", data := .dict #[] }).DictOf (intKind prog w) s.heap.objs.size [] := Heap.DictOf.new s.heap
  have m1 : Mv [] s { s with heap := s.heap.push { cls := .type "dict", data := .dict #[] } } := Mv.push s _ s.toks
  refine keq_ne (knd := intKind prog w) (r := true) hTs (beq_eq_false_iff_ne.mpr (Nat.ne_of_gt (x.d l).sys)) (hd.at fun o e => m1.all _ _ e) hnew (by have := hr.u; omega) (fun he => ?_) (wpAny_truthy_bool ?_)
  · have : kvs = [] := List.length_eq_zero_iff.mp he
    subst this; exact KeqHits.nil
  · have hlen : kvs.length = sm.length := by rw [hp.length]; simp [tableOf]
    cases hk : kvs with
    | nil =>
      rw [if_neg (by simp)]
      exact ⟨rfl, h _ m1.ex⟩
    | cons kv r =>
      rw [if_pos (by simp)]
      refine wpAny_allTrue_And_cons (wpAny_isTrue_Compare1 ?_)
      obtain ⟨k0, v0⟩ := kv
      have hk0 : k0 = 0 := by
        rw [hk] at hp
        have h0 : 0 < sm.length := by rw [← hlen, hk]; simp
        obtain ⟨b, e1, e2, _⟩ := Paired.getL hp 0 (k0, v0) rfl
        have : (tableOf sm)[0]? = some ((0 : Int), sm.getD 0 0) := by unfold tableOf; simp [h0]
        rw [this] at e1; cases e1; exact e2
      subst hk0
      rw [hk] at hd
      generalize ({ s with heap := s.heap.push { cls := .type "dict", data := .dict #[] } } : Shared) = s₁ at m1
      refine ev_cF l.F ((x.d l).keeps m1.all) l.kin (by decide +kernel) ((l.f0.keeps x.ex.kp).keeps m1.all) (arg1 (ev_name l.F.kind (V.keeps m1.all) ⟨fun _ _ e => e, ?_⟩))
      refine arb_dict hr ((l.f0.keeps x.ex.kp).keeps m1.all) ((x.d l).keeps m1.all) hTs (hd.at fun o e => m1.all _ _ e) rfl fun s₂ t x2 => ?_
      refine wpAny_Constant_int (PySem.P.ne_int (wpAny_truthy_bool ?_))
      rw [if_neg (by simp)]
      exact ⟨rfl, h _ (m1.ex.trans (x2.trans (Ex.toks s₂ _)))⟩
end
end Mine
end

section
open PySem PySem.W PyProof.Rows PySem.Calls
set_option maxRecDepth 100000
set_option linter.unusedVariables false
namespace Mine
section
variable {prog : Program} {w : World} {A : Around} {E : Value → Shared → Prop} {s s₀ : Shared} {mg mb : Str → Option Value} {env : Env} {as : Ads}
/-- [] -/
theorem ev_nil {pos : Pos} {Q : Value → Shared → Prop} (h : ∀ L s', Mv [] s s' → LI s'.heap L [] → s.heap.get? L = none → Q (.ref L) s') : wpAny (model prog w) A (eval (.List [] pos) env) Q E s := by
  refine wpAny_List_spliced (arg_nil ⟨by decide, ?_⟩)
  exact h _ _ (Mv.push s _ s.toks) ⟨[], ⟨_, Heap.get?_push_size _ rfl, rfl, 0, rfl⟩, .nil⟩ (fresh_size _)
/-- tuple(l) -/
theorem tup_list {l : Addr} {vs : List Value} {Q : Value → Shared → Prop} (hl : s.heap.IsList l vs.toArray) (hz : vs.length ≤ 1000)
    (h : ∀ T s', Mv [] s s' → s'.heap.IsTuple T vs.toArray → s.heap.get? T = none → Q (.ref T) s') : wpAny (model prog w) A (call (.type "tuple") [.ref l]) Q E s := by
  refine call_tuple_list hl (fun h' hk => ?_) (by rw [List.size_toArray, sizeLine_eq]; omega)
  refine h _ _ (Mv.ofAll (s := s) (tk := s.toks) fun b o e => Heap.get?_push_of_some _ (hk b o e)) ⟨_, Heap.get?_push_size _ rfl, rfl, 0, rfl⟩ ?_
  cases e : s.heap.get? h'.objs.size with
  | none => rfl
  | some o => exact absurd (Heap.lt_size (hk _ _ e)) (Nat.lt_irrefl _)
/-- if row != [] and (arbitrary_element(lent) != row[0] or arbitrary_element(tuple(row)) != row[0] or lent != row): return False -/
theorem st11 {R L : Addr} {ns : List Int} {Q : Flow → Shared → Prop} (hr : Rm A 3) (l : Law mg mb env s₀ as) (x : LSt env s₀ s) (V : VarAt s.heap env (nm "row") (.ref R)) (hR : LI s.heap R ns) (VL : VarAt s.heap env (nm "lent") (.ref L)) (hL : LI s.heap L ns) (hlen : ns.length ≤ 100)
    (h : ∀ s', Ex s s' → Q .next s') :
    wpAny (model prog w) A (exec ((dr 6).body.getD 11 (.Pass default)) env) Q E s := by
  show wpAny (model prog w) A (exec (.If (.BoolOp .And _ _) _ [] _) env) Q E s
  refine if_no ?_
  refine wpAny_isTrue_BoolOp (wpAny_allTrue_And_cons (wpAny_isTrue_Compare1 (ev_name l.F.kind V (ev_nil fun N s₁ m1 hN hNn => ?_))))
  have k1 : ∀ b o, s.heap.get? b = some o → s₁.heap.get? b = some o := m1.all
  refine ne_LI (hR.keeps fun b o e _ => k1 _ _ e) hN hr.u (wpAny_truthy_bool ?_)
  cases ns with
  | nil => rw [if_neg (by simp)]; exact ⟨rfl, h _ m1.ex⟩
  | cons n r =>
    rw [if_pos (by simp)]
    obtain ⟨vs, hlR, hiR, hvl⟩ := hR.len
    obtain ⟨us, hlL, hiL, hul⟩ := hL.len
    obtain ⟨t1, e1⟩ := ints_get hiR 0 n rfl
    obtain ⟨t2, e2⟩ := ints_get hiL 0 n rfl
    have V1 := V.keeps k1
    have VL1 := VL.keeps k1
    have D1 := (x.d l).keeps k1
    have f1 := (l.f0.keeps x.ex.kp).keeps k1
    refine wpAny_allTrue_And_cons (wpAny_isTrue_BoolOp (wpAny_allTrue_Or_cons (wpAny_isTrue_Compare1 ?_)))
    refine ev_cF l.F D1 l.kin (by decide +kernel) f1 (arg1 (ev_name l.F.kind VL1 ⟨fun _ _ e => e, ?_⟩))
    refine arb_list hr f1 D1 (hlL.at fun o e => k1 _ _ e) (x := .int n t2) (by rw [List.getElem?_toArray]; exact e2) fun s₂ x2 => ?_
    have k2 : ∀ b o, s.heap.get? b = some o → s₂.heap.get? b = some o := fun b o e => x2.kp _ _ (k1 _ _ e)
    refine sub_list (ev_name l.F.kind (V1.keeps x2.kp) (wpAny_Constant_int ⟨R, vs.toArray, 0, _, .int n t1, rfl, rfl, hlR.at fun o e => k2 _ _ e, by decide, by rw [List.getElem?_toArray]; exact e1, ?_⟩))
    refine PySem.P.ne_int (wpAny_truthy_bool ?_)
    rw [if_neg (by simp)]
    have x3 : Ex s { s₂ with toks := s₂.toks + 1 } := m1.ex.trans (x2.trans (Ex.toks s₂ _))
    generalize ({ s₂ with toks := s₂.toks + 1 } : Shared) = s₃ at x3
    have k3 := x3.kp
    refine wpAny_allTrue_Or_cons (wpAny_isTrue_Compare1 ?_)
    refine ev_cF l.F ((x.d l).keeps k3) l.kin (by decide +kernel) ((l.f0.keeps x.ex.kp).keeps k3) (arg1 ?_)
    refine ev_cT l.F ((x.d l).keeps k3) l.kin (kB_of (by decide +kernel) kv_tuple : kB (dr 6).scope "tuple" (.type "tuple") = true) (arg1 (ev_name l.F.kind (V.keeps k3) ?_))
    refine tup_list (hlR.at fun o e => k3 _ _ e) (by rw [hvl]; omega) fun T s₄ m4 hT hTn => ?_
    have x4 : Ex s s₄ := x3.trans m4.ex
    have k4 := x4.kp
    refine ⟨m4.all, ?_⟩
    refine arb_tuple hr ((l.f0.keeps x.ex.kp).keeps k4) ((x.d l).keeps k4) hT (x := .int n t1) (by rw [List.getElem?_toArray]; exact e1) fun s₅ x5 => ?_
    have x15 := x4.trans x5
    have k5 := x15.kp
    refine sub_list (ev_name l.F.kind (V.keeps k5) (wpAny_Constant_int ⟨R, vs.toArray, 0, _, .int n t1, rfl, rfl, hlR.at fun o e => k5 _ _ e, by decide, by rw [List.getElem?_toArray]; exact e1, ?_⟩))
    refine PySem.P.ne_int (wpAny_truthy_bool ?_)
    rw [if_neg (by simp)]
    have x6 : Ex s { s₅ with toks := s₅.toks + 1 } := x15.trans (Ex.toks s₅ _)
    generalize ({ s₅ with toks := s₅.toks + 1 } : Shared) = s₆ at x6
    have k6 := x6.kp
    refine wpAny_allTrue_Or_cons (wpAny_isTrue_Compare1 (ev_name l.F.kind (VL.keeps k6) (ev_name l.F.kind (V.keeps k6) ?_)))
    refine ne_LI (hL.keeps fun b o e _ => k6 _ _ e) (hR.keeps fun b o e _ => k6 _ _ e) hr.u (wpAny_truthy_bool ?_)
    rw [if_neg (by simp)]
    refine wpAny_allTrue_Or_nil ?_
    rw [if_neg (by simp)]
    exact ⟨rfl, h _ x6⟩
end
end Mine
end

section
open PySem PySem.W PyProof.Rows PySem.Calls
set_option maxRecDepth 100000
set_option linter.unusedVariables false
namespace Mine
section
variable {prog : Program} {w : World} {A : Around} {E : Value → Shared → Prop} {s s₀ : Shared} {mg mb : Str → Option Value} {env : Env} {as : Ads}
/-- [k] -/
theorem ev_one {e : Expr} {pos : Pos} {Q : Value → Shared → Prop} (h : wpAny (model prog w) A (eval e env) (fun v s₁ => ∀ L s', Mv [] s₁ s' → s'.heap.IsList L #[v] → s₁.heap.get? L = none → Q (.ref L) s') E s)
    (he : starEach [e] env = (false, eval e env) :: starEach [] env := by rfl) : wpAny (model prog w) A (eval (.List [e] pos) env) Q E s := by
  refine wpAny_List_spliced (arg1 (wpAny_mono h (fun v s₁ h₁ => ⟨by show 1 ≤ sizeLine; decide, ?_⟩) fun _ _ x => x) he)
  exact h₁ _ _ (Mv.push s₁ _ s₁.toks) ⟨_, Heap.get?_push_size _ rfl, rfl, 0, rfl⟩ (fresh_size _)
/-- small + [1] -/
theorem sm_one {S : Addr} {sm : List Int} {p1 p2 p3 p4 : Pos} {k : Nat} {Q : Value → Shared → Prop} (l : Law mg mb env s₀ as) (V : VarAt s.heap env (nm "small") (.ref S)) (hS : LI s.heap S sm) (hlen : sm.length ≤ 100)
    (h : ∀ L s', Ex s s' → LI s'.heap L (sm ++ [1]) → Q (.ref L) s') :
    wpAny (model prog w) A (eval (.BinOp (.Name (nm "small") p1) .Add (.List [.Constant (.int 1) k p2] p3) p4) env) Q E s := by
  obtain ⟨vs, hl, hi, hvl⟩ := hS.len
  refine wpAny_BinOp (ev_name l.F.kind V (ev_one (wpAny_Constant_int fun L s₁ m1 hL hLn => ?_)))
  refine add_ll (hl.at fun o e => m1.all _ _ e) hL (by simp [sizeLine_eq]; omega) fun L2 s₂ m2 hn2 hL2 => ?_
  exact h L2 s₂ ((Ex.toks s _).trans (m1.ex.trans m2.ex)) ⟨vs ++ [.int 1 _], by simpa using hL2, hi.append (.cons 1 _ .nil)⟩
/-- if arbitrary_element('word') != 'w' or arbitrary_element(small + [1]) != (small + [1])[0]: return False -/
theorem st13 {S : Addr} {sm : List Int} {Q : Flow → Shared → Prop} (hr : Rm A 3) (l : Law mg mb env s₀ as) (x : LSt env s₀ s) (V : VarAt s.heap env (nm "small") (.ref S)) (hS : LI s.heap S sm) (hlen : sm.length ≤ 100)
    (h : ∀ s', Ex s s' → Q .next s') :
    wpAny (model prog w) A (exec ((dr 6).body.getD 13 (.Pass default)) env) Q E s := by
  show wpAny (model prog w) A (exec (.If (.BoolOp .Or _ _) _ [] _) env) Q E s
  refine if_no ?_
  refine wpAny_isTrue_BoolOp (wpAny_allTrue_Or_cons (wpAny_isTrue_Compare1 ?_))
  refine ev_cF l.F (x.d l) l.kin (by decide +kernel) (l.f0.keeps x.ex.kp) (arg1 (wpAny_Constant_str ⟨fun _ _ e => e, ?_⟩))
  refine arb_str (s := { s with toks := s.toks + 1 }) hr (l.f0.keeps x.ex.kp) (x.d l) (by decide +kernel) (c := 119) (by decide +kernel) fun s₁ t x1 => ?_
  refine wpAny_Constant_str (PySem.P.ne_str (wpAny_truthy_bool ?_))
  rw [if_neg (by decide +kernel)]
  have x2 : Ex s { s₁ with toks := s₁.toks + 1 } := (Ex.toks s _).trans (x1.trans (Ex.toks s₁ _))
  generalize ({ s₁ with toks := s₁.toks + 1 } : Shared) = s₂ at x2
  have k2 := x2.kp
  refine wpAny_allTrue_Or_cons (wpAny_isTrue_Compare1 ?_)
  refine ev_cF l.F ((x.d l).keeps k2) l.kin (by decide +kernel) ((l.f0.keeps x.ex.kp).keeps k2) (arg1 ?_)
  refine sm_one l (V.keeps k2) (hS.keeps fun b o e _ => k2 _ _ e) hlen fun L s₃ x3 hL => ⟨x3.kp, ?_⟩
  have k3 := (x2.trans x3).kp
  obtain ⟨us, hlL, hiL, hul⟩ := hL.len
  obtain ⟨n, hn⟩ : ∃ n, (sm ++ [1])[0]? = some n := by cases sm <;> exact ⟨_, rfl⟩
  obtain ⟨t1, e1⟩ := ints_get hiL 0 n hn
  refine arb_list hr ((l.f0.keeps x.ex.kp).keeps k3) ((x.d l).keeps k3) hlL (x := .int n t1) (by rw [List.getElem?_toArray]; exact e1) fun s₄ x4 => ?_
  have x14 := (x2.trans x3).trans x4
  refine sub_list (sm_one l (V.keeps x14.kp) (hS.keeps fun b o e _ => x14.kp _ _ e) hlen fun L5 s₅ x5 hL5 => wpAny_Constant_int ?_)
  obtain ⟨ws, hlW, hiW, hwl⟩ := hL5.len
  obtain ⟨t2, e2⟩ := ints_get hiW 0 n hn
  refine ⟨L5, ws.toArray, 0, _, .int n t2, rfl, rfl, hlW, by decide, by rw [List.getElem?_toArray]; exact e2, ?_⟩
  refine PySem.P.ne_int (wpAny_truthy_bool ?_)
  rw [if_neg (by simp)]
  refine wpAny_allTrue_Or_nil ⟨rfl, h _ ?_⟩
  exact x14.trans (x5.trans (Ex.toks s₅ _))
end
end Mine
end

section
open PySem PySem.W PyProof.Rows PySem.Calls
set_option maxRecDepth 100000
set_option linter.unusedVariables false
namespace Mine
section
variable {prog : Program} {w : World} {A : Around} {E : Value → Shared → Prop} {s : Shared} {a : Int} {t u : Tok} {Q : Value → Shared → Prop}
theorem pow2 {j : Nat} (hj : j < 6) (h : ∀ t', Q (.int (2 ^ j) t') { s with toks := s.toks + 1 }) : wpAny (model prog w) A (binaryOp .Pow (.int 2 t) (.int j u)) Q E s := by
  match j, hj with
  | 0, _ => exact AutoIntOps.pow_0 (by decide) (by decide) (h _)
  | 1, _ => exact AutoIntOps.pow_4 (by decide) (by decide) (by decide) (by decide) (by decide +kernel) (h _)
  | 2, _ => exact AutoIntOps.pow_4 (by decide) (by decide) (by decide) (by decide) (by decide +kernel) (h _)
  | 3, _ => exact AutoIntOps.pow_4 (by decide) (by decide) (by decide) (by decide) (by decide +kernel) (h _)
  | 4, _ => exact AutoIntOps.pow_4 (by decide) (by decide) (by decide) (by decide) (by decide +kernel) (h _)
  | 5, _ => exact AutoIntOps.pow_4 (by decide) (by decide) (by decide) (by decide) (by decide +kernel) (h _)
theorem fdiv2 {j : Nat} (hj : j < 6) (h : Q (.int (a.fdiv (2 ^ j)) s.toks) { s with toks := s.toks + 1 }) : wpAny (model prog w) A (binaryOp .FloorDiv (.int a t) (.int (2 ^ j) u)) Q E s := by
  refine AutoIntOps.floordiv_1 ?_ ?_ h
  · match j, hj with
    | 0, _ | 1, _ | 2, _ | 3, _ | 4, _ | 5, _ => decide
  · match j, hj with
    | 0, _ | 1, _ | 2, _ | 3, _ | 4, _ | 5, _ => intro hq; unfold Builtin.divisionGoesByPylong at hq; dsimp only at hq; rw [Bool.and_eq_true] at hq; exact absurd hq.1 (by decide +kernel)
end
end Mine
end

section
open PySem PySem.W PyProof.Rows PySem.Calls
set_option maxRecDepth 100000
set_option linter.unusedVariables false
namespace Mine
def nearBit (ns : List Int) (i j : Nat) : Bool := ((cellOf ns (1 + i)).fdiv (2 ^ j)).fmod 2 == 1
def nearRow (ns : List Int) (size i : Nat) : List Int := ((List.range size).filter (nearBit ns i)).map fun j : Nat => (j : Int)
def nearG (ns : List Int) (size : Nat) (k : Int) : List Int := nearRow ns size k.toNat
section
variable {prog : Program} {w : World} {A : Around} {E : Value → Shared → Prop} {s s₀ : Shared} {mg mb : Str → Option Value} {env : Env} {as : Ads}
theorem st16 {S : Addr} {ns : List Int} {size : Nat} {tz : Tok} {Q : Flow → Shared → Prop} (hr : Rm A 3) (l : Law mg mb env s₀ as) (x : LSt env s₀ s) (V : VarAt s.heap env (nm "script") (.ref S)) (hS : LI s.heap S ns) (hlen : ns.length ≤ 100) (Vz : VarAt s.heap env (nm "size") (.int size tz)) (hz : size ≤ 6)
    (h : ∀ D s' kvs, Stp env [nm "near"] s s' → VarAt s'.heap env (nm "near") (.ref D) → GraphAt prog w s'.heap D kvs (nearG ns size) → kvs.map (·.1) = (List.range size).map (fun i : Nat => (i : Int)) → (D == sysModules) = false → s.heap.get? D = none → Q .next s') :
    wpAny (model prog w) A (exec ((dr 6).body.getD 16 (.Pass default)) env) Q E s := by
  show wpAny (model prog w) A (exec (.Assign [.Name (nm "near") _] (.DictComp _ (.ListComp _ [⟨.Name (nm "other") _, _, _, 0⟩] _ _) [⟨.Name (nm "node") _, _, _, 0⟩] _ _) _) env) Q E s
  have k1 : env.kindOf (nm "near") = some .cell := l.kin _ _ (by decide) (by decide +kernel)
  have k2 : env.kindOf (nm "script") = some .cell := l.kin _ _ (by decide) (by decide +kernel)
  have k3 : env.kindOf (nm "size") = some .cell := l.kin _ _ (by decide) (by decide +kernel)
  have c2 : (env.cells.lookup (nm "script")).isSome = true := l.cell (by decide +kernel)
  have c3 : (env.cells.lookup (nm "size")).isSome = true := l.cell (by decide +kernel)
  refine as_c l.F l.kin (by decide +kernel) (by decide) (l.cell (by decide +kernel)) ?_ (by unfold swapsWith; dsimp only; rw [k1]; cases (env.blockKind == .function) <;> rfl)
  refine dc_eval (fun _ => true) (fun i => (i : Int)) (fun i y h => ∃ La, y = .ref La ∧ LI h La (nearRow ns size i)) (fun i y h h' ⟨La, e, hl⟩ k => ⟨La, e, hl.keeps k⟩) l.F x.live (x.d l) (by decide +kernel) (free_in [nm "script", nm "size"] (by decide +kernel) (fun n hn => by rcases List.mem_cons.mp hn with rfl | hn; exact c2; rw [List.mem_singleton.mp hn]; exact c3)) (.inr (by decide +kernel)) (by decide +kernel) ?_
  refine ev_cT l.F (x.d l) l.kin (kB_of (by decide +kernel) kv_range : kB (dr 6).scope "range" (.type "range") = true) (arg1 (ev_name l.F.kind Vz ?_))
  refine call_range_1 ?_
  refine it_range hr.hh (IsRange.new _ _ _ _ _ _ _) (by decide) (by decide) (by omega) (by omega) fun I s₂ fp wr St S₂ => ?_
  have hn : ((size : Int) - (0 : Int)).toNat = size := by omega
  have S3 : SrcIn prog w A s s₂ I fp wr ((size : Int) - (0 : Int)).toNat (fun (i : Nat) v => ∃ t, v = .int (0 + (i : Int)) t) St := by
    refine SrcIn.on ?_ S₂
    exact ⟨fun b o e => Heap.get?_push_of_some _ e, id, rfl⟩
  refine ⟨I, fp, wr, _, _, St, rfl, by rw [hn, sizeLine_eq]; omega, S3, fun i j _ _ _ _ e => by exact_mod_cast e, fun cenv i v s₃ E'' CE hi' hP hL hV hk => ?_, fun D kvs s' hDn hDs hD hp x' => ⟨x.live.keeps x'.kp, fun s'' st => ?_⟩⟩
  · have hi2 : i < size := by omega
    obtain ⟨t, rfl⟩ := hP
    have hV' : VarAt s₃.heap cenv (nm "node") (.int (i : Int) t) := by simpa using hV
    refine t_none ⟨rfl, Ex.refl _, fun _ => ?_⟩
    refine ev_name CE.F.kind hV' ⟨⟨t, rfl⟩, ?_⟩
    have VS : VarAt s₃.heap cenv (nm "script") (.ref S) := CE.var (by decide +kernel) ((V.cellAt (by rw [k2]; decide)).keeps hk)
    have VZ : VarAt s₃.heap cenv (nm "size") (.int size tz) := CE.var (by decide +kernel) ((Vz.cellAt (by rw [k3]; decide)).keeps hk)
    have D3 : Wd mg mb s₃.heap := (x.d l).keeps hk
    have kc1 : cenv.kindOf (nm "node") = some .cell := CE.kin _ _ (by decide) (by decide +kernel)
    have cc1 : (cenv.cells.lookup (nm "node")).isSome = true := CE.cell _ (by decide +kernel)
    have cc2 : (cenv.cells.lookup (nm "script")).isSome = true := by rw [(CE.free (nm "script") (by decide +kernel)).2]; exact c2
    refine lc_eval (nearBit ns i) (fun j y _ => ∃ t, y = .int (j : Int) t) (fun _ _ _ _ x _ => x) CE.F hL (by decide +kernel) (free_in [nm "node", nm "script"] (by decide +kernel) (fun n hn => by rcases List.mem_cons.mp hn with rfl | hn; exact cc1; rw [List.mem_singleton.mp hn]; exact cc2)) (.inl (by decide +kernel)) (by decide +kernel) ?_
    refine ev_cT CE.F D3 CE.kin (kB_of (by decide +kernel) kv_range : kB _ "range" (.type "range") = true) (arg1 (ev_name CE.F.kind VZ ?_))
    refine call_range_1 ?_
    refine it_range hr.hh (IsRange.new _ _ _ _ _ _ _) (by decide) (by decide) (by omega) (by omega) fun I2 s₄ fp2 wr2 St2 S4 => ?_
    have S5 : SrcIn prog w A s₃ s₄ I2 fp2 wr2 ((size : Int) - (0 : Int)).toNat (fun (i : Nat) v => ∃ t, v = .int (0 + (i : Int)) t) St2 := by
      refine SrcIn.on ?_ S4
      exact ⟨fun b o e => Heap.get?_push_of_some _ e, id, rfl⟩
    refine ⟨I2, fp2, wr2, _, _, St2, rfl, by rw [hn, sizeLine_eq]; omega, S5, fun cenv2 j v2 s₅ E3 CE2 hj' hP2 hL2 hV2 hk2 => ?_, fun D2 ys s₆ hD2n hD2 hp2 x6 => ⟨⟨D2, rfl, ys.toList, toList_list hD2, ?_⟩, x6⟩⟩
    · have hj2 : j < size := by omega
      obtain ⟨t2, rfl⟩ := hP2
      have hV2' : VarAt s₅.heap cenv2 (nm "other") (.int (j : Int) t2) := by simpa using hV2
      have VS2 : VarAt s₅.heap cenv2 (nm "script") (.ref S) := CE2.var (by decide +kernel) ((VS.cellAt (by rcases (CE.free (nm "script") (by decide +kernel)).1 with q | q <;> rw [q] <;> decide)).keeps hk2)
      have VN2 : VarAt s₅.heap cenv2 (nm "node") (.int (i : Int) t) := CE2.var (by decide +kernel) ((hV'.cellAt (by rw [kc1]; decide)).keeps hk2)
      have D5 : Wd mg mb s₅.heap := D3.keeps hk2
      have f5 := ((l.f4.keeps x.ex.kp).keeps hk).keeps hk2
      have hS5 : LI s₅.heap S ns := (hS.keeps fun b o e _ => hk _ _ e).keeps fun b o e _ => hk2 _ _ e
      refine t_one (wpAny_isTrue_Compare1 (wpAny_BinOp (wpAny_BinOp ?_)))
      refine ev_cF CE2.F D5 CE2.kin (by decide +kernel) f5 (arg_cons (ev_name CE2.F.kind VS2 (arg1 (wpAny_BinOp (wpAny_Constant_int (ev_name CE2.F.kind VN2 (i_add ?_)))))))
      refine ⟨fun _ _ e => e, ?_⟩
      rw [show (1 : Int) + (i : Int) = ((1 + i : Nat) : Int) by omega]
      refine cell_call (k := 1 + i) hr f5 D5 hS5 hlen (by omega) fun s₆ t6 x6 => ?_
      have x56 : Ex s₅ s₆ := ⟨fun b o e => x6.kp b o e, x6.gens, x6.os⟩
      refine wpAny_BinOp (wpAny_Constant_int (ev_name CE2.F.kind (hV2'.keeps x56.kp) (pow2 (by omega) fun t7 => ?_)))
      refine fdiv2 (by omega) (wpAny_Constant_int (i_mod (by decide) (wpAny_Constant_int (PySem.P.eq_int (wpAny_truthy_bool ?_)))))
      refine ⟨rfl, ⟨fun b o e => x56.kp b o e, x56.gens, x56.os⟩, fun _ => ev_name CE2.F.kind ?_ ⟨⟨t2, rfl⟩, Ex.refl _⟩⟩
      exact hV2'.keeps x56.kp
    · have h1 := ints_of_paired (f := fun j => (j : Int)) hp2
      rw [hn] at h1
      exact h1
  · rw [hn, List.filter_eq_self.mpr (fun _ _ => rfl)] at hp
    have hDo : Out env D := x.live.out hDn
    have L1 := x.live.keeps x'.kp
    have hkeys : kvs.map (·.1) = (List.range size).map (fun i : Nat => (i : Int)) := by
      have : ∀ {l : List Nat} {l' : List (Int × Value)}, Paired (fun (j : Nat) (kv : Int × Value) => kv.1 = (j : Int) ∧ ∃ La, kv.2 = .ref La ∧ LI s'.heap La (nearRow ns size j)) l l' → l'.map (·.1) = l.map (fun i : Nat => (i : Int)) := fun hq => by
        induction hq with
        | nil => rfl
        | cons y _ ih => simp [y.1, ih]
      exact this hp
    refine h D s'' kvs (Stp.on x' st.stp) st.var ⟨hD.at fun o e => st.stp.old hDo e, fun kv hkv => ?_⟩ hkeys hDs hDn
    obtain ⟨j, hj, e1, La, e2, hLI⟩ := Paired.mem hp kv hkv
    refine ⟨La, e2, ?_⟩
    have : nearG ns size kv.1 = nearRow ns size j := by rw [e1]; unfold nearG; simp
    rw [this]
    exact hLI.keeps (st.stp.seq L1)
end
end Mine
end

section
open PySem PySem.W PyProof.Rows PySem.Calls
set_option maxRecDepth 100000
set_option linter.unusedVariables false
namespace Mine
theorem sw_trueD {scope : Scope} {env : Env} {ek ev : Expr} {gs : List Comprehension} {pos tp : Pos} {n : Str} {line : Nat} {sc : Scope} (hs : env.scope = sc) (hk : (sc.kind == .function && !(sc.kind.isAnnotationScope)) = true) (hn : sc.names.lookup n = some .local) (hp : (tp.line == pos.line && !(scope.names.any fun (m, k) => m == n && (k == .local || k == .cell))) = true) :
    swapsWith (.DictComp ek ev gs scope pos) (some (.Name n tp)) line env = pure true := by
  have kb : (env.blockKind == .function) = true := by
    unfold Env.blockKind
    simp only [Bool.and_eq_true, Bool.not_eq_true'] at hk
    rw [hs, if_neg (by rw [hk.2]; exact Bool.false_ne_true)]; exact hk.1
  have k2 : env.kindOf n = some .local := by unfold Env.kindOf; rw [hs]; exact hn
  unfold swapsWith
  dsimp only
  simp only [Bool.and_eq_true] at hp
  rw [kb, k2]
  show pure ((some NameKind.local == some NameKind.local) && (tp.line == pos.line) && !(scope.names.any fun (m, k) => m == n && (k == .local || k == .cell))) = _
  rw [hp.1, hp.2]
  rfl
section
variable {prog : Program} {w : World} {A : Around} {E : Value → Shared → Prop} {s s₀ : Shared} {mg mb : Str → Option Value} {env : Env} {as : Ads}
/-- kept = {node: list(near[node]) for node in near} -/
theorem st17 {N : Addr} {kvs : List (Int × Value)} {gr : Int → List Int} {Q : Flow → Shared → Prop} (hr : Rm A 3) (l : Law mg mb env s₀ as) (x : LSt env s₀ s) (V : VarAt s.heap env (nm "near") (.ref N)) (G : GraphAt prog w s.heap N kvs gr) (hNs : (N == sysModules) = false) (ok : GraphOk kvs gr)
    (h : ∀ D s' kvs', Stp env [nm "kept"] s s' → VarAt s'.heap env (nm "kept") (.ref D) → GraphAt prog w s'.heap D kvs' gr → kvs'.map (·.1) = kvs.map (·.1) → (D == sysModules) = false → s.heap.get? D = none → Q .next s') :
    wpAny (model prog w) A (exec ((dr 6).body.getD 17 (.Pass default)) env) Q E s := by
  show wpAny (model prog w) A (exec (.Assign [.Name (nm "kept") _] (.DictComp _ _ [⟨.Name (nm "node") _, _, _, 0⟩] _ _) _) env) Q E s
  have k1 : env.kindOf (nm "near") = some .cell := l.kin _ _ (by decide) (by decide +kernel)
  have c1 : (env.cells.lookup (nm "near")).isSome = true := l.cell (by decide +kernel)
  refine dc_use (fun _ => true) (fun i => (kvs.map (fun kv : Int × Value => kv.1)).getD i 0) (fun i y h => ∃ La, y = .ref La ∧ LI h La (gr ((kvs.map (fun kv : Int × Value => kv.1)).getD i 0))) (fun i y h h' ⟨La, e, hl⟩ k => ⟨La, e, hl.keeps k⟩) l.F x.live (x.d l) (by decide +kernel) (free_in [nm "near"] (by decide +kernel) (fun n hn => by rw [List.mem_singleton.mp hn]; exact c1)) (.inl (by decide +kernel)) (by decide +kernel) (l.kin _ _ (by decide) (by decide +kernel)) (by decide +kernel) (sw_trueD l.scope (by decide +kernel) (by decide +kernel) (by decide +kernel)) ?_
  refine ev_name l.F.kind V ?_
  refine it_dict hr.hh hNs G.dict fun I s₂ fp wr St S₂ => ?_
  have hkl : kvs.length ≤ 20 := ok.len
  refine ⟨I, fp, wr, _, _, St, rfl, by rw [sizeLine_eq]; omega, S₂, fun i j hi hj _ _ e => ?_, fun cenv i v s₃ E'' CE hi' hP hL hV hk => ?_, fun D kvs' s' hDn hDs hD hp st hv => ?_⟩
  · have hi2 : i < (kvs.map (·.1)).length := by simpa using hi
    have hj2 : j < (kvs.map (·.1)).length := by simpa using hj
    rw [List.getD_eq_getElem?_getD, List.getD_eq_getElem?_getD, List.getElem?_eq_getElem hi2, List.getElem?_eq_getElem hj2] at e
    exact nodup_inj ok.nod hi2 hj2 e
  · obtain ⟨t, rfl⟩ := hP
    have hi2 : i < (kvs.map (·.1)).length := by simpa using hi'
    have hmem : (kvs.map (·.1)).getD i 0 ∈ kvs.map (·.1) := by rw [List.getD_eq_getElem?_getD, List.getElem?_eq_getElem hi2]; exact List.getElem_mem hi2
    refine t_none ⟨rfl, Ex.refl _, fun _ => ?_⟩
    refine ev_name CE.F.kind hV ⟨⟨t, rfl⟩, ?_⟩
    have VN : VarAt s₃.heap cenv (nm "near") (.ref N) := CE.var (by decide +kernel) ((V.cellAt (by rw [k1]; decide)).keeps hk)
    have G3 : GraphAt prog w s₃.heap N kvs gr := G.keeps fun b o e _ => hk _ _ e
    obtain ⟨y, hy1, hy2⟩ := valueAt_mem hmem
    obtain ⟨La, hLa, hLi⟩ := G3.rows _ hy2
    simp only at hLa hLi
    subst hLa
    refine ev_cT CE.F ((x.d l).keeps hk) CE.kin (kB_of (by decide +kernel) kv_list : kB _ "list" (.type "list") = true) (arg1 ?_)
    refine sub_dict (ev_name CE.F.kind VN (ev_name CE.F.kind hV ⟨N, kvs, _, t, .ref La, rfl, rfl, G3.dict, hy1, ?_⟩))
    obtain ⟨us, hlu, hiu, hul⟩ := hLi.len
    have hrl : (gr ((kvs.map (·.1)).getD i 0)).length ≤ 100 := ok.rl _ hy2
    refine ls_list (s := { s₃ with toks := s₃.toks + 1 }) hlu (by simp [sizeLine_eq]; omega) fun D s₄ m4 hDn4 hD4 => ⟨⟨D, rfl, us, hD4, hiu⟩, (Ex.toks s₃ _).trans m4.ex⟩
  · have hz : (List.range kvs.length).filter (fun _ => true) = List.range kvs.length := List.filter_eq_self.mpr (fun _ _ => rfl)
    rw [hz] at hp
    have hkeys : kvs'.map (·.1) = kvs.map (·.1) := by
      apply List.ext_getElem?
      intro i
      rw [List.getElem?_map]
      by_cases hi : i < kvs.length
      · have hl' : i < kvs'.length := by have := hp.length; simp at this; omega
        obtain ⟨j, e1, e2, _⟩ := Paired.get hp i kvs'[i] (List.getElem?_eq_getElem hl')
        have : j = i := by rw [List.getElem?_range hi] at e1; exact (Option.some.inj e1).symm
        subst this
        rw [List.getElem?_eq_getElem hl']
        simp only [Option.map_some, e2]
        rw [List.getD_eq_getElem?_getD, List.getElem?_eq_getElem (by simpa using hi)]
        rfl
      · have hl' : kvs'.length ≤ i := by have := hp.length; simp at this; omega
        rw [List.getElem?_eq_none hl', List.getElem?_eq_none (by simp; omega)]; rfl
    refine h D s' kvs' st hv ⟨hD, fun kv hkv => ?_⟩ hkeys hDs hDn
    obtain ⟨j, hj, e1, La, e2, hLI⟩ := Paired.mem hp kv hkv
    exact ⟨La, e2, by rw [e1]; exact hLI⟩
end
end Mine
end

section
open PySem PySem.W PyProof.Rows PySem.Calls
set_option maxRecDepth 100000
set_option linter.unusedVariables false
namespace Mine
theorem hits_all {A : Around} {s : Shared} {kb : List (Int × Value)} : ∀ {l : List (Int × Value)}, (∀ kv ∈ l, ∃ y, valueAt kb kv.1 = some y ∧ SeqAt.EqAt A s kv.2 y true) → KeqHits A s kb l true
  | [], _ => .nil
  | (k, v) :: r, h => by
    obtain ⟨y, h1, h2⟩ := h (k, v) List.mem_cons_self
    exact KeqHits.hit (e := true) (b := true) h1 h2 (hits_all fun kv hkv => h kv (List.mem_cons_of_mem _ hkv))
section
variable {prog : Program} {w : World} {A : Around} {E : Value → Shared → Prop} {s s₀ : Shared} {mg mb : Str → Option Value} {env : Env} {as : Ads}
theorem graph_hits {A : Around} {s : Shared} {N K : Addr} {kvs kvs' : List (Int × Value)} {gr : Int → List Int} (G : GraphAt prog w s.heap N kvs gr) (G' : GraphAt prog w s.heap K kvs' gr) (hk : kvs'.map (·.1) = kvs.map (·.1)) (hu : A.in1.units + 64 < cLine) : KeqHits A.in1 s kvs' kvs true := by
  refine hits_all fun kv hkv => ?_
  have hm : kv.1 ∈ kvs'.map (·.1) := by rw [hk]; exact List.mem_map_of_mem hkv
  obtain ⟨y, h1, h2⟩ := valueAt_mem hm
  refine ⟨y, h1, ?_⟩
  obtain ⟨La, e1, vs, hl, hi⟩ := G.rows kv hkv
  obtain ⟨Lb, e2, us, hl', hi'⟩ := G'.rows _ h2
  simp only at e2
  rw [e1, e2]
  have := keq_ints hl hi hl' hi' hu
  simpa using this
/-- return near == kept -/
theorem st19 {N K : Addr} {kvs kvs' : List (Int × Value)} {gr : Int → List Int} {Q : Flow → Shared → Prop} (hr : Rm A 3) (l : Law mg mb env s₀ as) (x : LSt env s₀ s) (V : VarAt s.heap env (nm "near") (.ref N)) (VK : VarAt s.heap env (nm "kept") (.ref K)) (G : GraphAt prog w s.heap N kvs gr) (G' : GraphAt prog w s.heap K kvs' gr) (hk : kvs'.map (·.1) = kvs.map (·.1)) (hNs : (N == sysModules) = false) (hKs : (K == sysModules) = false)
    (h : Q (.ret (.bool true)) s) :
    wpAny (model prog w) A (exec ((dr 6).body.getD 19 (.Pass default)) env) Q E s := by
  show wpAny (model prog w) A (exec (.Return (some _) _) env) Q E s
  refine wpAny_Return_some (wpAny_Compare1 (ev_name l.F.kind V (ev_name l.F.kind VK ?_)))
  have hlen : kvs.length = kvs'.length := by have := congrArg List.length hk; simp at this; omega
  refine keq_eq (knd := intKind prog w) (r := true) hNs hKs G.dict G'.dict (by have := hr.u; omega) (fun _ => graph_hits G G' hk ?_) ?_
  · have := hr.un; show A.units + 1 + 64 < cLine; omega
  · rw [show (kvs.length == kvs'.length && true) = true by simp [hlen]]
    exact h
end
end Mine
end

section
open PySem PySem.W PyProof.Rows PySem.Calls
set_option maxRecDepth 100000
set_option linter.unusedVariables false
namespace Mine
section
variable {prog : Program} {w : World} {A : Around} {E : Value → Shared → Prop} {s s₀ : Shared} {mg mb : Str → Option Value} {env : Env} {as : Ads}
/-- if small != [] and (next(_unique_everseen(walk)) != small[0] or list(walk) != small[1:]): return False -/
theorem st4 {S I : Addr} {sm : List Int} {vs : List Value} {Q : Flow → Shared → Prop} (hr : Rm A 3) (l : Law mg mb env s₀ as) (x : LSt env s₀ s) (V : VarAt s.heap env (nm "small") (.ref S)) (hl : s.heap.IsList S vs.toArray) (hi : IntsAre vs sm) (VW : VarAt s.heap env (nm "walk") (.ref I)) (hI : s.heap.IsListIter I S 0) (hI0 : s₀.heap.get? I = none) (hlen : sm.length ≤ 100)
    (h : ∀ s', ExB I s s' → Q .next s') :
    wpAny (model prog w) A (exec ((dr 6).body.getD 4 (.Pass default)) env) Q E s := by
  show wpAny (model prog w) A (exec (.If (.BoolOp .And _ _) _ [] _) env) Q E s
  have hvl := hi.length
  refine if_no ?_
  refine wpAny_isTrue_BoolOp (wpAny_allTrue_And_cons (wpAny_isTrue_Compare1 (ev_name l.F.kind V (ev_nil fun N s₁ m1 hN hNn => ?_))))
  have k1 : ∀ b o, s.heap.get? b = some o → s₁.heap.get? b = some o := m1.all
  refine ne_LI ⟨vs, hl.at fun o e => k1 _ _ e, hi⟩ hN hr.u (wpAny_truthy_bool ?_)
  cases sm with
  | nil => rw [if_neg (by simp)]; exact ⟨rfl, h _ m1.ex.b⟩
  | cons n r =>
    rw [if_pos (by simp)]
    refine wpAny_allTrue_And_cons (wpAny_isTrue_BoolOp (wpAny_allTrue_Or_cons (wpAny_isTrue_Compare1 ?_)))
    refine ev_cB l.F ((x.d l).keeps k1) l.kin (kB_of (by decide +kernel) kv_next : kB (dr 6).scope "next" (.builtin "next") = true) (arg1 ?_)
    refine ev_cF l.F ((x.d l).keeps k1) l.kin (by decide +kernel) ((l.f2.keeps x.ex.kp).keeps k1) (arg1 (ev_name l.F.kind (VW.keeps k1) ⟨fun _ _ e => e, ?_⟩))
    refine es_call (l := S) (items := vs.toArray) (src := some I) (ns := n :: r) hr ((l.f2.keeps x.ex.kp).keeps k1) ((x.d l).keeps k1) ?_ (by simpa using hi) hlen fun J s₂ wr fp x2 hJn hJg hlim hwr hfp hst => ?_
    · exact ⟨hl.at fun o e => k1 _ _ e, .inr ⟨I, rfl, rfl, hI.at fun o e => k1 _ _ e⟩⟩
    · refine nx_es (l := S) (src := some I) (ns := n :: r) hr (by simp [uq]) hJg (fun s₃ A' h1 h2 => hst s₃ A' h1 h2) fun n' t s₃ x3 hn' hIt => ?_
      have hnn : n' = n := by simp [uq] at hn'; exact hn'.symm
      subst hnn
      have b3 : ExB I s s₃ := ⟨fun b o hb e => x3.kp b o (fun hw => by
        rcases (hwr b hw).2 with q | q
        · rw [k1 _ _ e] at q; cases q
        · exact hb (Option.some.inj q).symm) (x2.kp _ _ (k1 _ _ e)), fun g => x3.gens (x2.gens (m1.ex.gens g)), x3.os.trans (x2.os.trans m1.os)⟩
      have hIo : Out env I := by obtain ⟨o, e, _, hd⟩ := hI; exact x.live.fieldsOut e ⟨_, hd⟩
      have hSI : S ≠ I := fun q => by
        obtain ⟨o, e, _, n, hd⟩ := hl
        obtain ⟨o', e', _, hd'⟩ := hI
        rw [q, e'] at e; cases e; rw [hd'] at hd; cases hd
      have V3 := V.butOut hIo b3.kp
      have VW3 := VW.butOut hIo b3.kp
      have hl3 : s₃.heap.IsList S vs.toArray := hl.at fun o e => b3.kp _ _ hSI e
      obtain ⟨t1, e1⟩ := ints_get hi 0 n' rfl
      refine sub_list (ev_name l.F.kind V3 (wpAny_Constant_int ⟨S, vs.toArray, 0, _, .int n' t1, rfl, rfl, hl3, by decide, by rw [List.getElem?_toArray]; exact e1, ?_⟩))
      refine PySem.P.ne_int (wpAny_truthy_bool ?_)
      rw [if_neg (by simp)]
      have b4 : ExB I s { s₃ with toks := s₃.toks + 1 } := ⟨b3.kp, b3.gens, b3.os⟩
      have hI4 : ({ s₃ with toks := s₃.toks + 1 } : Shared).heap.IsListIter I S 1 := hIt I rfl
      generalize ({ s₃ with toks := s₃.toks + 1 } : Shared) = s₄ at b4 hI4
      have V4 := V.butOut hIo b4.kp
      have hl4 : s₄.heap.IsList S vs.toArray := hl.at fun o e => b4.kp _ _ hSI e
      have D4 : Wd mg mb s₄.heap := l.D.keeps fun b o e => b4.kp b o (fun q => by rw [q, hI0] at e; cases e) (x.ex.kp _ _ e)
      refine wpAny_allTrue_Or_cons (wpAny_isTrue_Compare1 ?_)
      refine ev_cT l.F D4 l.kin (kB_of (by decide +kernel) kv_list : kB (dr 6).scope "list" (.type "list") = true) (arg1 (ev_name l.F.kind (VW.butOut hIo b4.kp) ?_))
      refine ls_iter hr.hh hI4 hl4 (by rw [List.size_toArray, hvl]; simp) (by simp [sizeLine_eq]; omega) fun L s₅ m5 hLn hL5 => ?_
      have b5 : ExB I s s₅ := ⟨fun b o hb e => m5.kp b o (by simpa using hb) (b4.kp b o hb e), fun g => by rw [m5.gens]; exact b4.gens g, m5.os.trans b4.os⟩
      have hl5 : s₅.heap.IsList S vs.toArray := hl.at fun o e => b5.kp _ _ hSI e
      refine ev_from (ev_name l.F.kind (V.butOut hIo b5.kp) (wpAny_Constant_int ⟨S, vs.toArray, 1, _, rfl, hl5, by simp [sizeLine_eq]; omega, rfl, fun L6 s₆ m6 hn6 hL6 => ?_⟩))
      have hi1 : IntsAre (vs.drop 1) ((n' :: r).drop 1) := ints_drop hi 1
      have hLI5 : LI s₆.heap L ((n' :: r).drop 1) := ⟨vs.drop 1, (by simpa using hL5 : s₅.heap.IsList L (vs.drop 1).toArray).at fun o e => m6.all _ _ e, hi1⟩
      have hLI6 : LI s₆.heap L6 ((n' :: r).drop 1) := ⟨vs.drop 1, by simpa using hL6, hi1⟩
      refine ne_LI hLI5 hLI6 hr.u (wpAny_truthy_bool ?_)
      rw [if_neg (by simp)]
      refine wpAny_allTrue_Or_nil ?_
      rw [if_neg (by simp)]
      refine ⟨rfl, h _ ⟨fun b o hb e => m6.all b o (b5.kp b o hb e), fun g => by rw [m6.gens]; exact b5.gens g, m6.os.trans b5.os⟩⟩
end
end Mine
end

section
open PySem PySem.W PyProof.Rows PySem.Calls
set_option maxRecDepth 100000
set_option linter.unusedVariables false
namespace Mine
section
variable {prog : Program} {w : World} {A : Around} {E : Value → Shared → Prop} {s s₀ : Shared} {mg mb : Str → Option Value} {env : Env} {as : Ads}
theorem dictP_at {kvs : List (Int × Value)} {ps : List (Int × Int)} (hp : Paired (fun (kv : Int × Value) (p : Int × Int) => kv.1 = p.1 ∧ ∃ t, kv.2 = .int p.2 t) kvs ps) (hn : (ps.map (·.1)).Nodup) : ∀ {k n : Int}, (k, n) ∈ ps → ∃ t, valueAt kvs k = some (.int n t) := by
  induction hp with
  | nil => intro k n h; cases h
  | @cons kv p r r' x _ ih =>
    intro k n h
    rw [List.map_cons, List.nodup_cons] at hn
    rw [valueAt_cons]
    rcases List.mem_cons.mp h with h | h
    · obtain ⟨e, t, e'⟩ := x
      subst h
      rw [if_pos e]; exact ⟨t, by rw [e']⟩
    · have : kv.1 ≠ k := fun q => hn.1 (by rw [← x.1, q]; exact List.mem_map_of_mem (f := (·.1)) h)
      rw [if_neg this]; exact ih hn.2 h
/-- two equal dicts of ints told unequal -/
theorem ne_DictP {a b : Addr} {ps qs : List (Int × Int)} {Q : Value → Shared → Prop} (ha : DictP prog w s.heap a ps) (hb : DictP prog w s.heap b qs) (hp : ps.Perm qs) (hn : (qs.map (·.1)).Nodup) (has : (a == sysModules) = false) (hbs : (b == sysModules) = false) (hu : A.units < cLine) (h : Q (.bool false) s) :
    wpAny (model prog w) A (compareOp .NotEq (.ref a) (.ref b)) Q E s := by
  obtain ⟨ka, hda, hpa⟩ := ha
  obtain ⟨kb, hdb, hpb⟩ := hb
  have hlen : ka.length = kb.length := by rw [hpa.length, hpb.length, hp.length_eq]
  refine keq_ne (knd := intKind prog w) (r := true) has hbs hda hdb hu (fun _ => hits_all fun kv hkv => ?_) ?_
  · obtain ⟨i, hi, e⟩ := List.mem_iff_getElem.mp hkv
    obtain ⟨p, e1, e2, t, e3⟩ := Paired.getL hpa i kv (by rw [List.getElem?_eq_getElem hi, e])
    have hm : (kv.1, p.2) ∈ qs := by
      have : p ∈ qs := hp.mem_iff.mp (List.mem_of_getElem? e1)
      rw [e2]; exact this
    obtain ⟨t', ht'⟩ := dictP_at hpb hn hm
    refine ⟨_, ht', ?_⟩
    rw [e3]
    have := SeqAt.EqAt.int_int (A := A.in1) (s := s) p.2 t p.2 t'
    simpa using this
  · rw [show (!(ka.length == kb.length && true)) = false by simp [hlen]]
    exact h
end
end Mine
end

section
open PySem PySem.W PyProof.Rows PySem.Calls
set_option maxRecDepth 100000
set_option linter.unusedVariables false
namespace Mine
section
variable {prog : Program} {w : World} {A : Around} {E : Value → Shared → Prop} {s s₀ : Shared} {mg mb : Str → Option Value} {env : Env} {as : Ads}
/-- if back != table or not isinstance(told, dict): return False -/
theorem st9 {B T O : Addr} {ps qs : List (Int × Int)} {Q : Flow → Shared → Prop} (hr : Rm A 3) (l : Law mg mb env s₀ as) (x : LSt env s₀ s) (VB : VarAt s.heap env (nm "back") (.ref B)) (VT : VarAt s.heap env (nm "table") (.ref T)) (VO : VarAt s.heap env (nm "told") (.ref O)) (hB : DictP prog w s.heap B ps) (hT : DictP prog w s.heap T qs) (hO : s.TypeIs (.ref O) "dict")
    (hp : ps.Perm qs) (hn : (qs.map (·.1)).Nodup) (hBs : (B == sysModules) = false) (hTs : (T == sysModules) = false)
    (h : ∀ s', Ex s s' → Q .next s') :
    wpAny (model prog w) A (exec ((dr 6).body.getD 9 (.Pass default)) env) Q E s := by
  show wpAny (model prog w) A (exec (.If (.BoolOp .Or _ _) _ [] _) env) Q E s
  refine if_no ?_
  refine wpAny_isTrue_BoolOp (wpAny_allTrue_Or_cons (wpAny_isTrue_Compare1 (ev_name l.F.kind VB (ev_name l.F.kind VT ?_))))
  refine ne_DictP hB hT hp hn hBs hTs (by have := hr.u; omega) (wpAny_truthy_bool ?_)
  rw [if_neg (by decide)]
  obtain ⟨o, ho, hc⟩ := hO
  refine wpAny_allTrue_Or_cons (wpAny_isTrue_Not (wpAny_isTrue_value ?_))
  refine ev_cB l.F (x.d l) l.kin (kB_of (by decide +kernel) kv_isinstance : kB (dr 6).scope "isinstance" (.builtin "isinstance") = true) (arg_cons (ev_name l.F.kind VO (arg1 (ev_b l.F (x.d l) l.kin (kB_of (by decide +kernel) kv_dict : kB (dr 6).scope "dict" (.type "dict") = true) ?_))))
  refine IsiPair.dict_dict ho hc (wpAny_truthy_bool ?_)
  rw [if_neg (by decide)]
  exact wpAny_allTrue_Or_nil ⟨rfl, h _ (Ex.refl _)⟩
end
end Mine
end

section
open PySem PySem.W PyProof.Rows PySem.Calls
set_option maxRecDepth 100000
set_option linter.unusedVariables false
namespace Mine
/-- the groups' pairs, member first -/
def flatG (gs : List (Int × List Int)) : List (Int × Int) := gs.flatMap fun g => g.2.map fun m => (m, g.1)
def BAcc (prog : Program) (w : World) (gs : List (Int × List Int)) (D : Addr) (i : Nat) (h : Heap) : Prop := (D == sysModules) = false ∧ ∃ qs, DictP prog w h D qs ∧ qs.Perm (flatG (gs.take i))
theorem BAcc.stb {prog : Program} {w : World} {gs : List (Int × List Int)} (D : Addr) (i : Nat) : Stb D (BAcc prog w gs D i) := fun h h' ⟨hs, qs, hd, hp⟩ hk => ⟨hs, qs, hd.at fun o e => hk D o e (.inl rfl), hp⟩
section
variable {prog : Program} {w : World} {A : Around} {E : Value → Shared → Prop} {s s₀ : Shared} {mg mb : Str → Option Value} {env : Env} {as : Ads}
theorem new_dictB {s₂ : Shared} {Q : Value → Shared → Prop} {gs : List (Int × List Int)} (hsm : sysModules < s₂.heap.objs.size)
    (h : ∀ D s₃ o, s₂.heap.objs.size ≤ D → s₃.heap.get? D = some o → s₂.heap.objs.size ≤ s₃.heap.objs.size → Mv [] s₂ s₃ → BAcc prog w gs D 0 s₃.heap → Q (.ref D) s₃) : wpAny (model prog w) A newDict Q E s₂ := by
  refine wpAny_newObj_type (h _ _ _ (Nat.le_refl _) (Heap.get?_push_size _ rfl) ?_ (Mv.push s₂ _ s₂.toks) ⟨?_, [], ⟨[], Heap.DictOf.new s₂.heap, .nil⟩, by simp [flatG]⟩)
  · show s₂.heap.objs.size ≤ (s₂.heap.push _).objs.size
    rw [Heap.size_push]; exact Nat.le_succ _
  · exact beq_eq_false_iff_ne.mpr (Nat.ne_of_gt hsm)
/-- d[k] = v for a new key -/
theorem dictP_set {D : Addr} {qs : List (Int × Int)} {k v : Int} {t u : Tok} {Q : Unit → Shared → Prop} (hD : DictP prog w s.heap D qs) (hk : k ∉ qs.map (·.1)) (hlen : qs.length ≤ 1000)
    (h : ∀ h' tk, DictP prog w h' D (qs ++ [(k, v)]) → Heap.SameBut D s.heap h' → Q () { s with heap := h', toks := tk }) : wpAny (model prog w) A (dictSet D (.int k t) (.int v u)) Q E s := by
  obtain ⟨kvs, hd, hp⟩ := hD
  have hl := hp.length
  refine wpAny_dictSet_pairs (hsz := by rw [sizeLine_eq]; omega) (intKind_is _ _ _ _) hd fun h' hd' hs' => ?_
  refine h h' _ ⟨_, hd', ?_⟩ hs'
  have : stored kvs k (.int v u) = kvs ++ [(k, .int v u)] := by
    unfold stored
    rw [if_neg]
    intro hany
    rw [List.any_eq_true] at hany
    obtain ⟨kv, hkv, e⟩ := hany
    obtain ⟨i, hi, e'⟩ := List.mem_iff_getElem.mp hkv
    obtain ⟨p, e1, e2, _⟩ := Paired.getL hp i kv (by rw [List.getElem?_eq_getElem hi, e'])
    exact hk (by have e3 : kv.1 = k := by simpa using e
                 rw [← e3, e2]; exact List.mem_map_of_mem (f := (·.1)) (List.mem_of_getElem? e1))
  rw [this]
  exact hp.snoc ⟨rfl, u, rfl⟩
end
end Mine
end

section
open PySem PySem.W PyProof.Rows PySem.Calls
set_option maxRecDepth 100000
set_option linter.unusedVariables false
namespace Mine
/-! ### plain: first occurrences -/
theorem uq_congr : ∀ (l s t : List Int), (∀ x, x ∈ s ↔ x ∈ t) → uq s l = uq t l
  | [], _, _, _ => rfl
  | x :: r, s, t, h => by
    unfold uq
    by_cases hx : x ∈ s
    · rw [if_pos hx, if_pos ((h x).mp hx)]; exact uq_congr r s t h
    · rw [if_neg hx, if_neg (fun q => hx ((h x).mpr q))]
      rw [uq_congr r (s ++ [x]) (t ++ [x]) fun y => by simp only [List.mem_append, h y]]
theorem mem_uq {x : Int} : ∀ (l s : List Int), x ∈ uq s l ↔ x ∈ l ∧ x ∉ s
  | [], s => by simp [uq]
  | y :: r, s => by
    unfold uq
    by_cases hy : y ∈ s
    · rw [if_pos hy, mem_uq r s, List.mem_cons]
      constructor
      · exact fun ⟨a, b⟩ => ⟨.inr a, b⟩
      · rintro ⟨rfl | a, b⟩
        · exact absurd hy b
        · exact ⟨a, b⟩
    · rw [if_neg hy, List.mem_cons, mem_uq r _, List.mem_cons, List.mem_append, List.mem_singleton]
      by_cases e : x = y
      · subst e; simp [hy]
      · simp [e]
theorem uq_nodup : ∀ (l s : List Int), (uq s l).Nodup
  | [], s => by simp [uq]
  | y :: r, s => by
    unfold uq
    by_cases hy : y ∈ s
    · rw [if_pos hy]; exact uq_nodup r s
    · rw [if_neg hy, List.nodup_cons]
      exact ⟨fun h => ((mem_uq r _).mp h).2 (by simp), uq_nodup r _⟩
theorem uq_in {x : Int} {r s : List Int} (h : x ∈ s) : uq s (x :: r) = uq s r := by
  conv => lhs; unfold uq
  rw [if_pos h]
theorem uq_out {x : Int} {r s : List Int} (h : x ∉ s) : uq s (x :: r) = x :: uq (s ++ [x]) r := by
  conv => lhs; unfold uq
  rw [if_neg h]
theorem uq_append : ∀ (l m s : List Int), uq s (l ++ m) = uq s l ++ uq (s ++ uq s l) m
  | [], m, s => by simp [uq]
  | y :: r, m, s => by
    rw [List.cons_append]
    by_cases hy : y ∈ s
    · rw [uq_in hy, uq_in hy]; exact uq_append r m s
    · rw [uq_out hy, uq_out hy, uq_append r m, List.cons_append, List.append_assoc]; rfl
theorem uq_filter {K : List Int} : ∀ (l s : List Int), (∀ x ∈ K, x ∈ s) → uq s (l.filter (notIn K)) = uq s l
  | [], s, _ => rfl
  | y :: r, s, h => by
    by_cases hy : notIn K y = true
    · rw [List.filter_cons_of_pos hy]
      unfold uq
      by_cases h1 : y ∈ s
      · rw [if_pos h1, if_pos h1]; exact uq_filter r s h
      · rw [if_neg h1, if_neg h1, uq_filter r _ fun x hx => List.mem_append_left _ (h x hx)]
    · rw [List.filter_cons_of_neg hy]
      have : y ∈ K := by
        unfold notIn at hy
        simpa using hy
      conv => rhs; unfold uq
      rw [if_pos (h y this)]
      exact uq_filter r s h
theorem uq_nil_of {l s : List Int} (h : ∀ x ∈ l, x ∈ s) : uq s l = [] := by
  cases e : uq s l with
  | nil => rfl
  | cons x r =>
    have : x ∈ uq s l := by rw [e]; exact List.mem_cons_self
    have := (mem_uq l s).mp this
    exact absurd (h x this.1) this.2
theorem uq_flat {gr : Int → List Int} : ∀ (l S T : List Int), (∀ u ∈ T, ∀ v ∈ gr u, v ∈ S) → uq S (l.flatMap gr) = uq S ((uq T l).flatMap gr)
  | [], S, T, _ => by simp [uq]
  | u :: r, S, T, h => by
    by_cases hu : u ∈ T
    · rw [uq_in hu, List.flatMap_cons, uq_append, uq_nil_of (h u hu)]
      simp only [List.nil_append, List.append_nil]
      exact uq_flat r S T h
    · rw [uq_out hu, List.flatMap_cons, List.flatMap_cons, uq_append, uq_append]
      congr 1
      refine uq_flat r _ _ fun v hv x hx => ?_
      rcases List.mem_append.mp hv with hv | hv
      · exact List.mem_append_left _ (h v hv x hx)
      · rw [List.mem_singleton.mp hv] at hx
        by_cases hxs : x ∈ S
        · exact List.mem_append_left _ hxs
        · exact List.mem_append_right _ ((mem_uq _ _).mpr ⟨hx, hxs⟩)
/-- [ns[i] for i in range(len(ns)) if ns[i] not in ns[:i]] -/
def firstAt (ns : List Int) (i : Nat) : Bool := !(ns.take i).contains (ns.getD i 0)
theorem uq_at : ∀ (l pre s : List Int), (∀ x, x ∈ s ↔ x ∈ pre) → uq s l = ((List.range l.length).filter fun i => !(pre ++ l.take i).contains (l.getD i 0)).map fun i => l.getD i 0
  | [], _, _, _ => rfl
  | x :: r, pre, s, h => by
    have e : List.range (x :: r).length = 0 :: (List.range r.length).map Nat.succ := by rw [List.length_cons, List.range_succ_eq_map]
    rw [e]
    have h0 : ∀ (p : Nat → Bool), ((List.range r.length).map Nat.succ).filter p = ((List.range r.length).filter fun i => p (i + 1)).map Nat.succ := fun p => by rw [List.filter_map]; rfl
    have tl : ∀ s', (∀ y, y ∈ s' ↔ y ∈ pre ++ [x]) → uq s' r = ((((List.range r.length).map Nat.succ).filter fun i => !(pre ++ (x :: r).take i).contains ((x :: r).getD i 0)).map fun i => (x :: r).getD i 0) := fun s' hs' => by
      rw [uq_at r (pre ++ [x]) s' hs', h0, List.map_map]
      simp only [List.append_assoc, List.singleton_append]
      congr 1
    unfold uq
    by_cases hx : x ∈ s
    · rw [if_pos hx, List.filter_cons_of_neg (by simp [(h x).mp hx])]
      exact tl s fun y => by
        rw [h y, List.mem_append, List.mem_singleton]
        constructor
        · exact .inl
        · rintro (q | rfl)
          · exact q
          · exact (h y).mp hx
    · rw [if_neg hx, List.filter_cons_of_pos (by simp; exact fun q => hx ((h x).mpr q)), List.map_cons]
      congr 1
      exact tl _ fun y => by simp only [List.mem_append, h y]
theorem uq_first (ns : List Int) : uq [] ns = ((List.range ns.length).filter (firstAt ns)).map fun i => ns.getD i 0 := by
  have := uq_at ns [] [] (fun x => Iff.rfl)
  exact this
/-! ### two sorted lists of the same members -/
theorem sorted_uniq : ∀ {l m : List Int}, l.Perm m → l.Pairwise (· ≤ ·) → m.Pairwise (· ≤ ·) → l = m
  | [], m, p, _, _ => p.nil_eq
  | x :: l, [], p, _, _ => by simpa using p.length_eq
  | x :: l, y :: m, p, h1, h2 => by
    have hx : x ∈ y :: m := p.mem_iff.mp List.mem_cons_self
    have hy : y ∈ x :: l := p.mem_iff.mpr List.mem_cons_self
    rw [List.pairwise_cons] at h1 h2
    have e : x = y := by
      rcases List.mem_cons.mp hx with q | q
      · exact q
      · rcases List.mem_cons.mp hy with q' | q'
        · exact q'.symm
        · have := h1.1 y q'; have := h2.1 x q; omega
    subst e
    rw [sorted_uniq p.cons_inv h1.2 h2.2]
theorem sorted_enc {l m : List (Int × Int)} (p : l.Perm m) (hs : Small m) (h1 : (l.map enc).Pairwise (· ≤ ·)) (h2 : (m.map enc).Pairwise (· ≤ ·)) : l = m := by
  have e := sorted_uniq (p.map enc) h1 h2
  have hl : ∀ x ∈ l, 0 ≤ x.2 ∧ x.2 < 1000 := fun x hx => hs x (p.mem_iff.mp hx)
  clear h1 h2 p
  induction l generalizing m with
  | nil => cases m with
    | nil => rfl
    | cons y m => simp at e
  | cons x l ih => cases m with
    | nil => simp at e
    | cons y m =>
      rw [List.map_cons, List.map_cons, List.cons.injEq] at e
      rw [enc_inj (hl x List.mem_cons_self) (hs y List.mem_cons_self) e.1, ih (fun z hz => hs z (List.mem_cons_of_mem _ hz)) e.2 fun z hz => hl z (List.mem_cons_of_mem _ hz)]
end Mine
end

section
open PySem PySem.W PyProof.Rows PySem.Calls
set_option maxRecDepth 100000
set_option linter.unusedVariables false
namespace Mine
section
variable {prog : Program} {w : World} {A : Around} {E : Value → Shared → Prop} {s s₀ : Shared} {mg mb : Str → Option Value} {env : Env} {as : Ads}
theorem gs_look {h : Heap} {gs : List (Int × List Int)} {kvs : List (Int × Value)} (hp : Paired (GRow prog w h) gs kvs) (hn : (gs.map (·.1)).Nodup) : ∀ g ∈ gs, ∃ S, valueAt kvs g.1 = some (.ref S) ∧ IsSet prog w h S g.2 := by
  induction hp with
  | nil => intro g hg; cases hg
  | @cons g kv r r' x _ ih =>
    intro g' hg'
    rw [List.map_cons, List.nodup_cons] at hn
    rw [valueAt_cons]
    rcases List.mem_cons.mp hg' with h1 | h1
    · subst h1
      obtain ⟨e, S, e', hS⟩ := x
      rw [if_pos e]; exact ⟨S, by rw [e'], hS⟩
    · have : kv.1 ≠ g'.1 := fun q => hn.1 (by rw [← x.1, q]; exact List.mem_map_of_mem (f := (·.1)) h1)
      rw [if_neg this]; exact ih hn.2 g' h1
theorem gs_keys {h : Heap} {gs : List (Int × List Int)} {kvs : List (Int × Value)} (hp : Paired (GRow prog w h) gs kvs) : kvs.map (·.1) = gs.map (·.1) := by
  induction hp with
  | nil => rfl
  | cons x _ ih => simp [x.1, ih]
theorem flat_fst (gs : List (Int × List Int)) (g : Int × List Int) : (flatG [g]).map (·.1) = g.2 := by
  simp [flatG, List.map_map, Function.comp_def]
theorem flat_app (a b : List (Int × List Int)) : flatG (a ++ b) = flatG a ++ flatG b := by simp [flatG]
/-- back = {at: key for key in told for at in sorted(told[key])} -/
theorem st8 {O : Addr} {gs : List (Int × List Int)} {Q : Flow → Shared → Prop} (hr : Rm A 3) (l : Law mg mb env s₀ as) (x : LSt env s₀ s) (V : VarAt s.heap env (nm "told") (.ref O)) (hO : GS prog w s.heap O gs) (hOs : (O == sysModules) = false)
    (hfn : ((flatG gs).map (·.1)).Nodup) (hgk : (gs.map (·.1)).Nodup) (hfl : (flatG gs).length ≤ 50) (hgl : gs.length ≤ 50)
    (h : ∀ D s' qs, Stp env [nm "back"] s s' → VarAt s'.heap env (nm "back") (.ref D) → DictP prog w s'.heap D qs → qs.Perm (flatG gs) → (D == sysModules) = false → s.heap.get? D = none → Q .next s') :
    wpAny (model prog w) A (exec ((dr 6).body.getD 8 (.Pass default)) env) Q E s := by
  show wpAny (model prog w) A (exec (.Assign [.Name (nm "back") ?p1] (.DictComp (.Name (nm "at") ?pa) (.Name (nm "key") ?pb) [⟨.Name (nm "key") ?p2, .Name (nm "told") ?p3, [], 0⟩, ⟨.Name (nm "at") ?p4, .Call (.Name (nm "sorted") ?p5) [.Subscript (.Name (nm "told") ?p6) (.Name (nm "key") ?p7) ?p8] [] ?p9, [], 0⟩] ?sc ?p10) ?p11) env) Q E s
  have k1 : env.kindOf (nm "told") = some .cell := l.kin _ _ (by decide) (by decide +kernel)
  have c1 : (env.cells.lookup (nm "told")).isSome = true := l.cell (by decide +kernel)
  rw [exec_Assign_Name_used _ _ _ _ (sw_trueD l.scope (by decide +kernel) (by decide +kernel) (by decide +kernel))]
  refine wpAny_bind (wpAny_standAt (wpAny_bind ?_))
  rw [arm_evalThenUse_DictComp]
  have hgl2 : ∀ i, i ≤ gs.length → (flatG (gs.take i)).length ≤ 50 := fun i _ => by
    have e : flatG gs = flatG (gs.take i) ++ flatG (gs.drop i) := by rw [← flat_app, List.take_append_drop]
    rw [e, List.length_append] at hfl; omega
  obtain ⟨kvs, hkd, hkp, hkn⟩ := hO.is
  have hkeys := gs_keys hkp
  have hkl : kvs.length = gs.length := hkp.length.symm
  refine wpAny_bind (wpAny_mono (comp_use (y := nm "back") (x := nm "key") (Q := fun s' => Q .next s') rfl rfl (by intro _; rfl) (body := innerM _ _)
    (ifs := []) ⟨fun _ _ _ => shape2d, fun _ _ _ => rfl, fun _ _ _ => rfl, fun _ _ _ => rfl, fun _ _ _ => rfl, fun _ _ _ => rfl, fun _ _ => rfl⟩ l.F x.live (by decide +kernel)
    (free_in [nm "told"] (by decide +kernel) (fun n hn => by rw [List.mem_singleton.mp hn]; exact c1)) (.inl (by decide +kernel)) (by decide +kernel) (l.kin _ _ (by decide) (by decide +kernel)) (by decide +kernel) (BAcc prog w gs) BAcc.stb (fun s₂ Q' E' x2 hq => new_dictB ((x.d l).keeps x2.kp).sys hq) ?_) (fun _ s' q => wpAny_pure (wpAny_pure q)) fun _ _ x => x)
  refine ev_name l.F.kind V ?_
  refine it_dict hr.hh hOs hkd fun I s₂ fp wr St S => ?_
  refine ⟨I, fp, wr, _, _, St, rfl, ⟨S.walks, S.st, S.fpOld, S.wrNew, fun i h hs b hb o ho ⟨xs, k, hd⟩ => ?_, S.ex, fun cenv D i v s₃ E' CE hi hP hL hV hk hAcc hOut hDn => ?_, fun D s' hDn hAcc ⟨st, hv⟩ => ?_⟩⟩
  · obtain ⟨fs, hf⟩ := S.cls i h hs b hb o ho
    rw [hf] at hd; cases hd
  · obtain ⟨t, rfl⟩ := hP
    have hi' : i < gs.length := by omega
    have hgi : (kvs.map (·.1)).getD i 0 = (gs[i]).1 := by rw [hkeys]; simp [hi']
    rw [hgi] at hV
    refine t_none ?_
    simp only [if_true]
    have D3 : Wd mg mb s₃.heap := (x.d l).keeps hk
    have V3 : VarAt s₃.heap cenv (nm "told") (.ref O) := CE.var (by decide +kernel) ((V.cellAt (by rw [k1]; decide)).keeps hk)
    obtain ⟨S', hS1, hS2⟩ := gs_look hkp hgk gs[i] (List.getElem_mem hi')
    refine inner_use rfl rfl (y := nm "at") (ifs := []) (body := dbody _ _) ⟨fun _ _ _ => rfl, fun _ _ _ => rfl, fun _ _ _ => rfl, fun _ _ _ => rfl, fun _ _ _ => rfl, fun _ _ _ => rfl, fun _ _ => rfl⟩ CE.F (.inl (CE.kin _ _ (by decide) (by decide +kernel))) (by decide +kernel) ?_
    refine ev_cB CE.F D3 CE.kin (kB_of (by decide +kernel) kv_sorted : kB _ "sorted" (.builtin "sorted") = true) (arg1 ?_)
    refine sub_dict (ev_name CE.F.kind V3 (ev_name CE.F.kind hV ⟨O, kvs, (gs[i]).1, t, .ref S', rfl, rfl, hkd.at fun o e => hk _ _ e, hS1, ?_⟩))
    have hsl : (gs[i]).2.length ≤ 50 := by
      have h1 := hgl2 (i + 1) hi'
      rw [List.take_succ_eq_append_getElem hi', flat_app, List.length_append] at h1
      have h2 : (flatG [gs[i]]).length = (gs[i]).2.length := by rw [← flat_fst gs gs[i], List.length_map]
      omega
    refine sorted_set (s := { s₃ with toks := s₃.toks + 1 }) hr.hh (hS2.at fun o e => hk _ _ e) (by omega) fun D2 s₄ ms hpm hsrt hLI hD2n x4 hg4 ht4 => ?_
    have hD2n' : s₃.heap.get? D2 = none := hD2n
    have x34 : Ex s₃ s₄ := ⟨fun b o e => x4.kp b o e, x4.gens, x4.os⟩
    obtain ⟨as', hla, hia, hal⟩ := hLI.len
    have hDex : ∃ o, s₃.heap.get? D = some o := by
      obtain ⟨_, qs, ⟨kv', ⟨o, es, ep, ho, _⟩, _⟩, _⟩ := hAcc
      exact ⟨o, ho⟩
    have hDD2 : D ≠ D2 := fun q => by obtain ⟨o, e⟩ := hDex; rw [q, hD2n'] at e; cases e
    have hNod : ((flatG (gs.take i)).map (·.1) ++ ms).Nodup := by
      have e : flatG gs = flatG (gs.take (i + 1)) ++ flatG (gs.drop (i + 1)) := by rw [← flat_app, List.take_append_drop]
      have h1 : ((flatG (gs.take (i + 1))).map (·.1)).Nodup := by rw [e, List.map_append] at hfn; exact (List.nodup_append.mp hfn).1
      rw [List.take_succ_eq_append_getElem hi', flat_app, List.map_append, flat_fst gs] at h1
      exact (hpm.symm.append_left _).nodup_iff.mp h1
    refine it_list2 hr.hh hla fun I2 s₂' fp2 St2 W2 hst2 hfp2 hI2 m2 hI2e => ?_
    have hI23 : s₃.heap.get? I2 = none := x34.none hI2
    have hDI2 : D ≠ I2 := fun q => by obtain ⟨o, e⟩ := hDex; rw [q, hI23] at e; cases e
    have x2 : ExC D env cenv s₃ s₂' := ⟨fun b o _ _ _ e => m2.all _ _ (x34.kp _ _ e), fun g => by rw [m2.gens]; exact x34.gens g, m2.os.trans x34.os, fun L => (L.keeps x34.kp).keeps m2.all⟩
    refine ⟨I2, fp2, [I2], _, _, St2, fun k s' => ((D == sysModules) = false ∧ ∃ qs, DictP prog w s'.heap D qs ∧ qs.Perm (flatG (gs.take i) ++ (ms.take k).map fun m => (m, (gs[i]).1))) ∧ Live cenv s'.heap ∧ VarAt s'.heap cenv (nm "key") (.int (gs[i]).1 t) ∧ ExC D env cenv s₃ s', rfl, W2, hst2, fun b hb => ?_,
      ⟨?_, (hL.keeps x34.kp).keeps m2.all, (hV.keeps x34.kp).keeps m2.all, x2⟩, fun k s' hj => hj.2.1, fun k v sA sB sC E'' hk' hj hP' mB LB stC => ?_, fun sA sB hj mB => ?_⟩
    · rcases hfp2 b hb with rfl | rfl
      · exact hL.out hI23
      · exact hL.out hD2n'
    · obtain ⟨hDs, qs, hd, hp⟩ := hAcc
      exact ⟨hDs, qs, hd.at fun o e => m2.all _ _ (x34.kp _ _ e), by simpa using hp⟩
    · obtain ⟨⟨hDs, qs, hd, hp⟩, hLv, hVk, hx⟩ := hj
      have hk'' : k < ms.length := by have : k < as'.toArray.size := hk'; simp at this; omega
      obtain ⟨t', hvt'⟩ := ints_get hia k (ms[k]) (List.getElem?_eq_getElem hk'')
      have hvv : v = .int (ms[k]) t' := by
        have : as'.toArray[k]? = some v := hP'
        rw [List.getElem?_toArray, hvt'] at this; exact (Option.some.inj this).symm
      subst hvv
      have htk : ms.take (k + 1) = ms.take k ++ [ms[k]] := List.take_succ_eq_append_getElem hk''
      have hdC : DictP prog w sC.heap D qs := (hd.at fun o e => mB.kp _ _ (by simpa using hDI2) e).at fun o e => stC.fs.kp _ _ hOut (fun q => nomatch q) e
      have hI2o : Out cenv I2 := hL.out hI23
      have VkB : VarAt sB.heap cenv (nm "key") (.int (gs[i]).1 t) := hVk.butOut hI2o fun b o hb e => mB.kp b o (by simpa using hb) e
      have VkC := stC.vars _ _ (by decide) VkB
      have hxB : ExC D env cenv s₃ sC := by
        refine ⟨fun b o h1 h2 h3 e => ?_, fun g => by rw [stC.gens, mB.gens]; exact hx.gens g, stC.fs.os.trans (mB.os.trans hx.os), fun _ => stC.live⟩
        have hbI : b ≠ I2 := fun q => by rw [q, hI23] at e; cases e
        refine stC.own b o h2 (fun q => ?_) (mB.kp _ _ (by simpa using hbI) (hx.kp b o h1 h2 h3 e))
        have h5 := CE.fresh _ b q (by decide +kernel)
        obtain ⟨v', o', e', _⟩ := x.live.cell _ b (h3 _ q)
        rw [h5] at e'; cases e'
      refine t_none ?_
      simp only [if_true]
      unfold dbody
      refine wpAny_bind (ev_name CE.F.kind stC.var ?_)
      refine wpAny_bind (wpAny_holding (ev_name CE.F.kind VkC ?_))
      have hql : qs.length ≤ 1000 := by
        have h1 := hp.length_eq
        rw [List.length_append, List.length_map, List.length_take] at h1
        have h2 := hgl2 i (by omega)
        have h3 := hpm.length_eq
        omega
      have hnot : ms[k] ∉ qs.map (·.1) := by
        intro hm
        have h1 : (qs.map (·.1)).Perm ((flatG (gs.take i)).map (·.1) ++ ms.take k) := by
          have := hp.map (·.1)
          rw [List.map_append, List.map_map] at this
          simpa [Function.comp_def] using this
        have h2 := h1.mem_iff.mp hm
        have h3 : ((flatG (gs.take i)).map (·.1) ++ ms.take k ++ [ms[k]]).Nodup := by
          rw [List.append_assoc, ← htk]
          exact (List.Sublist.append_left (List.take_sublist _ _) _).nodup hNod
        rw [List.nodup_append] at h3
        exact h3.2.2 _ h2 _ (List.mem_singleton_self _) rfl
      refine wpAny_bind (wpAny_standAt (wpAny_holding (dictP_set hdC hnot hql fun h' tk hd' hs' => ⟨⟨⟨hDs, _, hd', ?_⟩, stC.live.butOut hOut hs'.extBut, VkC.butOut hOut hs'.extBut, ⟨fun b o h1 h2 h3 e => hs'.extBut b o h1 (hxB.kp b o h1 h2 h3 e), hxB.gens, hxB.os, fun _ => stC.live.butOut hOut hs'.extBut⟩⟩, fun b hb o e => hs'.extBut b o ?_ e⟩)))
      · rw [htk, List.map_append, ← List.append_assoc]
        exact hp.append_right _
      · rcases hfp2 b hb with rfl | rfl
        · exact fun q => hDI2 q.symm
        · exact fun q => hDD2 q.symm
    · obtain ⟨⟨hDs, qs, hd, hp⟩, hLv, hVk, hx⟩ := hj
      refine ⟨⟨hDs, qs, hd.at fun o e => mB.kp _ _ (by simpa using hDI2) e, ?_⟩, ⟨fun b o h1 h2 h3 e => mB.kp _ _ (fun q => ?_) (hx.kp b o h1 h2 h3 e), fun g => by rw [mB.gens]; exact hx.gens g, mB.os.trans hx.os, fun L => ?_⟩⟩
      · have hz : as'.toArray.size = ms.length := by simp [hal]
        rw [hz, List.take_length] at hp
        rw [List.take_succ_eq_append_getElem hi', flat_app]
        refine hp.trans (List.Perm.append_left _ ?_)
        have : flatG [gs[i]] = (gs[i]).2.map fun m => (m, (gs[i]).1) := by simp [flatG]
        rw [this]
        exact hpm.map _
      · rw [List.mem_singleton.mp q, hI23] at e; cases e
      · exact hLv.butOut (hL.out hI23) fun b o hb e => mB.kp b o (by simpa using hb) e
  · obtain ⟨hDs, qs, hd, hp⟩ := hAcc
    refine h D s' qs st hv hd ?_ hDs hDn
    rw [hkl, List.take_length] at hp
    exact hp
end
end Mine
end

section
open PySem PySem.W PyProof.Rows PySem.Calls
set_option maxRecDepth 100000
set_option linter.unusedVariables false
namespace Mine
/-! ### plain: the groups -/
theorem grpAdd_keys : ∀ (gs : List (Int × List Int)) (k v : Int), (grpAdd gs k v).map (·.1) = ddStep (gs.map (·.1)) k
  | [], k, v => by simp [grpAdd, ddStep]
  | (k', l) :: r, k, v => by
    unfold grpAdd
    by_cases e : k' = k
    · subst e; simp [ddStep]
    · rw [if_neg e, List.map_cons, grpAdd_keys r k v, List.map_cons]
      unfold ddStep
      by_cases h : k ∈ r.map (·.1)
      · rw [if_pos h, if_pos (List.mem_cons_of_mem _ h)]
      · rw [if_neg h, if_neg (fun q => (List.mem_cons.mp q).elim (fun q => e q.symm) h)]; rfl
theorem groups_keysF : ∀ (ps : List (Int × Int)) (acc : List (Int × List Int)), (ps.foldl (fun gs p => grpAdd gs p.2 p.1) acc).map (·.1) = (ps.map (·.2)).foldl ddStep (acc.map (·.1))
  | [], _ => rfl
  | p :: r, acc => by
    rw [List.foldl_cons, groups_keysF r, grpAdd_keys]; rfl
theorem groups_keys (ps : List (Int × Int)) : (groupsOf ps).map (·.1) = dd (ps.map (·.2)) := groups_keysF ps []
theorem flat_cons (g : Int × List Int) (r : List (Int × List Int)) : flatG (g :: r) = (g.2.map fun m => (m, g.1)) ++ flatG r := rfl
theorem flat_add : ∀ (gs : List (Int × List Int)) (k v : Int), v ∉ (flatG gs).map (·.1) → (flatG (grpAdd gs k v)).Perm (flatG gs ++ [(v, k)])
  | [], k, v, _ => by simp [grpAdd, flatG]
  | (k', l) :: r, k, v, h => by
    rw [flat_cons, List.map_append, List.mem_append, not_or] at h
    have h1 : v ∉ l := fun q => h.1 (by rw [List.map_map]; simpa [Function.comp_def] using q)
    unfold grpAdd
    by_cases e : k' = k
    · subst e
      rw [if_pos rfl, if_neg h1, flat_cons, flat_cons]
      simp only [List.map_append, List.map_cons, List.map_nil, List.append_assoc]
      exact List.Perm.append_left _ List.perm_append_comm
    · rw [if_neg e, flat_cons, flat_cons, List.append_assoc]
      exact List.Perm.append_left _ (flat_add r k v h.2)
theorem flat_foldl : ∀ (ps : List (Int × Int)) (acc : List (Int × List Int)), ((flatG acc).map (·.1) ++ ps.map (·.1)).Nodup → (flatG (ps.foldl (fun gs p => grpAdd gs p.2 p.1) acc)).Perm (flatG acc ++ ps)
  | [], acc, _ => by simp
  | (v, k) :: r, acc, h => by
    have hv : v ∉ (flatG acc).map (·.1) := fun q => by
      rw [List.nodup_append] at h
      exact h.2.2 _ q _ (List.mem_cons_self ..) rfl
    have hp := flat_add acc k v hv
    have h2 : ((flatG (grpAdd acc k v)).map (·.1) ++ r.map (·.1)).Nodup := by
      refine (List.Perm.nodup_iff ?_).mp h
      have := (hp.map (·.1)).symm
      rw [List.map_append] at this
      rw [List.map_cons]
      have e : (flatG acc).map (·.1) ++ (v :: r.map (·.1)) = ((flatG acc).map (·.1) ++ [v]) ++ r.map (·.1) := by simp
      rw [e]
      exact this.append_right _
    rw [List.foldl_cons]
    refine (flat_foldl r _ h2).trans ?_
    have e : flatG acc ++ (v, k) :: r = (flatG acc ++ [(v, k)]) ++ r := by simp
    rw [e]
    exact hp.append_right _
theorem flat_groups {ps : List (Int × Int)} (h : (ps.map (·.1)).Nodup) : (flatG (groupsOf ps)).Perm ps :=
  flat_foldl ps [] (by simpa [flatG] using h)
theorem flat_filter : ∀ {gs : List (Int × List Int)}, (gs.map (·.1)).Nodup → ∀ g ∈ gs, (flatG gs).filter (fun p => p.2 == g.1) = g.2.map fun m => (m, g.1)
  | [], _, g, h => by cases h
  | g' :: r, hn, g, h => by
    rw [List.map_cons, List.nodup_cons] at hn
    rw [flat_cons, List.filter_append]
    have rest : ∀ x : Int, x ∉ r.map (·.1) → (flatG r).filter (fun p => p.2 == x) = [] := fun x hx => by
      rw [List.filter_eq_nil_iff]
      intro p hp
      unfold flatG at hp
      obtain ⟨g2, hg2, hp⟩ := List.mem_flatMap.mp hp
      obtain ⟨m, hm, rfl⟩ := List.mem_map.mp hp
      simp only [beq_iff_eq]
      exact fun q => hx (q ▸ List.mem_map_of_mem hg2)
    rcases List.mem_cons.mp h with h | h
    · subst h
      rw [rest _ hn.1, List.append_nil, List.filter_eq_self]
      intro p hp
      obtain ⟨m, hm, rfl⟩ := List.mem_map.mp hp
      simp
    · have : g'.1 ≠ g.1 := fun q => hn.1 (q ▸ List.mem_map_of_mem h)
      have e : (g'.2.map fun m => (m, g'.1)).filter (fun p => p.2 == g.1) = [] := by
        rw [List.filter_eq_nil_iff]
        intro p hp
        obtain ⟨m, hm, rfl⟩ := List.mem_map.mp hp
        simpa using this
      rw [e, List.nil_append]
      exact flat_filter hn.2 g h
theorem dd_nodup' (ns : List Int) : (dd ns).Nodup := by
  have step : ∀ (ns acc : List Int), acc.Nodup → (ns.foldl ddStep acc).Nodup := fun ns => by
    induction ns with
    | nil => intro acc h; exact h
    | cons n r ih =>
      intro acc h
      rw [List.foldl_cons]
      refine ih _ ?_
      unfold ddStep
      split
      · exact h
      · rename_i hn
        rw [List.nodup_append]
        exact ⟨h, by simp, fun a ha b hb e => hn (by rw [List.mem_singleton] at hb; rw [← hb, ← e]; exact ha)⟩
  exact step ns [] List.nodup_nil
theorem groups_nodup (ps : List (Int × Int)) : ((groupsOf ps).map (·.1)).Nodup := by rw [groups_keys]; exact dd_nodup' _
theorem groups_mem {ps : List (Int × Int)} (h : (ps.map (·.1)).Nodup) : ∀ g ∈ groupsOf ps, g.2.Perm ((ps.filter fun p => p.2 == g.1).map (·.1)) := fun g hg => by
  have h1 := flat_filter (groups_nodup ps) g hg
  have h2 := ((flat_groups h).filter (fun p => p.2 == g.1)).map (·.1)
  rw [h1, List.map_map] at h2
  simpa [Function.comp_def] using h2
theorem table_fst (sm : List Int) : (tableOf sm).map (·.1) = (List.range sm.length).map fun i : Nat => (i : Int) := by
  simp [tableOf, List.map_map, Function.comp_def]
theorem table_snd (sm : List Int) : (tableOf sm).map (·.2) = sm := by
  unfold tableOf
  rw [List.map_map]
  have := range_map sm id
  simpa [Function.comp_def] using this
theorem range_nodup (n : Nat) : ((List.range n).map fun i : Nat => (i : Int)).Nodup := by
  rw [List.nodup_iff_pairwise_ne, List.pairwise_map]
  exact List.Pairwise.imp (fun {a b} h q => h (by exact_mod_cast q)) (List.nodup_iff_pairwise_ne.mp List.nodup_range)
theorem table_nodup (sm : List Int) : ((tableOf sm).map (·.1)).Nodup := by rw [table_fst]; exact range_nodup _
theorem table_len (sm : List Int) : (tableOf sm).length = sm.length := by simp [tableOf]
theorem table_at {sm : List Int} (k : Int) : ((tableOf sm).filter fun p => p.2 == k).map (·.1) = ((List.range sm.length).filter fun i => sm.getD i 0 == k).map fun i : Nat => (i : Int) := by
  unfold tableOf
  rw [List.filter_map, List.map_map]
  rfl
end Mine
end

section
open PySem PySem.W PyProof.Rows PySem.Calls
set_option maxRecDepth 100000
set_option linter.unusedVariables false
namespace Mine
/-! ### plain: the search and the rings -/
theorem rIn_eq (L : Nat) : ∀ (row seen nx : List Int) (K : List Int → List Int → List (Int × Int)), rIn L row seen nx K = (uq seen row).map (fun x => (x, (L : Int))) ++ K (seen ++ uq seen row) (nx ++ uq seen row)
  | [], seen, nx, K => by simp [rIn, uq]
  | w :: r, seen, nx, K => by
    unfold rIn
    by_cases h : w ∈ seen
    · rw [if_pos h, uq_in h]; exact rIn_eq L r seen nx K
    · rw [if_neg h, uq_out h, rIn_eq L r]; simp
theorem covers {nodes seen : List Int} (hs : seen.Nodup) (hsub : ∀ x ∈ seen, x ∈ nodes) (hn : nodes.Nodup) (hl : seen.length = nodes.length) : ∀ x ∈ nodes, x ∈ seen := fun x hx => by
  have := perm_of_sub (l := seen) (ks := nodes) hs hsub (by omega)
  exact this.mem_iff.mp hx
theorem covers_len {nodes seen : List Int} (hs : seen.Nodup) (hsub : ∀ x ∈ seen, x ∈ nodes) (hn : nodes.Nodup) (hc : ∀ x ∈ nodes, x ∈ seen) : seen.length = nodes.length :=
  Nat.le_antisymm (nodup_len hs hsub) (nodup_len hn hc)
theorem uq_sub {nodes seen l : List Int} (hl : ∀ x ∈ l, x ∈ nodes) : ∀ x ∈ uq seen l, x ∈ nodes := fun x hx => hl x ((mem_uq l seen).mp hx).1
theorem uq_ext {seen l : List Int} (hs : seen.Nodup) : (seen ++ uq seen l).Nodup := by
  rw [List.nodup_append]
  exact ⟨hs, uq_nodup _ _, fun a ha b hb e => ((mem_uq _ _).mp hb).2 (e ▸ ha)⟩
structure GOk (nodes : List Int) (gr : Int → List Int) : Prop where
  nod : nodes.Nodup
  closed : ∀ u ∈ nodes, ∀ v ∈ gr u, v ∈ nodes
theorem flat_sub {nodes : List Int} {gr : Int → List Int} (g : GOk nodes gr) {vs : List Int} (h : ∀ v ∈ vs, v ∈ nodes) : ∀ x ∈ vs.flatMap gr, x ∈ nodes := fun x hx => by
  obtain ⟨u, hu, hx⟩ := List.mem_flatMap.mp hx
  exact g.closed u (h u hu) x hx
theorem app_sub {nodes a b : List Int} (ha : ∀ x ∈ a, x ∈ nodes) (hb : ∀ x ∈ b, x ∈ nodes) : ∀ x ∈ a ++ b, x ∈ nodes := fun x hx => (List.mem_append.mp hx).elim (ha x) (hb x)
theorem rOut_eq {nodes : List Int} {gr : Int → List Int} (g : GOk nodes gr) (L : Nat) {K : List Int → List Int → List (Int × Int)} (hK : ∀ seen nx, seen.Nodup → (∀ x ∈ seen, x ∈ nodes) → (∀ x ∈ nodes, x ∈ seen) → K seen nx = []) :
    ∀ (vs seen nx : List Int), (∀ v ∈ vs, v ∈ nodes) → seen.Nodup → (∀ x ∈ seen, x ∈ nodes) →
      rOut L nodes.length gr vs seen nx K = (uq seen (vs.flatMap gr)).map (fun x => (x, (L : Int))) ++ K (seen ++ uq seen (vs.flatMap gr)) (nx ++ uq seen (vs.flatMap gr))
  | [], seen, nx, _, _, _ => by simp [rOut, uq]
  | v :: r, seen, nx, hv, hs, hsub => by
    unfold rOut
    rw [rIn_eq]
    have hr := fun x hx => hv x (List.mem_cons_of_mem _ hx)
    have hgv : ∀ x ∈ gr v, x ∈ nodes := g.closed v (hv v List.mem_cons_self)
    have hs1 := uq_ext (l := gr v) hs
    have hsub1 := app_sub hsub (uq_sub (seen := seen) hgv)
    rw [List.flatMap_cons, uq_append, List.map_append, List.append_assoc]
    congr 1
    by_cases hl : (seen ++ uq seen (gr v)).length = nodes.length
    · rw [if_pos hl]
      have hc := covers hs1 hsub1 g.nod hl
      have e : uq (seen ++ uq seen (gr v)) (r.flatMap gr) = [] := uq_nil_of fun x hx => hc x (flat_sub g hr x hx)
      rw [e, List.append_nil, hK _ _ hs1 hsub1 hc]; rfl
    · rw [if_neg hl, rOut_eq g L hK r _ _ hr hs1 hsub1]
      simp only [List.append_assoc]
theorem rWh_nil (n : Nat) (gr : Int → List Int) (f L : Nat) (seen : List Int) : rWh n gr f L [] seen = [] := by
  cases f <;> simp [rWh]
theorem rWh_cover {nodes : List Int} {gr : Int → List Int} (g : GOk nodes gr) (f L : Nat) {nx seen : List Int} (hs : seen.Nodup) (hsub : ∀ x ∈ seen, x ∈ nodes) (hc : ∀ x ∈ nodes, x ∈ seen) (hnx : ∀ x ∈ nx, x ∈ nodes) : rWh nodes.length gr f L nx seen = [] := by
  cases f with
  | zero => rfl
  | succ f =>
    unfold rWh
    split
    · rfl
    · cases nx with
      | nil => rename_i h; exact absurd rfl h
      | cons v r =>
        unfold rOut
        rw [rIn_eq, uq_nil_of (s := seen) fun x hx => hc x (g.closed v (hnx v List.mem_cons_self) x hx)]
        simp only [List.map_nil, List.nil_append, List.append_nil]
        rw [if_pos (covers_len hs hsub g.nod hc)]
theorem rWh_step {nodes : List Int} {gr : Int → List Int} (g : GOk nodes gr) (f L : Nat) {nx seen : List Int} (hs : seen.Nodup) (hsub : ∀ x ∈ seen, x ∈ nodes) (hnx : ∀ x ∈ nx, x ∈ nodes) :
    rWh nodes.length gr (f + 1) L nx seen = (uq seen (nx.flatMap gr)).map (fun x => (x, ((L + 1 : Nat) : Int))) ++ rWh nodes.length gr f (L + 1) (uq seen (nx.flatMap gr)) (seen ++ uq seen (nx.flatMap gr)) := by
  conv => lhs; unfold rWh
  by_cases h : nx = []
  · subst h
    rw [if_pos rfl]
    simp [uq, rWh_nil]
  · rw [if_neg h]
    have key := fun (hK : ∀ seen nx, seen.Nodup → (∀ x ∈ seen, x ∈ nodes) → (∀ x ∈ nodes, x ∈ seen) → (fun seen (nx : List Int) => if nx.all (fun x => nodes.contains x) = true then rWh nodes.length gr f (L + 1) nx seen else []) seen nx = []) => rOut_eq g (L + 1) hK nx seen [] hnx hs hsub
    have ext : ∀ (vs seen nx : List Int) (K K' : List Int → List Int → List (Int × Int)), (∀ v ∈ vs, v ∈ nodes) → (∀ x ∈ nx, x ∈ nodes) → (∀ a b, (∀ x ∈ b, x ∈ nodes) → K a b = K' a b) → rOut (L + 1) nodes.length gr vs seen nx K = rOut (L + 1) nodes.length gr vs seen nx K' := fun vs => by
      induction vs with
      | nil => intro seen nx K K' _ hb hk; exact hk _ _ hb
      | cons v r ih =>
        intro seen nx K K' hv hb hk
        unfold rOut
        rw [rIn_eq, rIn_eq]
        congr 1
        have := ih (seen ++ uq seen (gr v)) (nx ++ uq seen (gr v)) K K' (fun x hx => hv x (List.mem_cons_of_mem _ hx)) (app_sub hb (uq_sub (g.closed v (hv v List.mem_cons_self)))) hk
        rw [this]
    rw [ext nx seen [] _ (fun seen (nx : List Int) => if nx.all (fun x => nodes.contains x) = true then rWh nodes.length gr f (L + 1) nx seen else []) hnx (fun x hx => nomatch hx) fun a b hb => ?_]
    · rw [key]
      · simp only [List.nil_append]
        rw [if_pos]
        rw [List.all_eq_true]
        intro x hx
        exact List.contains_iff_mem.mpr (uq_sub (flat_sub g hnx) x hx)
      · intro seen nx h1 h2 h3
        dsimp only
        split
        · rename_i h4
          rw [List.all_eq_true] at h4
          exact rWh_cover g f (L + 1) h1 h2 h3 fun x hx => List.contains_iff_mem.mp (h4 x hx)
        · rfl
    · rw [if_pos]
      rw [List.all_eq_true]
      exact fun x hx => List.contains_iff_mem.mpr (hb x hx)
theorem rWh_facts {nodes : List Int} {gr : Int → List Int} (g : GOk nodes gr) : ∀ (f L : Nat) (nx seen : List Int), seen.Nodup → (∀ x ∈ seen, x ∈ nodes) → (∀ x ∈ nx, x ∈ nodes) →
    (seen ++ (rWh nodes.length gr f L nx seen).map (·.1)).Nodup ∧ (∀ p ∈ rWh nodes.length gr f L nx seen, p.1 ∈ nodes ∧ (L : Int) + 1 ≤ p.2 ∧ p.2 ≤ (L : Int) + f) ∧ ((rWh nodes.length gr f L nx seen).map (·.2)).Pairwise (· ≤ ·)
  | 0, L, nx, seen, hs, _, _ => by simp [rWh, hs]
  | f + 1, L, nx, seen, hs, hsub, hnx => by
    rw [rWh_step g f L hs hsub hnx]
    generalize hU : uq seen (nx.flatMap gr) = U
    have hUs : ∀ x ∈ U, x ∈ nodes := by rw [← hU]; exact uq_sub (flat_sub g hnx)
    have hsU : (seen ++ U).Nodup := by rw [← hU]; exact uq_ext hs
    obtain ⟨h1, h2, h3⟩ := rWh_facts g f (L + 1) U (seen ++ U) hsU (app_sub hsub hUs) hUs
    refine ⟨?_, fun p hp => ?_, ?_⟩
    · rw [List.map_append, List.map_map, ← List.append_assoc]
      simpa [Function.comp_def] using h1
    · rcases List.mem_append.mp hp with hp | hp
      · obtain ⟨x, hx, rfl⟩ := List.mem_map.mp hp
        exact ⟨hUs x hx, by simp only; omega, by simp only; omega⟩
      · obtain ⟨a, b, c⟩ := h2 p hp
        exact ⟨a, by omega, by omega⟩
    · rw [List.map_append, List.pairwise_append]
      refine ⟨?_, h3, fun a ha b hb => ?_⟩
      · rw [List.map_map, List.pairwise_map]
        exact List.Pairwise.imp (fun {a b} _ => Int.le_refl _) (List.pairwise_of_forall (R := fun _ _ => True) fun _ _ => trivial)
      · rw [List.map_map] at ha
        obtain ⟨x, hx, rfl⟩ := List.mem_map.mp ha
        obtain ⟨q, hq, rfl⟩ := List.mem_map.mp hb
        have := (h2 q hq).2.1
        simp only [Function.comp]; omega
end Mine
end

section
open PySem PySem.W PyProof.Rows PySem.Calls
set_option maxRecDepth 100000
set_option linter.unusedVariables false
namespace Mine
/-! ### plain: the rings tell what the search tells -/
theorem uq_disj : ∀ (r K s : List Int), (∀ x ∈ r, x ∉ K) → uq (K ++ s) r = uq s r
  | [], _, _, _ => rfl
  | x :: r, K, s, h => by
    have hx := h x List.mem_cons_self
    have hr := fun y hy => h y (List.mem_cons_of_mem _ hy)
    by_cases e : x ∈ s
    · rw [uq_in e, uq_in (List.mem_append_right _ e)]; exact uq_disj r K s hr
    · rw [uq_out e, uq_out (fun q => (List.mem_append.mp q).elim hx e), List.append_assoc, uq_disj r K (s ++ [x]) hr]
theorem ringNext_eq (gr : Int → List Int) (ks us : List Int) : ringNext gr ks us = (us.flatMap gr).filter (notIn ks) := by
  unfold ringNext
  induction us with
  | nil => rfl
  | cons u r ih => rw [List.flatMap_cons, List.flatMap_cons, List.filter_append, ih]
theorem ringNext_new {gr : Int → List Int} {ks us : List Int} : ∀ x ∈ ringNext gr ks us, x ∉ ks := fun x hx => by
  rw [ringNext_eq] at hx
  have := (List.mem_filter.mp hx).2
  unfold notIn at this
  simpa using this
theorem ringNext_uq (gr : Int → List Int) (ks us : List Int) : uq [] (ringNext gr ks us) = uq ks ((uq [] us).flatMap gr) := by
  rw [← uq_disj _ ks [] ringNext_new, List.append_nil, ringNext_eq, uq_filter _ _ (fun x hx => hx), uq_flat us ks [] (fun u hu => nomatch hu)]
theorem lv_fold (lv : Int) : ∀ (r P : List Int) (L : List (Int × Int)), (∀ u ∈ r, u ∉ L.map (·.1)) → (r.foldl (fun L u => lvSet L u lv) (L ++ P.map fun x => (x, lv))) = L ++ (P ++ uq P r).map fun x => (x, lv)
  | [], P, L, _ => by simp [uq]
  | u :: r, P, L, h => by
    have hu := h u List.mem_cons_self
    have hr := fun y hy => h y (List.mem_cons_of_mem _ hy)
    have hLu : ∀ p ∈ L, p.1 ≠ u := fun p hp q => hu (q ▸ List.mem_map_of_mem hp)
    rw [List.foldl_cons]
    by_cases e : u ∈ P
    · have : lvSet (L ++ P.map fun x => (x, lv)) u lv = L ++ P.map fun x => (x, lv) := by
        unfold lvSet
        rw [if_pos]
        · rw [List.map_append]
          congr 1
          · conv => rhs; rw [← List.map_id L]
            refine List.map_congr_left fun p hp => ?_
            rw [if_neg (hLu p hp)]; rfl
          · rw [List.map_map]
            refine List.map_congr_left fun x hx => ?_
            simp only [Function.comp]
            split <;> rfl
        · rw [List.any_eq_true]
          exact ⟨(u, lv), List.mem_append_right _ (List.mem_map_of_mem e), by simp⟩
      rw [this, lv_fold lv r P L hr, uq_in e]
    · have : lvSet (L ++ P.map fun x => (x, lv)) u lv = L ++ (P ++ [u]).map fun x => (x, lv) := by
        unfold lvSet
        rw [if_neg]
        · simp
        · rw [List.any_eq_true]
          rintro ⟨p, hp, q⟩
          have q : p.1 = u := by simpa using q
          rcases List.mem_append.mp hp with hp | hp
          · exact hLu p hp q
          · obtain ⟨x, hx, rfl⟩ := List.mem_map.mp hp
            exact e (q ▸ hx)
      rw [this, lv_fold lv r (P ++ [u]) L hr, uq_out e]
      simp
theorem ringStep_fst (gr : Int → List Int) (L : List (Int × Int)) (us : List Int) (lv : Int) : (ringStep gr (L, us) lv).1 = L ++ (uq (L.map (·.1)) ((uq [] us).flatMap gr)).map fun x => (x, lv) := by
  have := lv_fold lv (ringNext gr (L.map (·.1)) us) [] L ringNext_new
  rw [ringNext_uq] at this
  simpa [ringStep] using this
theorem rings_from {nodes : List Int} {gr : Int → List Int} (g : GOk nodes gr) : ∀ (f L : Nat) (lev : List (Int × Int)) (us : List Int), (lev.map (·.1)).Nodup → (∀ x ∈ lev.map (·.1), x ∈ nodes) → (∀ x ∈ us, x ∈ nodes) →
    ((List.range f).foldl (fun st (i : Nat) => ringStep gr st (((L + i : Nat) : Int) + 1)) (lev, us)).1 = lev ++ rWh nodes.length gr f L (uq [] us) (lev.map (·.1))
  | 0, L, lev, us, _, _, _ => by simp [rWh]
  | f + 1, L, lev, us, hn, hs, hu => by
    rw [List.range_succ_eq_map, List.foldl_cons, List.foldl_map]
    have hus : ∀ x ∈ uq [] us, x ∈ nodes := uq_sub hu
    have e1 : ∀ (st : List (Int × Int) × List Int) (i : Nat), ringStep gr st (((L + Nat.succ i : Nat) : Int) + 1) = ringStep gr st ((((L + 1) + i : Nat) : Int) + 1) := fun st i => by
      congr 2; omega
    simp only [e1]
    rw [rWh_step g f L hn hs hus]
    generalize hst : ringStep gr (lev, us) (((L + 0 : Nat) : Int) + 1) = st
    obtain ⟨lev', us'⟩ := st
    have h1 : lev' = lev ++ (uq (lev.map (·.1)) ((uq [] us).flatMap gr)).map fun x => (x, ((L + 1 : Nat) : Int)) := by
      have := ringStep_fst gr lev us (((L + 0 : Nat) : Int) + 1)
      rw [hst] at this
      exact Eq.trans this (by simp)
    have h2 : us' = ringNext gr (lev.map (·.1)) us := by
      have : (ringStep gr (lev, us) (((L + 0 : Nat) : Int) + 1)).2 = ringNext gr (lev.map (·.1)) us := rfl
      rw [hst] at this; exact this
    have hU : uq [] us' = uq (lev.map (·.1)) ((uq [] us).flatMap gr) := by rw [h2, ringNext_uq]
    have hk : lev'.map (·.1) = lev.map (·.1) ++ uq (lev.map (·.1)) ((uq [] us).flatMap gr) := by
      rw [h1, List.map_append, List.map_map]; simp [Function.comp_def]
    have hsub' : ∀ x ∈ us', x ∈ nodes := fun x hx => by
      rw [h2, ringNext_eq] at hx
      exact flat_sub g hu x (List.mem_filter.mp hx).1
    rw [rings_from g f (L + 1) lev' us' (by rw [hk]; exact uq_ext hn) (by rw [hk]; exact app_sub hs (uq_sub (flat_sub g hus))) hsub', hU, hk, h1, List.append_assoc]
theorem rings_bfs {nodes : List Int} {gr : Int → List Int} (g : GOk nodes gr) {fl : List Int} (hn : fl.Nodup) (hs : ∀ x ∈ fl, x ∈ nodes) (b : Nat) : (ringsUp gr fl b).1 = bfs nodes.length gr fl b := by
  have hfl : (fl.map fun x => (x, (0 : Int))).map (·.1) = fl := by simp [List.map_map, Function.comp_def]
  have hu : uq [] fl = fl := by
    have : ∀ (l s : List Int), l.Nodup → (∀ x ∈ l, x ∉ s) → uq s l = l := fun l => by
      induction l with
      | nil => intro s _ _; rfl
      | cons x r ih =>
        intro s h1 h2
        rw [List.nodup_cons] at h1
        rw [uq_out (h2 x List.mem_cons_self), ih (s ++ [x]) h1.2 fun y hy q => ?_]
        rcases List.mem_append.mp q with q | q
        · exact h2 y (List.mem_cons_of_mem _ hy) q
        · rw [List.mem_singleton] at q; exact h1.1 (q ▸ hy)
    exact this fl [] hn fun x hx q => nomatch q
  have := rings_from g b 0 (fl.map fun x => (x, 0)) fl (by rw [hfl]; exact hn) (by rw [hfl]; exact hs) hs
  rw [hfl, hu] at this
  simp only [Nat.zero_add] at this
  exact this
theorem bfs_facts {nodes : List Int} {gr : Int → List Int} (g : GOk nodes gr) {fl : List Int} (hn : fl.Nodup) (hs : ∀ x ∈ fl, x ∈ nodes) (b : Nat) :
    ((bfs nodes.length gr fl b).map (·.1)).Nodup ∧ (∀ p ∈ bfs nodes.length gr fl b, p.1 ∈ nodes ∧ 0 ≤ p.2 ∧ p.2 ≤ b) ∧ ((bfs nodes.length gr fl b).map (·.2)).Pairwise (· ≤ ·) ∧ (bfs nodes.length gr fl b).take fl.length = fl.map (fun x => (x, 0)) ∧ (bfs nodes.length gr fl b).length ≤ nodes.length := by
  obtain ⟨h1, h2, h3⟩ := rWh_facts g b 0 fl fl hn hs hs
  have hfl : (fl.map fun x => (x, (0 : Int))).map (·.1) = fl := by simp [List.map_map, Function.comp_def]
  have k1 : ((bfs nodes.length gr fl b).map (·.1)).Nodup := by unfold bfs; rw [List.map_append, hfl]; exact h1
  have k2 : ∀ p ∈ bfs nodes.length gr fl b, p.1 ∈ nodes ∧ 0 ≤ p.2 ∧ p.2 ≤ b := fun p hp => by
    unfold bfs at hp
    rcases List.mem_append.mp hp with hp | hp
    · obtain ⟨x, hx, rfl⟩ := List.mem_map.mp hp
      exact ⟨hs x hx, by simp, by simp⟩
    · obtain ⟨a, b', c⟩ := h2 p hp
      exact ⟨a, by omega, by omega⟩
  refine ⟨k1, k2, ?_, ?_, ?_⟩
  · unfold bfs
    rw [List.map_append, List.pairwise_append]
    refine ⟨?_, h3, fun a ha b hb => ?_⟩
    · rw [List.map_map, List.pairwise_map]
      exact List.Pairwise.imp (fun {a b} _ => Int.le_refl _) (List.pairwise_of_forall (R := fun _ _ => True) fun _ _ => trivial)
    · rw [List.map_map] at ha
      obtain ⟨x, hx, rfl⟩ := List.mem_map.mp ha
      obtain ⟨q, hq, rfl⟩ := List.mem_map.mp hb
      have := (h2 q hq).2.1
      simp only [Function.comp]; omega
  · unfold bfs
    rw [List.take_append_of_le_length (by simp)]
    exact List.take_of_length_le (by simp)
  · have := nodup_len k1 (m := nodes) fun x hx => by
      obtain ⟨p, hp, rfl⟩ := List.mem_map.mp hx
      exact (k2 p hp).1
    simpa using this
theorem ring_len {nodes : List Int} {gr : Int → List Int} (g : GOk nodes gr) (hr : ∀ u ∈ nodes, (gr u).Nodup) (h6 : nodes.length ≤ 6) {fl : List Int} (hn : fl.Nodup) (hs : ∀ x ∈ fl, x ∈ nodes) (h0 : fl ≠ []) : ∀ b, (ringsUp gr fl b).2.length ≤ 6 * 5 ^ b
  | 0 => by
    show fl.length ≤ _
    have := nodup_len hn hs
    omega
  | b + 1 => by
    rw [ringsUp_succ]
    show (ringNext gr ((ringsUp gr fl b).1.map (·.1)) (ringsUp gr fl b).2).length ≤ _
    have ih := ring_len g hr h6 hn hs h0 b
    have hm := ringsUp_mem (gr := gr) hs g.closed b
    obtain ⟨s0, hs0⟩ := List.exists_mem_of_ne_nil fl h0
    have hk : s0 ∈ (ringsUp gr fl b).1.map (·.1) := by
      rw [rings_bfs g hn hs b]
      unfold bfs
      rw [List.map_append, List.map_map]
      exact List.mem_append_left _ (by simpa [Function.comp_def] using hs0)
    generalize (ringsUp gr fl b).2 = us at ih hm
    generalize (ringsUp gr fl b).1.map (·.1) = ks at hk
    have step : ∀ us : List Int, (∀ u ∈ us, u ∈ nodes) → (ringNext gr ks us).length ≤ 5 * us.length := fun us => by
      induction us with
      | nil => intro _; simp [ringNext]
      | cons u r ih =>
        intro h
        have h1 := ih fun x hx => h x (List.mem_cons_of_mem _ hx)
        have h2 : ((gr u).filter (notIn ks)).length ≤ 5 := by
          have hu := h u List.mem_cons_self
          have nd : (s0 :: (gr u).filter (notIn ks)).Nodup := by
            rw [List.nodup_cons]
            refine ⟨fun q => ?_, (List.filter_sublist).nodup (hr u hu)⟩
            have := (List.mem_filter.mp q).2
            unfold notIn at this
            simp at this
            exact this (by simpa using hk)
          have := nodup_len nd (m := nodes) fun x hx => by
            rcases List.mem_cons.mp hx with rfl | hx
            · exact hs _ hs0
            · exact g.closed u hu x (List.mem_filter.mp hx).1
          rw [List.length_cons] at this
          omega
        unfold ringNext at h1 ⊢
        rw [List.flatMap_cons, List.length_append, List.length_cons]
        omega
    have := step us hm
    rw [Nat.pow_succ]
    omega
theorem near_ok {ns : List Int} {size : Nat} {nodes : List Int} (hk : nodes = (List.range size).map fun i : Nat => (i : Int)) : GOk nodes (nearG ns size) ∧ (∀ u ∈ nodes, (nearG ns size u).Nodup) ∧ ∀ u, (nearG ns size u).length ≤ size := by
  subst hk
  refine ⟨⟨range_nodup _, fun u hu v hv => ?_⟩, fun u hu => ?_, fun u => ?_⟩
  · unfold nearG nearRow at hv
    obtain ⟨j, hj, rfl⟩ := List.mem_map.mp hv
    exact List.mem_map_of_mem (List.mem_filter.mp hj).1
  · unfold nearG nearRow
    exact ((List.filter_sublist).map _).nodup (range_nodup size)
  · unfold nearG nearRow
    rw [List.length_map]
    have := List.length_filter_le (nearBit ns u.toNat) (List.range size)
    simpa using this
end Mine
end

section
open PySem PySem.W PyProof.Rows PySem.Calls
set_option maxRecDepth 100000
set_option linter.unusedVariables false
namespace Mine
section
variable {prog : Program} {w : World} {A : Around} {E : Value → Shared → Prop} {s s₀ : Shared} {mg mb : Str → Option Value} {env : Env} {as : Ads}
theorem dictP_keys {h : Heap} {d : Addr} {ps : List (Int × Int)} {kvs : List (Int × Value)} (hp : Paired (fun (kv : Int × Value) (p : Int × Int) => kv.1 = p.1 ∧ ∃ t, kv.2 = .int p.2 t) kvs ps) : kvs.map (·.1) = ps.map (·.1) := by
  induction hp with
  | nil => rfl
  | cons x _ ih => simp [x.1, ih]
/-- if sorted(told) != sorted(set(small)) or [key for key in told if told[key] != {at for at in table if table[at] == key}] != []: return False -/
theorem st7 {S T O : Addr} {sm : List Int} {Q : Flow → Shared → Prop} (hr : Rm A 3) (l : Law mg mb env s₀ as) (x : LSt env s₀ s) (VS : VarAt s.heap env (nm "small") (.ref S)) (hS : LI s.heap S sm) (VT : VarAt s.heap env (nm "table") (.ref T)) (hT : DictP prog w s.heap T (tableOf sm)) (hTs : (T == sysModules) = false)
    (VO : VarAt s.heap env (nm "told") (.ref O)) (hO : GS prog w s.heap O (groupsOf (tableOf sm))) (hOs : (O == sysModules) = false) (hlen : sm.length ≤ 12)
    (h : ∀ s', Ex s s' → Q .next s') :
    wpAny (model prog w) A (exec ((dr 6).body.getD 7 (.Pass default)) env) Q E s := by
  show wpAny (model prog w) A (exec (.If (.BoolOp .Or [.Compare (.Call (.Name (nm "sorted") _) _ _ _) _ _ _, .Compare (.ListComp _ [⟨.Name (nm "key") _, _, [.Compare _ _ [.SetComp _ [⟨.Name (nm "at") _, _, _, 0⟩] _ _] _], 0⟩] _ _) _ _ _] _) _ [] _) env) Q E s
  obtain ⟨kvs, hkd, hkp, hkn⟩ := hO.is
  have hkeys : kvs.map (·.1) = dd sm := by rw [gs_keys hkp, groups_keys, table_snd]
  have hddl := dd_len_le sm
  have hkl : kvs.length = (dd sm).length := by rw [← hkeys, List.length_map]
  obtain ⟨vs, hl, hi, hvl⟩ := hS.len
  obtain ⟨tvs, htd, htp⟩ := hT
  have htk : tvs.map (·.1) = (List.range sm.length).map fun i : Nat => (i : Int) := by rw [dictP_keys (h := s.heap) (d := T) htp, table_fst]
  have htl : tvs.length = sm.length := by have := congrArg List.length htk; simpa using this
  have hgk := groups_nodup (tableOf sm)
  refine if_no ?_
  refine wpAny_isTrue_BoolOp (wpAny_allTrue_Or_cons (wpAny_isTrue_Compare1 ?_))
  refine ev_cB l.F (x.d l) l.kin (kB_of (by decide +kernel) kv_sorted : kB (dr 6).scope "sorted" (.builtin "sorted") = true) (arg1 (ev_name l.F.kind VO ?_))
  refine sorted_dict hr.hh hOs hkd (by omega) fun D1 s₁ ms hp1 hs1 hL1 hn1 x1 _ _ => ?_
  refine ev_cB l.F ((x.d l).keeps x1.kp) l.kin (kB_of (by decide +kernel) kv_sorted : kB (dr 6).scope "sorted" (.builtin "sorted") = true) (arg1 ?_)
  refine ev_cT l.F ((x.d l).keeps x1.kp) l.kin (kB_of (by decide +kernel) kv_set : kB (dr 6).scope "set" (.type "set") = true) (arg1 (ev_name l.F.kind (VS.keeps x1.kp) ?_))
  refine set_list hr.hh (hl.at fun o e => x1.kp _ _ e) (by simpa using hi) (by have : (13 : Nat) < scanBound := by decide
                                                                               omega) fun T2 s₂ m2 _ hn2 hS2 => ?_
  refine sorted_set hr.hh hS2 (by omega) fun D3 s₃ ms3 hp3 hs3 hL3 hn3 x3 _ _ => ?_
  have x13 : Ex s₁ s₃ := m2.ex.trans x3
  have hms : ms = ms3 := sorted_uniq (hp1.trans (by rw [hkeys]; exact hp3.symm)) hs1 hs3
  subst hms
  refine ne_LI (hL1.keeps fun b o e _ => x13.kp _ _ e) hL3 hr.u (wpAny_truthy_bool ?_)
  rw [if_neg (by simp)]
  have xa : Ex s s₃ := x1.trans x13
  clear x13 x3 x1 hn3 hL3 hS2 hn2 m2
  have L3 := x.live.keeps xa.kp
  have k1 : env.kindOf (nm "told") = some .cell := l.kin _ _ (by decide) (by decide +kernel)
  have k2 : env.kindOf (nm "table") = some .cell := l.kin _ _ (by decide) (by decide +kernel)
  have c1 : (env.cells.lookup (nm "told")).isSome = true := l.cell (by decide +kernel)
  have c2 : (env.cells.lookup (nm "table")).isSome = true := l.cell (by decide +kernel)
  refine wpAny_allTrue_Or_cons (wpAny_isTrue_Compare1 ?_)
  refine lc_eval (fun _ => false) (fun _ _ _ => True) (fun _ _ _ _ x _ => x) l.F L3 (by decide +kernel) (free_in [nm "told", nm "table"] (by decide +kernel) (fun n hn => by rcases List.mem_cons.mp hn with rfl | hn; exact c1; rw [List.mem_singleton.mp hn]; exact c2)) (.inr (by decide +kernel)) (by decide +kernel) ?_
  refine ev_name l.F.kind (VO.keeps xa.kp) ?_
  refine it_dict hr.hh hOs (hkd.at fun o e => xa.kp _ _ e) fun I s₄ fp wr St S₄ => ?_
  refine ⟨I, fp, wr, _, _, St, rfl, by rw [sizeLine_eq]; omega, S₄, fun cenv i v s₅ E'' CE hi' hP hL hV hk => ?_, fun D ys s' hDn hD hp x' => ?_⟩
  · obtain ⟨t, rfl⟩ := hP
    have hg : i < (groupsOf (tableOf sm)).length := by have := hkp.length; omega
    have hgi : (kvs.map (·.1)).getD i 0 = ((groupsOf (tableOf sm))[i]).1 := by rw [gs_keys hkp]; simp [hg]
    rw [hgi] at hV
    generalize hG : (groupsOf (tableOf sm))[i] = g at hV hgi
    have hgm : g ∈ groupsOf (tableOf sm) := by rw [← hG]; exact List.getElem_mem hg
    obtain ⟨Sg, hS1, hS2⟩ := gs_look hkp hgk g hgm
    have hk5 : ∀ b o, s.heap.get? b = some o → s₅.heap.get? b = some o := fun b o e => hk _ _ (xa.kp _ _ e)
    have VO5 : VarAt s₅.heap cenv (nm "told") (.ref O) := CE.var (by decide +kernel) ((VO.cellAt (by rw [k1]; decide)).keeps hk5)
    have VT5 : VarAt s₅.heap cenv (nm "table") (.ref T) := CE.var (by decide +kernel) ((VT.cellAt (by rw [k2]; decide)).keeps hk5)
    have kc1 : cenv.kindOf (nm "key") = some .cell := CE.kin _ _ (by decide) (by decide +kernel)
    have cc1 : (cenv.cells.lookup (nm "key")).isSome = true := CE.cell _ (by decide +kernel)
    have cc2 : (cenv.cells.lookup (nm "table")).isSome = true := by rw [(CE.free (nm "table") (by decide +kernel)).2]; exact c2
    refine t_one (wpAny_isTrue_Compare1 ?_)
    refine sub_dict (ev_name CE.F.kind VO5 (ev_name CE.F.kind hV ⟨O, kvs, g.1, t, .ref Sg, rfl, rfl, hkd.at fun o e => hk5 _ _ e, hS1, ?_⟩))
    refine sc_eval (s := { s₅ with toks := s₅.toks + 1 }) (fun j => sm.getD j 0 == g.1) (fun j => (j : Int)) CE.F hL (by decide +kernel) (free_in [nm "key", nm "table"] (by decide +kernel) (fun n hn => by rcases List.mem_cons.mp hn with rfl | hn; exact cc1; rw [List.mem_singleton.mp hn]; exact cc2)) (.inl (by decide +kernel)) (by decide +kernel) ?_
    refine ev_name CE.F.kind (s := { s₅ with toks := s₅.toks + 1 }) VT5 ?_
    refine it_dict (s := { s₅ with toks := s₅.toks + 1 }) hr.hh hTs (htd.at fun o e => hk5 _ _ e) fun I2 s₆ fp2 wr2 St2 S₆ => ?_
    refine ⟨I2, fp2, wr2, _, _, St2, rfl, by rw [htl]; have : (14 : Nat) < scanBound := by decide
                                             omega, S₆, fun i j _ _ _ _ e => by exact_mod_cast e, fun cenv2 j v2 s₇ E3 CE2 hj' hP2 hL2 hV2 hk2 => ?_, fun D2 s₈ hD2n hD2 x8 => ?_⟩
    · obtain ⟨t2, rfl⟩ := hP2
      have hj : j < sm.length := by omega
      have hjk : (tvs.map (·.1)).getD j 0 = (j : Int) := by rw [htk]; simp [hj]
      rw [hjk] at hV2
      have hk7 : ∀ b o, s.heap.get? b = some o → s₇.heap.get? b = some o := fun b o e => hk2 _ _ (hk5 _ _ e)
      have VT7 : VarAt s₇.heap cenv2 (nm "table") (.ref T) := CE2.var (by decide +kernel) ((VT5.cellAt (by rcases (CE.free (nm "table") (by decide +kernel)).1 with q | q <;> rw [q] <;> decide)).keeps hk2)
      have VK7 : VarAt s₇.heap cenv2 (nm "key") (.int g.1 t) := CE2.var (by decide +kernel) ((hV.cellAt (by rw [kc1]; decide)).keeps hk2)
      obtain ⟨t3, ht3⟩ := dictP_at htp (table_nodup sm) (k := (j : Int)) (n := sm.getD j 0) (by
        unfold tableOf
        exact List.mem_map.mpr ⟨j, List.mem_range.mpr hj, rfl⟩)
      refine t_one (wpAny_isTrue_Compare1 ?_)
      refine sub_dict (ev_name CE2.F.kind VT7 (ev_name CE2.F.kind hV2 ⟨T, tvs, (j : Int), t2, _, rfl, rfl, htd.at fun o e => hk7 _ _ e, ht3, ?_⟩))
      refine ev_name CE2.F.kind (s := { s₇ with toks := s₇.toks + 1 }) VK7 (PySem.P.eq_int (wpAny_truthy_bool ?_))
      exact ⟨rfl, Ex.toks s₇ _, fun _ => ev_name CE2.F.kind (s := { s₇ with toks := s₇.toks + 1 }) hV2 ⟨⟨t2, rfl⟩, Ex.refl _⟩⟩
    · have hSg8 : IsSet prog w s₈.heap Sg g.2 := hS2.at fun o e => x8.kp _ _ (hk5 _ _ e)
      refine ne_set hSg8 hD2 ?_ (by have := hr.u; omega) (wpAny_truthy_bool ?_)
      · rw [htl]
        have := groups_mem (table_nodup sm) g hgm
        rw [table_at] at this
        exact this
      · exact ⟨rfl, (Ex.toks s₅ _).trans x8, fun q => absurd q (by decide)⟩
  · have hy : ys = #[] := by
      have h1 := hp.length
      have h2 : ((List.range kvs.length).filter fun _ => false) = [] := List.filter_eq_nil_iff.mpr fun _ _ => by simp
      rw [h2] at h1
      apply Array.ext'
      exact List.length_eq_zero_iff.mp h1.symm
    subst hy
    refine ev_nil fun N s₉ m9 hN hNn => ?_
    refine ne_LI (ns := []) (ms := []) ⟨[], hD.at fun o e => m9.all _ _ e, .nil⟩ hN hr.u (wpAny_truthy_bool ?_)
    rw [if_neg (by simp)]
    exact wpAny_allTrue_Or_nil ⟨rfl, h _ ((xa.trans x').trans m9.ex)⟩
end
end Mine
end

section
open PySem PySem.W PyProof.Rows PySem.Calls
set_option maxRecDepth 100000
set_option linter.unusedVariables false
namespace Mine
/-- the body of the law's last loop -/
def b18 : List Stmt := match (dr 6).body.getD 18 (.Pass default) with | .For _ _ [.For _ _ b _ _] _ _ => b | _ => []
section
variable {prog : Program} {w : World} {A : Around} {E : Value → Shared → Prop} {s s₀ : Shared} {mg mb : Str → Option Value} {env : Env} {as : Ads}
theorem sub_tup {value slice : Expr} {pos : Pos} {Q : Value → Shared → Prop}
    (h : wpAny (model prog w) A (eval value env) (fun o s₁ => wpAny (model prog w) A (eval slice env) (fun i s₂ => ∃ a items k u x, o = .ref a ∧ i = .int ((k : Nat) : Int) u ∧ s₂.heap.IsTuple a items ∧ (k : Int) < 2 ^ 63 ∧ items[k]? = some x ∧ Q x s₂) E s₁) E s)
    (hs : ∀ a k u, subscripted slice false (.ref a) (.int k u) = operate [.ref a, .int k u] (getItem (.ref a) (.int k u)) := by intro _ _ _; with_unfolding_all rfl) :
    wpAny (model prog w) A (eval (.Subscript value slice pos) env) Q E s := by
  refine ev_sub (wpAny_mono h (fun o s₁ h₁ => wpAny_mono h₁ (fun i s₂ h₂ => ?_) fun _ _ x => x) fun _ _ x => x) hs
  obtain ⟨a, items, k, u, x, rfl, rfl, hl, hf, hx, hq⟩ := h₂
  have hk : k < items.size := (Array.getElem?_eq_some_iff.mp hx).1
  have hT : s₂.TypeIs (.ref a) "tuple" := let ⟨o, ho, hc, _⟩ := hl; ⟨o, ho, hc⟩
  exact ⟨a, _, u, "tuple", _, rfl, rfl, hT, slot_tuple_getitem.lookup, PyProof.Rows.getItem_tuple hl (by omega) hf (seqIndex_of (Int.natCast_nonneg _) (by omega)) (by simpa using hx) hq⟩
/-- if starts == []: continue -/
theorem i0 {S : Addr} {fl : List Int} {Q : Flow → Shared → Prop} (hr : Rm A 3) (l : Law mg mb env s₀ as) (x : LSt env s₀ s) (V : VarAt s.heap env (nm "starts") (.ref S)) (hS : LI s.heap S fl)
    (h : ∀ s', Ex s s' → (fl = [] → Q .cont s') ∧ (fl ≠ [] → Q .next s')) :
    wpAny (model prog w) A (exec (b18.getD 0 (.Pass default)) env) Q E s := by
  show wpAny (model prog w) A (exec (.If (.Compare _ _ _ _) [.Continue _] [] _) env) Q E s
  refine wpAny_If (wpAny_isTrue_Compare1 (ev_name l.F.kind V (ev_nil fun N s₁ m1 hN hNn => ?_)))
  refine eq_LI (hS.keeps fun b o e _ => m1.all _ _ e) hN hr.u (wpAny_truthy_bool ?_)
  obtain ⟨h1, h2⟩ := h s₁ m1.ex
  by_cases e : fl = []
  · rw [if_pos (by simpa using e)]
    exact wpAny_execs_cons (wpAny_Continue (h1 e))
  · rw [if_neg (by simpa using e)]
    exact wpAny_execs_nil (h2 e)
/-- handed = list(starts) -/
theorem i1 {S : Addr} {ns : List Int} {Q : Flow → Shared → Prop} (hr : Rm A 3) (l : Law mg mb env s₀ as) (x : LSt env s₀ s) (V : VarAt s.heap env (nm "starts") (.ref S)) (hS : LI s.heap S ns) (hlen : ns.length ≤ 100)
    (h : ∀ L s', Stp env [nm "handed"] s s' → VarAt s'.heap env (nm "handed") (.ref L) → LI s'.heap L ns → Q .next s') :
    wpAny (model prog w) A (exec (b18.getD 1 (.Pass default)) env) Q E s := by
  show wpAny (model prog w) A (exec (.Assign [.Name (nm "handed") _] _ _) env) Q E s
  obtain ⟨vs, hl, hi, hvl⟩ := hS.len
  refine as_l l.F l.kin (by decide +kernel) ?_
  refine ev_cT l.F (x.d l) l.kin (kB_of (by decide +kernel) kv_list : kB (dr 6).scope "list" (.type "list") = true) (arg1 (ev_name l.F.kind V ?_))
  refine ls_list hl (by simp [sizeLine_eq]; omega) fun L s₁ m1 hn hL => ?_
  refine ⟨x.live.keeps m1.all, fun s' st => ?_⟩
  have hLI : LI s₁.heap L ns := ⟨vs, hL, hi⟩
  exact h L s' (Stp.on m1.ex st.stp) st.var (hLI.keeps (st.stp.seq (x.live.keeps m1.all)))
/-- told = list(_single_shortest_path_length(near, handed, bound)) -/
theorem i2 {N H : Addr} {kvs : List (Int × Value)} {gr : Int → List Int} {fl : List Int} {b : Nat} {tb : Tok} {Q : Flow → Shared → Prop} (hr : Rm A 3) (l : Law mg mb env s₀ as) (x : LSt env s₀ s) (VN : VarAt s.heap env (nm "near") (.ref N)) (G : GraphAt prog w s.heap N kvs gr) (ok : GraphOk kvs gr) (hNs : (N == sysModules) = false)
    (VH : VarAt s.heap env (nm "handed") (.ref H)) (hH : LI s.heap H fl) (hfn : fl.Nodup) (hfs : ∀ x ∈ fl, x ∈ kvs.map (·.1)) (VB : VarAt s.heap env (nm "bound") (.int b tb)) (hB : (bfs kvs.length gr fl b).length ≤ 1000)
    (h : ∀ D s', Stp env [nm "told"] s s' → VarAt s'.heap env (nm "told") (.ref D) → LP s'.heap D (bfs kvs.length gr fl b) → Q .next s') :
    wpAny (model prog w) A (exec (b18.getD 2 (.Pass default)) env) Q E s := by
  show wpAny (model prog w) A (exec (.Assign [.Name (nm "told") _] _ _) env) Q E s
  refine as_c l.F l.kin (by decide +kernel) (by decide) (l.cell (by decide +kernel)) ?_ (by rfl)
  refine ev_cT l.F (x.d l) l.kin (kB_of (by decide +kernel) kv_list : kB (dr 6).scope "list" (.type "list") = true) (arg1 ?_)
  refine ev_cF l.F (x.d l) l.kin (by decide +kernel) (l.f3.keeps x.ex.kp) (arg_cons (ev_name l.F.kind VN (arg_cons (ev_name l.F.kind VH (arg1 (ev_name l.F.kind VB ⟨fun _ _ e => e, ?_⟩))))))
  refine bf_call hr (l.f3.keeps x.ex.kp) (x.d l) G ok hNs hH hfn hfs hB fun I s₁ x1 hlist => ?_
  refine hlist _ _ _ (hr.less (by decide)) fun D s₂ x2 hLP => ?_
  have x12 := x2
  refine ⟨x.live.keeps x12.kp, fun s' st => ?_⟩
  exact h D s' (Stp.on x12 st.stp) st.var (hLP.keeps (st.stp.seq (x.live.keeps x12.kp)))
/-- levels = _law_rings(kept, starts, bound) -/
theorem i3 {K S : Addr} {kvs : List (Int × Value)} {gr : Int → List Int} {fl : List Int} {b : Nat} {tb : Tok} {Q : Flow → Shared → Prop} (hr : Rm A 3) (l : Law mg mb env s₀ as) (x : LSt env s₀ s) (VK : VarAt s.heap env (nm "kept") (.ref K)) (G : GraphAt prog w s.heap K kvs gr) (ok : GraphOk kvs gr) (hKs : (K == sysModules) = false)
    (VS : VarAt s.heap env (nm "starts") (.ref S)) (hS : LI s.heap S fl) (hfn : fl.Nodup) (hfs : ∀ x ∈ fl, x ∈ kvs.map (·.1)) (VB : VarAt s.heap env (nm "bound") (.int b tb)) (hb : b ≤ 100)
    (hlen : ∀ b' ≤ b, (ringsUp gr fl b').2.length ≤ 100000 ∧ (ringsUp gr fl b').1.length ≤ 1000)
    (h : ∀ D s', Stp env [nm "levels"] s s' → VarAt s'.heap env (nm "levels") (.ref D) → DictP prog w s'.heap D (ringsUp gr fl b).1 → (D == sysModules) = false → s.heap.get? D = none → Q .next s') :
    wpAny (model prog w) A (exec (b18.getD 3 (.Pass default)) env) Q E s := by
  show wpAny (model prog w) A (exec (.Assign [.Name (nm "levels") _] _ _) env) Q E s
  refine as_l l.F l.kin (by decide +kernel) ?_
  refine ev_cF l.F (x.d l) l.kin (by decide +kernel) (l.f5.keeps x.ex.kp) (arg_cons (ev_name l.F.kind VK (arg_cons (ev_name l.F.kind VS (arg1 (ev_name l.F.kind VB ⟨fun _ _ e => e, ?_⟩))))))
  refine rings_call hr (l.f5.keeps x.ex.kp) (x.d l) G ok hKs hS hfn hfs hb hlen fun D s₁ x1 hD hDs hDn => ?_
  refine ⟨x.live.keeps x1.kp, fun s' st => ?_⟩
  exact h D s' (Stp.on x1 st.stp) st.var (hD.at fun o e => st.stp.old (x.live.out hDn) e) hDs hDn
theorem LP.len {h : Heap} {a : Addr} {ps : List (Int × Int)} (x : LP h a ps) : ∃ vs, h.IsList a vs.toArray ∧ PairsV h vs ps ∧ vs.length = ps.length := let ⟨vs, hl, hi⟩ := x; ⟨vs, hl, hi, hi.length⟩
/-- if sorted(told) != sorted(levels.items()) or told[:len(starts)] != [(node, 0) for node in starts]: return False -/
theorem i4 {T L S : Addr} {ps : List (Int × Int)} {fl : List Int} {Q : Flow → Shared → Prop} (hr : Rm A 3) (l : Law mg mb env s₀ as) (x : LSt env s₀ s) (VT : VarAt s.heap env (nm "told") (.ref T)) (hT : LP s.heap T ps) (VL : VarAt s.heap env (nm "levels") (.ref L)) (hL : DictP prog w s.heap L ps) (hLs : (L == sysModules) = false)
    (VS : VarAt s.heap env (nm "starts") (.ref S)) (hS : LI s.heap S fl) (hsm : Small ps) (hlen : ps.length < 50) (hfl : fl.length < 50) (htk : ps.take fl.length = fl.map fun x => (x, 0))
    (h : ∀ s', Ex s s' → Q .next s') :
    wpAny (model prog w) A (exec (b18.getD 4 (.Pass default)) env) Q E s := by
  show wpAny (model prog w) A (exec (.If (.BoolOp .Or [.Compare (.Call (.Name (nm "sorted") _) _ _ _) _ [.Call (.Name (nm "sorted") _) [.Call (.Attribute (.Name (nm "levels") _) _ _) [] [] _] _ _] _, .Compare (.Subscript _ (.Slice none (some _) none _) _) _ [.ListComp _ [⟨.Name (nm "node") _, _, [], 0⟩] _ _] _] _) _ [] _) env) Q E s
  obtain ⟨tv, hlT, hpT, htl⟩ := hT.len
  obtain ⟨vs, hl, hi, hvl⟩ := hS.len
  refine if_no ?_
  refine wpAny_isTrue_BoolOp (wpAny_allTrue_Or_cons (wpAny_isTrue_Compare1 ?_))
  refine ev_cB l.F (x.d l) l.kin (kB_of (by decide +kernel) kv_sorted : kB (dr 6).scope "sorted" (.builtin "sorted") = true) (arg1 (ev_name l.F.kind VT ?_))
  refine sorted_pairs hT (by omega) hsm fun D1 s₁ ms hp1 hs1 hL1 hn1 x1 _ _ => ?_
  refine ev_cB l.F ((x.d l).keeps x1.kp) l.kin (kB_of (by decide +kernel) kv_sorted : kB (dr 6).scope "sorted" (.builtin "sorted") = true) (arg1 ?_)
  have hD1 : DictP prog w s₁.heap L ps := hL.at fun o e => x1.kp _ _ e
  obtain ⟨lkv, hd1, _⟩ := id hD1
  refine wpAny_Call_items (knd := intKind prog w) hLs hd1 rfl rfl (fun Q' q => ev_name l.F.kind (VL.keeps x1.kp) q) ?_
  have m2 : Mv [] s₁ { s₁ with heap := s₁.heap.push { cls := .type "dict_items", data := .fields #[.ref L] } } := Mv.push s₁ _ s₁.toks
  have hv2 : ({ s₁ with heap := s₁.heap.push { cls := .type "dict_items", data := .fields #[.ref L] } } : Shared).heap.IsItemsView s₁.heap.objs.size L := ⟨_, Heap.get?_push_size _ rfl, rfl, rfl⟩
  generalize ({ s₁ with heap := s₁.heap.push { cls := .type "dict_items", data := .fields #[.ref L] } } : Shared) = s₂ at m2 hv2
  refine sorted_items hr.hh hv2 (hD1.at fun o e => m2.all _ _ e) (by omega) hsm fun D3 s₃ ms3 hp3 hs3 hL3 hn3 x3 _ _ => ?_
  have x13 : Ex s₁ s₃ := m2.ex.trans x3
  have hms : ms = ms3 := sorted_enc (hp1.trans hp3.symm) (fun p hp => hsm p (hp3.mem_iff.mp hp)) hs1 hs3
  subst hms
  refine ne_LP (hL1.keeps fun b o e _ => x13.kp _ _ e) hL3 hr.u (wpAny_truthy_bool ?_)
  rw [if_neg (by decide)]
  have xa : Ex s s₃ := x1.trans x13
  clear x13 x3 x1 hn3 hL3 hv2 m2
  have La := x.live.keeps xa.kp
  refine wpAny_allTrue_Or_cons (wpAny_isTrue_Compare1 ?_)
  refine ev_upto (ev_name l.F.kind (VT.keeps xa.kp) ?_)
  refine ev_cB l.F ((x.d l).keeps xa.kp) l.kin (kB_of (by decide +kernel) kv_len : kB (dr 6).scope "len" (.builtin "len") = true) (arg1 (ev_name l.F.kind (VS.keeps xa.kp) ?_))
  refine call_len_list (hl.at fun o e => xa.kp _ _ e) (by simp; omega) ?_
  have xb : Ex s { s₃ with toks := s₃.toks + 1 + 1 } := xa.trans (Ex.toks s₃ _)
  refine ⟨T, tv.toArray, vs.toArray.size, _, rfl, hlT.at fun o e => xa.kp _ _ e, by simp [sizeLine_eq]; omega, rfl, fun D4 s₄ m4 hn4 hl4 => ?_⟩
  have x4 : Ex s s₄ := xb.trans m4.ex
  have hLP4 : LP s₄.heap D4 (fl.map fun x => (x, 0)) := by
    rw [← htk]
    refine ⟨tv.take fl.length, by simpa [hvl] using hl4, Paired.take _ (hpT.keeps fun b o e _ => x4.kp _ _ e)⟩
  have L4 := x.live.keeps x4.kp
  refine lc_eval (fun _ => true) (fun i y h => PairV h y (fl.getD i 0, 0)) (fun _ _ _ _ x k => x.tup k) l.F L4 (by decide +kernel) (free_no (by decide +kernel)) (.inl (by decide +kernel)) (by decide +kernel) ?_
  refine ev_name l.F.kind (VS.keeps x4.kp) ?_
  refine it_list hr.hh (hl.at fun o e => x4.kp _ _ e) fun I s₅ fp wr St S₅ => ?_
  refine ⟨I, fp, wr, _, _, St, rfl, by simp [sizeLine_eq]; omega, S₅, fun cenv i v s₆ E'' CE hi' hP hLv hV hk => ?_, fun D ys s' hDn hD hp x' => ?_⟩
  · obtain ⟨hi2, t, rfl⟩ := item_at hi hP
    refine t_none ⟨rfl, Ex.refl _, fun _ => ?_⟩
    refine wpAny_Tuple_spliced (arg_cons (ev_name CE.F.kind hV (arg1 (wpAny_Constant_int ⟨by simp [sizeLine_eq], ?_⟩))))
    exact ⟨⟨_, t, _, rfl, _, Heap.get?_push_size _ rfl, rfl, 0, rfl⟩, (Ex.toks s₆ _).trans (Mv.push _ _ _).ex⟩
  · have hz : vs.toArray.size = fl.length := by simp [hvl]
    rw [hz, List.filter_eq_self.mpr (fun _ _ => rfl)] at hp
    have hps : PairsV s'.heap ys.toList (fl.map fun x => (x, 0)) := by
      have h1 := pairs_of_paired (f := fun i => (fl.getD i 0, (0 : Int))) hp
      have e : (List.range fl.length).map (fun i => (fl.getD i 0, (0 : Int))) = fl.map fun x => (x, 0) := by
        apply List.ext_getElem (by simp)
        intro i h1 h2
        simp at h1
        simp [h1]
      rw [e] at h1; exact h1
    refine ne_LP (hLP4.keeps fun b o e _ => x'.kp _ _ e) ⟨ys.toList, toList_list hD, hps⟩ hr.u (wpAny_truthy_bool ?_)
    rw [if_neg (by decide)]
    exact wpAny_allTrue_Or_nil ⟨rfl, h _ (x4.trans x')⟩
end
end Mine
end

section
open PySem PySem.W PyProof.Rows PySem.Calls
set_option maxRecDepth 100000
set_option linter.unusedVariables false
namespace Mine
section
variable {prog : Program} {w : World} {A : Around} {E : Value → Shared → Prop} {s s₀ : Shared} {mg mb : Str → Option Value} {env : Env} {as : Ads}
theorem ne_graph {N K : Addr} {kvs kvs' : List (Int × Value)} {gr : Int → List Int} {Q : Value → Shared → Prop} {k : Nat} (hr : Rm A k) (G : GraphAt prog w s.heap N kvs gr) (G' : GraphAt prog w s.heap K kvs' gr) (hk : kvs'.map (·.1) = kvs.map (·.1)) (hNs : (N == sysModules) = false) (hKs : (K == sysModules) = false)
    (h : Q (.bool false) s) : wpAny (model prog w) A (compareOp .NotEq (.ref N) (.ref K)) Q E s := by
  have hlen : kvs.length = kvs'.length := by have := congrArg List.length hk; simp at this; omega
  refine keq_ne (knd := intKind prog w) (r := true) hNs hKs G.dict G'.dict (by have := hr.u; omega) (fun _ => graph_hits G G' hk ?_) ?_
  · have := hr.un; show A.units + 1 + 64 < cLine; omega
  · rw [show (!(kvs.length == kvs'.length && true)) = false by simp [hlen]]
    exact h
theorem pair_at {h : Heap} {vs : List Value} {ps : List (Int × Int)} (hi : PairsV h vs ps) {i : Nat} {v : Value} (hv : vs.toArray[i]? = some v) : i < ps.length ∧ ∃ U t u, v = .ref U ∧ h.IsTuple U #[.int ((ps.map (·.1)).getD i 0) t, .int ((ps.map (·.2)).getD i 0) u] := by
  rw [List.getElem?_toArray] at hv
  obtain ⟨p, hp, U, t, u, rfl, ht⟩ := Paired.getL hi i v hv
  refine ⟨(List.getElem?_eq_some_iff.mp hp).1, U, t, u, rfl, ?_⟩
  have e1 : (ps.map (·.1)).getD i 0 = p.1 := by simp [hp]
  have e2 : (ps.map (·.2)).getD i 0 = p.2 := by simp [hp]
  rw [e1, e2]; exact ht
/-- if [told[at][1] for at in range(len(told))] != sorted([pair[1] for pair in told]) or handed != starts or near != kept: return False -/
theorem i5 {T S H N K : Addr} {ps : List (Int × Int)} {fl : List Int} {kvs kvs' : List (Int × Value)} {gr : Int → List Int} {Q : Flow → Shared → Prop} (hr : Rm A 3) (l : Law mg mb env s₀ as) (x : LSt env s₀ s) (VT : VarAt s.heap env (nm "told") (.ref T)) (hT : LP s.heap T ps)
    (VS : VarAt s.heap env (nm "starts") (.ref S)) (hS : LI s.heap S fl) (VH : VarAt s.heap env (nm "handed") (.ref H)) (hH : LI s.heap H fl) (VN : VarAt s.heap env (nm "near") (.ref N)) (G : GraphAt prog w s.heap N kvs gr) (VK : VarAt s.heap env (nm "kept") (.ref K)) (G' : GraphAt prog w s.heap K kvs' gr) (hk' : kvs'.map (·.1) = kvs.map (·.1)) (hNs : (N == sysModules) = false) (hKs : (K == sysModules) = false)
    (hlen : ps.length < 50) (hup : (ps.map (·.2)).Pairwise (· ≤ ·))
    (h : ∀ s', Ex s s' → Q .next s') :
    wpAny (model prog w) A (exec (b18.getD 5 (.Pass default)) env) Q E s := by
  show wpAny (model prog w) A (exec (.If (.BoolOp .Or [.Compare (.ListComp _ [⟨.Name (nm "at") _, _, [], 0⟩] _ _) _ [.Call (.Name (nm "sorted") _) [.ListComp _ [⟨.Name (nm "pair") _, _, [], 0⟩] _ _] _ _] _, .Compare _ _ _ _, .Compare _ _ _ _] _) _ [] _) env) Q E s
  obtain ⟨tv, hlT, hpT, htl⟩ := hT.len
  have k1 : env.kindOf (nm "told") = some .cell := l.kin _ _ (by decide) (by decide +kernel)
  have c1 : (env.cells.lookup (nm "told")).isSome = true := l.cell (by decide +kernel)
  refine if_no ?_
  refine wpAny_isTrue_BoolOp (wpAny_allTrue_Or_cons (wpAny_isTrue_Compare1 ?_))
  refine lc_eval (fun _ => true) (fun i y _ => ∃ t, y = .int ((ps.map (·.2)).getD i 0) t) (fun _ _ _ _ x _ => x) l.F x.live (by decide +kernel) (free_in [nm "told"] (by decide +kernel) (fun n hn => by rw [List.mem_singleton.mp hn]; exact c1)) (.inl (by decide +kernel)) (by decide +kernel) ?_
  refine ev_cT l.F (x.d l) l.kin (kB_of (by decide +kernel) kv_range : kB (dr 6).scope "range" (.type "range") = true) (arg1 ?_)
  refine ev_cB l.F (x.d l) l.kin (kB_of (by decide +kernel) kv_len : kB (dr 6).scope "len" (.builtin "len") = true) (arg1 (ev_name l.F.kind VT ?_))
  refine call_len_list hlT (by simp; omega) ?_
  refine call_range_1 ?_
  have hz : tv.toArray.size = ps.length := by simp [htl]
  refine it_range hr.hh (IsRange.new _ _ _ _ _ _ _) (by decide) (by decide) (by omega) (by rw [hz]; omega) fun I s₂ fp wr St S₂ => ?_
  have hn : (((tv.toArray.size : Nat) : Int) - (0 : Int)).toNat = ps.length := by rw [hz]; omega
  have S3 : SrcIn prog w A s s₂ I fp wr (((tv.toArray.size : Nat) : Int) - (0 : Int)).toNat (fun (i : Nat) v => ∃ t, v = .int (0 + (i : Int)) t) St := by
    refine SrcIn.on ?_ S₂
    exact ⟨fun b o e => Heap.get?_push_of_some _ e, id, rfl⟩
  refine ⟨I, fp, wr, _, _, St, rfl, by rw [hn, sizeLine_eq]; omega, S3, fun cenv i v s₃ E'' CE hi' hP hL hV hk => ?_, fun D ys s₄ hDn hD hp x4 => ?_⟩
  · have hi2 : i < ps.length := by omega
    obtain ⟨t, rfl⟩ := hP
    refine t_none ⟨rfl, Ex.refl _, fun _ => ?_⟩
    have VT3 : VarAt s₃.heap cenv (nm "told") (.ref T) := CE.var (by decide +kernel) ((VT.cellAt (by rw [k1]; decide)).keeps hk)
    have hv : ∃ v, tv.toArray[i]? = some v := ⟨tv[i]'(by omega), by simp [show i < tv.length by omega]⟩
    obtain ⟨v, hv⟩ := hv
    obtain ⟨_, U, t1, t2, rfl, hU⟩ := pair_at hpT hv
    refine sub_tup (sub_list (ev_name CE.F.kind VT3 (ev_name CE.F.kind hV ⟨T, tv.toArray, i, t, .ref U, rfl, by simp, hlT.at fun o e => hk _ _ e, by omega, hv, ?_⟩)))
    refine wpAny_Constant_int ⟨U, _, 1, _, .int ((ps.map (·.2)).getD i 0) t2, rfl, rfl, hU.at fun o e => hk _ _ e, by decide, rfl, ⟨t2, rfl⟩, Ex.toks s₃ _⟩
  · have hL4 : LI s₄.heap D (ps.map (·.2)) := by
      refine ⟨ys.toList, toList_list hD, ?_⟩
      have h1 := ints_of_paired (f := fun i => (ps.map (·.2)).getD i 0) hp
      rw [hn, List.filter_eq_self.mpr (fun _ _ => rfl)] at h1
      have e := range_map (ps.map (·.2)) id
      simp only [List.map_id, id, List.length_map] at e
      rw [e] at h1
      exact h1
    have L4 := x.live.keeps x4.kp
    refine ev_cB l.F ((x.d l).keeps x4.kp) l.kin (kB_of (by decide +kernel) kv_sorted : kB (dr 6).scope "sorted" (.builtin "sorted") = true) (arg1 ?_)
    refine lc_eval (fun _ => true) (fun i y _ => ∃ t, y = .int ((ps.map (·.2)).getD i 0) t) (fun _ _ _ _ x _ => x) l.F L4 (by decide +kernel) (free_no (by decide +kernel)) (.inl (by decide +kernel)) (by decide +kernel) ?_
    refine ev_name l.F.kind (VT.keeps x4.kp) ?_
    refine it_list hr.hh (hlT.at fun o e => x4.kp _ _ e) fun I2 s₅ fp2 wr2 St2 S₅ => ?_
    refine ⟨I2, fp2, wr2, _, _, St2, rfl, by rw [hz, sizeLine_eq]; omega, S₅, fun cenv i v s₆ E'' CE hi' hP hLv hV hk => ?_, fun D2 ys2 s₇ hDn2 hD2 hp2 x7 => ?_⟩
    · obtain ⟨_, U, t1, t2, rfl, hU⟩ := pair_at hpT hP
      refine t_none ⟨rfl, Ex.refl _, fun _ => ?_⟩
      refine sub_tup (ev_name CE.F.kind hV (wpAny_Constant_int ⟨U, _, 1, _, .int ((ps.map (·.2)).getD i 0) t2, rfl, rfl, hU.at fun o e => hk _ _ (x4.kp _ _ e), by decide, rfl, ⟨t2, rfl⟩, Ex.toks s₆ _⟩))
    · have hL7 : LI s₇.heap D2 (ps.map (·.2)) := by
        refine ⟨ys2.toList, toList_list hD2, ?_⟩
        have h1 := ints_of_paired (f := fun i => (ps.map (·.2)).getD i 0) hp2
        rw [hz, List.filter_eq_self.mpr (fun _ _ => rfl)] at h1
        have e := range_map (ps.map (·.2)) id
        simp only [List.map_id, id, List.length_map] at e
        rw [e] at h1
        exact h1
      refine sorted_list hL7 (by rw [List.length_map]; omega) fun D8 s₈ ms hpm hsm hL8 hn8 x8 _ _ => ?_
      have hms : ps.map (·.2) = ms := sorted_uniq hpm.symm hup hsm
      subst hms
      have x48 : Ex s₄ s₈ := x7.trans x8
      refine ne_LI (hL4.keeps fun b o e _ => x48.kp _ _ e) hL8 hr.u (wpAny_truthy_bool ?_)
      rw [if_neg (by simp)]
      have xs8 : Ex s s₈ := x4.trans x48
      refine wpAny_allTrue_Or_cons (wpAny_isTrue_Compare1 (ev_name l.F.kind (VH.keeps xs8.kp) (ev_name l.F.kind (VS.keeps xs8.kp) ?_)))
      refine ne_LI (hH.keeps fun b o e _ => xs8.kp _ _ e) (hS.keeps fun b o e _ => xs8.kp _ _ e) hr.u (wpAny_truthy_bool ?_)
      rw [if_neg (by simp)]
      refine wpAny_allTrue_Or_cons (wpAny_isTrue_Compare1 (ev_name l.F.kind (VN.keeps xs8.kp) (ev_name l.F.kind (VK.keeps xs8.kp) ?_)))
      refine ne_graph hr (G.keeps fun b o e _ => xs8.kp _ _ e) (G'.keeps fun b o e _ => xs8.kp _ _ e) hk' hNs hKs (wpAny_truthy_bool ?_)
      rw [if_neg (by decide)]
      exact wpAny_allTrue_Or_nil ⟨rfl, h _ xs8⟩
end
end Mine
end

section
open PySem PySem.W PyProof.Rows PySem.Calls
set_option maxRecDepth 100000
set_option linter.unusedVariables false
namespace Mine
theorem Stp.wide {env : Env} {N N' : List Str} {s s' : Shared} (x : Stp env N s s') (h : ∀ n ∈ N, n ∈ N') : Stp env N' s s' := ⟨x.fs, x.live, fun n v hn q => x.vars n v (fun h' => hn (h n h')) q⟩
/-- an iterator that is new since s moves -/
theorem Stp.mvI {env : Env} {N : List Str} {s s' s'' : Shared} {I : Addr} (x : Stp env N s s') (m : Mv [I] s' s'') (hI : s.heap.get? I = none) (hIo : Out env I) : Stp env N s s'' := by
  have k : ∀ b o, b ≠ I → s'.heap.get? b = some o → s''.heap.get? b = some o := fun b o hb e => m.kp b o (by simpa using hb) e
  exact ⟨⟨fun b o h1 h2 e => k b o (fun q => by rw [q, hI] at e; cases e) (x.fs.kp b o h1 h2 e), fun g => by rw [m.gens]; exact x.fs.gens g, m.os.trans x.fs.os⟩, x.live.butOut hIo k, fun n v hn q => (x.vars n v hn q).butOut hIo k⟩
def f18 : Stmt := match (dr 6).body.getD 18 (.Pass default) with | .For _ _ [f] _ _ => f | _ => .Pass default
/-- what stands through the law's last loop -/
structure C18 (prog : Program) (w : World) (env : Env) (N K : Addr) (kvs kvs' : List (Int × Value)) (gr : Int → List Int) (hd : Int) (size : Nat) (h : Heap) : Prop where
  vn : VarAt h env (nm "near") (.ref N)
  vk : VarAt h env (nm "kept") (.ref K)
  g : GraphAt prog w h N kvs gr
  g' : GraphAt prog w h K kvs' gr
  vh : ∃ t, VarAt h env (nm "head") (.int hd t)
  vz : ∃ t, VarAt h env (nm "size") (.int size t)
structure H18 (env : Env) (N K : Addr) (kvs kvs' : List (Int × Value)) (gr : Int → List Int) (size : Nat) : Prop where
  keys : kvs.map (·.1) = (List.range size).map fun i : Nat => (i : Int)
  keys' : kvs'.map (·.1) = kvs.map (·.1)
  ok : GraphOk kvs gr
  ok' : GraphOk kvs' gr
  gok : GOk (kvs.map (·.1)) gr
  rn : ∀ u ∈ kvs.map (·.1), (gr u).Nodup
  ns : (N == sysModules) = false
  ks : (K == sysModules) = false
  no : Out env N
  ko : Out env K
  z1 : 1 ≤ size
  z6 : size ≤ 6
def n18 : List Str := [nm "starts", nm "bound", nm "told", nm "handed", nm "levels"]
section
variable {prog : Program} {w : World} {A : Around} {E : Value → Shared → Prop} {s s₀ : Shared} {mg mb : Str → Option Value} {env : Env} {as : Ads} {N K : Addr} {kvs kvs' : List (Int × Value)} {gr : Int → List Int} {hd : Int} {size : Nat}
theorem C18.ex {s s' : Shared} (C : C18 prog w env N K kvs kvs' gr hd size s.heap) (x : Ex s s') : C18 prog w env N K kvs kvs' gr hd size s'.heap :=
  ⟨C.vn.keeps x.kp, C.vk.keeps x.kp, C.g.keeps fun b o e _ => x.kp _ _ e, C.g'.keeps fun b o e _ => x.kp _ _ e, let ⟨t, v⟩ := C.vh; ⟨t, v.keeps x.kp⟩, let ⟨t, v⟩ := C.vz; ⟨t, v.keeps x.kp⟩⟩
theorem C18.stp {s s' : Shared} {M : List Str} (C : C18 prog w env N K kvs kvs' gr hd size s.heap) (H : H18 env N K kvs kvs' gr size) (L : Live env s.heap) (st : Stp env M s s') (hM : ∀ n ∈ M, n ∈ n18) : C18 prog w env N K kvs kvs' gr hd size s'.heap := by
  have nm1 : ∀ n, n ∉ n18 → n ∉ M := fun n h q => h (hM n q)
  refine ⟨st.vars _ _ (nm1 _ (by decide)) C.vn, st.vars _ _ (nm1 _ (by decide)) C.vk, C.g.keeps fun b o e hb => ?_, C.g'.keeps fun b o e hb => ?_, let ⟨t, v⟩ := C.vh; ⟨t, st.vars _ _ (nm1 _ (by decide)) v⟩, let ⟨t, v⟩ := C.vz; ⟨t, st.vars _ _ (nm1 _ (by decide)) v⟩⟩
  · rcases hb with rfl | hb
    · exact st.old H.no e
    · exact st.seq L b o e hb
  · rcases hb with rfl | hb
    · exact st.old H.ko e
    · exact st.seq L b o e hb
/-- one turn of the law's last loop -/
theorem body18 {S : Addr} {fl : List Int} {b : Nat} {tb : Tok} {Q : Flow → Shared → Prop} (hr : Rm A 3) (l : Law mg mb env s₀ as) (x : LSt env s₀ s) (H : H18 env N K kvs kvs' gr size) (C : C18 prog w env N K kvs kvs' gr hd size s.heap)
    (VS : VarAt s.heap env (nm "starts") (.ref S)) (hS : LI s.heap S fl) (hfn : fl.Nodup) (hfs : ∀ x ∈ fl, x ∈ kvs.map (·.1)) (VB : VarAt s.heap env (nm "bound") (.int b tb)) (hb : b ≤ 6)
    (h : ∀ s', Stp env [nm "told", nm "handed", nm "levels"] s s' → Q .next s' ∧ Q .cont s') : wpAny (model prog w) A (execs b18 env) Q E s := by
  have e : b18 = [b18.getD 0 (.Pass default), b18.getD 1 (.Pass default), b18.getD 2 (.Pass default), b18.getD 3 (.Pass default), b18.getD 4 (.Pass default), b18.getD 5 (.Pass default)] := rfl
  have hkz : (kvs.map (·.1)).length = kvs.length := List.length_map ..
  have hk6 : (kvs.map (·.1)).length ≤ 6 := by rw [H.keys]; simpa using H.z6
  obtain ⟨f1, f2, f3, f4, f5⟩ := bfs_facts H.gok hfn hfs b
  have hrb : ∀ b, (ringsUp gr fl b).1 = bfs (kvs.map (·.1)).length gr fl b := rings_bfs H.gok hfn hfs
  have hfl : fl.length ≤ 6 := Nat.le_trans (nodup_len hfn hfs) hk6
  rw [hkz] at f1 f2 f3 f4 f5 hrb
  rw [e]
  refine wpAny_execs_cons (i0 hr l x VS hS fun s₁ x1 => ⟨fun he => ?_, fun he => ?_⟩)
  · exact (h s₁ ((Stp.ex x.live x1).wide fun n hn => nomatch hn)).2
  have y1 := x.exs x1
  have C1 := C.ex x1
  have VS1 := VS.keeps x1.kp
  have hS1 : LI s₁.heap S fl := hS.keeps fun b o e _ => x1.kp _ _ e
  refine wpAny_execs_cons (i1 hr l y1 VS1 hS1 (by omega) fun Hn s₂ st2 VH2 hH2 => ?_)
  have y2 := y1.stp l st2
  have C2 := C1.stp H y1.live st2 (by decide)
  have VS2 := st2.vars _ _ (by decide) VS1
  have VB2 := st2.vars _ _ (by decide) (VB.keeps x1.kp)
  have hS2 : LI s₂.heap S fl := hS1.keeps (st2.seq y1.live)
  refine wpAny_execs_cons (i2 hr l y2 C2.vn C2.g H.ok H.ns VH2 hH2 hfn hfs VB2 (by omega) fun T s₃ st3 VT3 hT3 => ?_)
  have y3 := y2.stp l st3
  have C3 := C2.stp H y2.live st3 (by decide)
  have VS3 := st3.vars _ _ (by decide) VS2
  have VB3 := st3.vars _ _ (by decide) VB2
  have VH3 := st3.vars _ _ (by decide) VH2
  have hS3 : LI s₃.heap S fl := hS2.keeps (st3.seq y2.live)
  have hH3 : LI s₃.heap Hn fl := hH2.keeps (st3.seq y2.live)
  refine wpAny_execs_cons (i3 hr l y3 C3.vk C3.g' H.ok' H.ks VS3 hS3 hfn (fun z hz => by rw [H.keys']; exact hfs z hz) VB3 (by omega) (fun b' hb' => ⟨?_, ?_⟩) fun L s₄ st4 VL4 hL4 hLs hLn => ?_)
  · have h1 := ring_len H.gok H.rn hk6 hfn hfs he b'
    have h2 : 5 ^ b' ≤ 5 ^ 6 := Nat.pow_le_pow_right (by decide) (by omega)
    have h3 : (5 : Nat) ^ 6 = 15625 := by decide
    omega
  · have := (bfs_facts H.gok hfn hfs b').2.2.2.2
    rw [rings_bfs H.gok hfn hfs b']
    omega
  have y4 := y3.stp l st4
  have C4 := C3.stp H y3.live st4 (by decide)
  have VS4 := st4.vars _ _ (by decide) VS3
  have VH4 := st4.vars _ _ (by decide) VH3
  have VT4 := st4.vars _ _ (by decide) VT3
  have hS4 : LI s₄.heap S fl := hS3.keeps (st4.seq y3.live)
  have hH4 : LI s₄.heap Hn fl := hH3.keeps (st4.seq y3.live)
  have hT4 := hT3.keeps (st4.seq y3.live)
  rw [hrb] at hL4
  have hsm : Small (bfs kvs.length gr fl b) := fun p hp => ⟨(f2 p hp).2.1, by have := (f2 p hp).2.2; omega⟩
  refine wpAny_execs_cons (i4 hr l y4 VT4 hT4 VL4 hL4 hLs VS4 hS4 hsm (by omega) (by omega) f4 fun s₅ x5 => ?_)
  have y5 := y4.exs x5
  have C5 := C4.ex x5
  refine wpAny_execs_cons (i5 hr l y5 (VT4.keeps x5.kp) (hT4.keeps fun b o e _ => x5.kp _ _ e) (VS4.keeps x5.kp) (hS4.keeps fun b o e _ => x5.kp _ _ e) (VH4.keeps x5.kp) (hH4.keeps fun b o e _ => x5.kp _ _ e) C5.vn C5.g C5.vk C5.g' H.keys' H.ns H.ks (by omega) f3 fun s₆ x6 => ?_)
  refine wpAny_execs_nil (h s₆ ?_).1
  exact ((Stp.on x1 (((st2.trans st3).trans st4).then (x5.trans x6))).wide (by decide))
end
end Mine
end

section
open PySem PySem.W PyProof.Rows PySem.Calls
set_option maxRecDepth 100000
set_option linter.unusedVariables false
namespace Mine
section
variable {prog : Program} {w : World} {A : Around} {E : Value → Shared → Prop} {s s₀ : Shared} {mg mb : Str → Option Value} {env : Env} {as : Ads} {N K : Addr} {kvs kvs' : List (Int × Value)} {gr : Int → List Int} {hd : Int} {size : Nat}
theorem i_fdiv6 {a : Int} {t u : Tok} {Q : Value → Shared → Prop} (h : Q (.int (a.fdiv 6) s.toks) { s with toks := s.toks + 1 }) : wpAny (model prog w) A (binaryOp .FloorDiv (.int a t) (.int 6 u)) Q E s :=
  AutoIntOps.floordiv_1 (by decide) (by intro hq; unfold Builtin.divisionGoesByPylong at hq; dsimp only at hq; rw [Bool.and_eq_true] at hq; exact absurd hq.1 (by decide +kernel)) h
theorem ev_tup {es : List Expr} {k : Nat} {pos : Pos} {Q : Value → Shared → Prop} (h : wpAny (model prog w) A (spliced (backTo pos (starEach es env))) (fun vs s₁ => vs.length ≤ sizeLine ∧ ∀ T s', Mv [] s₁ s' → s'.heap.IsTuple T vs.toArray → s₁.heap.get? T = none → Q (.ref T) s') E s) :
    wpAny (model prog w) A (eval (.Tuple es k pos) env) Q E s :=
  wpAny_Tuple_spliced (wpAny_mono h (fun vs s₁ h₁ => ⟨h₁.1, h₁.2 _ _ (Mv.push s₁ _ s₁.toks) ⟨_, Heap.get?_push_size _ rfl, rfl, 0, rfl⟩ (fresh_size _)⟩) fun _ _ x => x)
/-- for bound in (0, 1, 2, size): .. -/
theorem inner18 {S : Addr} {fl : List Int} {Q : Flow → Shared → Prop} (hr : Rm A 3) (l : Law mg mb env s₀ as) (x : LSt env s₀ s) (H : H18 env N K kvs kvs' gr size) (C : C18 prog w env N K kvs kvs' gr hd size s.heap)
    (VS : VarAt s.heap env (nm "starts") (.ref S)) (hS : LI s.heap S fl) (hfn : fl.Nodup) (hfs : ∀ x ∈ fl, x ∈ kvs.map (·.1))
    (h : ∀ s', Stp env [nm "bound", nm "told", nm "handed", nm "levels"] s s' → Q .next s') : wpAny (model prog w) A (exec f18 env) Q E s := by
  show wpAny (model prog w) A (exec (.For (.Name (nm "bound") _) (.Tuple [.Constant (.int 0) _ _, .Constant (.int 1) _ _, .Constant (.int 2) _ _, .Name (nm "size") _] _ _) b18 [] _) env) Q E s
  obtain ⟨tz, Vz⟩ := C.vz
  refine for_src l.F (.inl (l.kin _ _ (by decide) (by decide +kernel))) (by decide) ?_
  refine ev_tup (arg_cons (wpAny_Constant_int (arg_cons (wpAny_Constant_int (arg_cons (wpAny_Constant_int (arg1 (ev_name l.F.kind Vz ⟨by simp [sizeLine_eq], fun T4 s₁ m1 hT hTn' => ?_⟩))))))))
  have x1 : Ex s s₁ := (Ex.toks s _).trans m1.ex
  have hTn : s.heap.get? T4 = none := hTn'
  have L1 := x.live.keeps x1.kp
  refine it_tuple2 hr.hh hT fun I s₂ fp St W hst hfp hI m2 hIc => ?_
  have hIo : Out env I := L1.out hI
  have hfo : ∀ b ∈ fp, Out env b := fun b hb => by
    rcases hfp b hb with rfl | rfl
    · exact hIo
    · exact x.live.out hTn
  have y1 := x.exs x1
  refine ⟨I, fp, [I], _, _, St, fun i s' => Stp env [nm "bound", nm "told", nm "handed", nm "levels"] s₁ s', rfl, W, hst, hfo, (Stp.ex L1 m2.ex).wide (fun n hn => nomatch hn), fun i s' j => j.live, fun i v s₃ s₄ s₅ E' hi hJ hS' hP m4 L4 st5 => ?_, fun s₃ s₄ hJ hS' m4 => ?_⟩
  · have j4 := hJ.mvI m4 hI hIo
    have j5 : Stp env [nm "bound", nm "told", nm "handed", nm "levels"] s₁ s₅ := (j4.trans st5.stp).wide (by decide)
    have y5 := y1.stp l j5
    have C5 := (C.ex x1).stp H L1 j5 (by decide)
    have VS5 := j5.vars _ _ (by decide) (VS.keeps x1.kp)
    have hS5 : LI s₅.heap S fl := (hS.keeps fun b o e _ => x1.kp _ _ e).keeps (j5.seq L1)
    have hv : ∃ (b : Nat) (t : Tok), v = .int (b : Int) t ∧ b ≤ 6 := by
      have hi4 : i < 4 := hi
      match i, hi4, hP with
      | 0, _, hP => exact ⟨0, _, (Option.some.inj hP).symm, by decide⟩
      | 1, _, hP => exact ⟨1, _, (Option.some.inj hP).symm, by decide⟩
      | 2, _, hP => exact ⟨2, _, (Option.some.inj hP).symm, by decide⟩
      | 3, _, hP => exact ⟨size, _, (Option.some.inj hP).symm, H.z6⟩
    obtain ⟨b, t, rfl, hb⟩ := hv
    refine body18 hr l y5 H C5 VS5 hS5 hfn hfs st5.var hb fun s₆ st6 => ?_
    have fin : Stp env [nm "bound", nm "told", nm "handed", nm "levels"] s₁ s₆ ∧ ∀ b ∈ fp, ∀ o, s₅.heap.get? b = some o → s₆.heap.get? b = some o := ⟨(j5.trans st6).wide (by decide), fun b hb o e => st6.old (hfo b hb) e⟩
    exact ⟨fin, fin⟩
  · exact h s₄ (Stp.on x1 (hJ.mvI m4 hI hIo))
/-- the nodes to begin with -/
def fl1 (hd : Int) (size : Nat) : List Int := [(hd.fdiv 6).fmod size]
def fl2 (hd : Int) (size : Nat) : List Int := ((List.range size).filter fun j : Nat => (j : Int).fmod 3 == (hd.fdiv 6).fmod 3).map fun j : Nat => (j : Int)
theorem fl1_ok (H : H18 env N K kvs kvs' gr size) : (fl1 hd size).Nodup ∧ ∀ x ∈ fl1 hd size, x ∈ kvs.map (·.1) := by
  refine ⟨by simp [fl1], fun x hx => ?_⟩
  have hz := H.z1
  rw [List.mem_singleton.mp hx, H.keys]
  have h1 := Int.fmod_nonneg_of_pos (hd.fdiv 6) (show (0 : Int) < size by omega)
  have h2 := Int.fmod_lt_of_pos (hd.fdiv 6) (show (0 : Int) < size by omega)
  exact List.mem_map.mpr ⟨((hd.fdiv 6).fmod size).toNat, List.mem_range.mpr (by omega), by omega⟩
theorem fl2_ok (H : H18 env N K kvs kvs' gr size) : (fl2 hd size).Nodup ∧ ∀ x ∈ fl2 hd size, x ∈ kvs.map (·.1) := by
  refine ⟨((List.filter_sublist).map _).nodup (range_nodup size), fun x hx => ?_⟩
  rw [H.keys]
  obtain ⟨j, hj, rfl⟩ := List.mem_map.mp hx
  exact List.mem_map_of_mem (List.mem_filter.mp hj).1
/-- for starts in ([head // 6 % size], [node for node in range(size) if node % 3 == head // 6 % 3]): .. -/
theorem st18 {Q : Flow → Shared → Prop} (hr : Rm A 3) (l : Law mg mb env s₀ as) (x : LSt env s₀ s) (H : H18 env N K kvs kvs' gr size) (C : C18 prog w env N K kvs kvs' gr hd size s.heap)
    (h : ∀ s', Stp env n18 s s' → Q .next s') : wpAny (model prog w) A (exec ((dr 6).body.getD 18 (.Pass default)) env) Q E s := by
  show wpAny (model prog w) A (exec (.For (.Name (nm "starts") _) (.Tuple [.List [.BinOp (.BinOp (.Name (nm "head") _) .FloorDiv (.Constant (.int 6) _ _) _) .Mod (.Name (nm "size") _) _] _, .ListComp _ [⟨.Name (nm "node") _, _, _, 0⟩] _ _] _ _) [f18] [] _) env) Q E s
  obtain ⟨tz, Vz⟩ := C.vz
  obtain ⟨th, Vh⟩ := C.vh
  have hz1 := H.z1
  have hz6 := H.z6
  have k1 : env.kindOf (nm "head") = some .cell := l.kin _ _ (by decide) (by decide +kernel)
  have c1 : (env.cells.lookup (nm "head")).isSome = true := l.cell (by decide +kernel)
  refine for_src l.F (.inl (l.kin _ _ (by decide) (by decide +kernel))) (by decide) ?_
  refine ev_tup (arg_cons (ev_one ?_))
  refine wpAny_BinOp (wpAny_BinOp (ev_name l.F.kind Vh (wpAny_Constant_int (i_fdiv6 (ev_name l.F.kind (s := { s with toks := s.toks + 1 + 1 }) Vz (i_mod (by omega) ?_))))))
  have xa : Ex s { s with toks := s.toks + 1 + 1 + 1 } := Ex.toks s _
  intro L1 s₂ m2 hL1 hL1n
  have x2 : Ex s s₂ := xa.trans m2.ex
  have hL1n' : s.heap.get? L1 = none := hL1n
  have hI1 : LI s₂.heap L1 (fl1 hd size) := ⟨[_], hL1, .cons _ _ .nil⟩
  refine arg1 ?_
  refine lc_eval (fun j => (j : Int).fmod 3 == (hd.fdiv 6).fmod 3) (fun j y _ => ∃ t, y = .int (j : Int) t) (fun _ _ _ _ x _ => x) l.F (x.live.keeps x2.kp) (by decide +kernel) (free_in [nm "head"] (by decide +kernel) (fun n hn => by rw [List.mem_singleton.mp hn]; exact c1)) (.inl (by decide +kernel)) (by decide +kernel) ?_
  refine ev_cT l.F ((x.d l).keeps x2.kp) l.kin (kB_of (by decide +kernel) kv_range : kB (dr 6).scope "range" (.type "range") = true) (arg1 (ev_name l.F.kind (Vz.keeps x2.kp) ?_))
  refine call_range_1 ?_
  refine it_range hr.hh (IsRange.new _ _ _ _ _ _ _) (by decide) (by decide) (by omega) (by omega) fun I s₃ fp wr St S₃ => ?_
  have hn : ((size : Int) - (0 : Int)).toNat = size := by omega
  have S4 : SrcIn prog w A s₂ s₃ I fp wr ((size : Int) - (0 : Int)).toNat (fun (i : Nat) v => ∃ t, v = .int (0 + (i : Int)) t) St := by
    refine SrcIn.on ?_ S₃
    exact ⟨fun b o e => Heap.get?_push_of_some _ e, id, rfl⟩
  refine ⟨I, fp, wr, _, _, St, rfl, by rw [hn, sizeLine_eq]; omega, S4, fun cenv i v s₅ E'' CE hi' hP hLv hV hk => ?_, fun D ys s₆ hDn hD hp x6 => ?_⟩
  · obtain ⟨t, rfl⟩ := hP
    have hV' : VarAt s₅.heap cenv (nm "node") (.int (i : Int) t) := by simpa using hV
    have VH5 : VarAt s₅.heap cenv (nm "head") (.int hd th) := CE.var (by decide +kernel) ((Vh.cellAt (by rw [k1]; decide)).keeps fun b o e => hk _ _ (x2.kp _ _ e))
    refine t_one (wpAny_isTrue_Compare1 (wpAny_BinOp (ev_name CE.F.kind hV' (wpAny_Constant_int (i_mod (by decide) ?_)))))
    refine wpAny_BinOp (wpAny_BinOp (ev_name CE.F.kind (s := { s₅ with toks := s₅.toks + 1 + 1 }) VH5 (wpAny_Constant_int (i_fdiv6 (wpAny_Constant_int (i_mod (by decide) (PySem.P.eq_int (wpAny_truthy_bool ?_))))))))
    exact ⟨rfl, ⟨fun b o e => e, id, rfl⟩, fun _ => ev_name CE.F.kind hV' ⟨⟨t, rfl⟩, Ex.refl _⟩⟩
  · have hI2 : LI s₆.heap D (fl2 hd size) := by
      refine ⟨ys.toList, toList_list hD, ?_⟩
      have h1 := ints_of_paired (f := fun j => (j : Int)) hp
      rw [hn] at h1
      exact h1
    have x26 : Ex s s₆ := x2.trans x6
    have hDn' : s.heap.get? D = none := x2.none hDn
    have hI1' : LI s₆.heap L1 (fl1 hd size) := hI1.keeps fun b o e _ => x6.kp _ _ e
    refine ⟨by simp [sizeLine_eq], fun T s₁ m1 hT hTn' => ?_⟩
    have x1 : Ex s s₁ := x26.trans m1.ex
    have hTn : s.heap.get? T = none := x26.none hTn'
    have hA1 : LI s₁.heap L1 (fl1 hd size) := hI1'.keeps fun b o e _ => m1.all _ _ e
    have hA2 : LI s₁.heap D (fl2 hd size) := hI2.keeps fun b o e _ => m1.all _ _ e
    have L1' := x.live.keeps x1.kp
    refine it_tuple2 hr.hh hT fun I2 s₂' fp2 St2 W2 hst2 hfp2 hI2n m2' hIc => ?_
    have hIo : Out env I2 := L1'.out hI2n
    have hfo : ∀ b ∈ fp2, Out env b := fun b hb => by
      rcases hfp2 b hb with rfl | rfl
      · exact hIo
      · exact x.live.out hTn
    have y1 := x.exs x1
    refine ⟨I2, fp2, [I2], _, _, St2, fun i s' => Stp env n18 s₁ s', rfl, W2, hst2, hfo, (Stp.ex L1' m2'.ex).wide (fun n hn => nomatch hn), fun i s' j => j.live, fun i v s₃ s₄ s₅ E' hi hJ hS' hP m4 L4 st5 => ?_, fun s₃ s₄ hJ hS' m4 => ?_⟩
    · have j4 := hJ.mvI m4 hI2n hIo
      have j5 : Stp env n18 s₁ s₅ := (j4.trans st5.stp).wide (by decide)
      have y5 := y1.stp l j5
      have C5 := (C.ex x1).stp H L1' j5 (fun n hn => hn)
      have hv : ∃ (S : Addr) (fl : List Int), v = .ref S ∧ LI s₅.heap S fl ∧ fl.Nodup ∧ ∀ x ∈ fl, x ∈ kvs.map (·.1) := by
        have hi4 : i < 2 := hi
        match i, hi4, hP with
        | 0, _, hP => exact ⟨L1, _, (Option.some.inj hP).symm, hA1.keeps (j5.seq L1'), fl1_ok H⟩
        | 1, _, hP => exact ⟨D, _, (Option.some.inj hP).symm, hA2.keeps (j5.seq L1'), fl2_ok H⟩
      obtain ⟨S, fl, rfl, hS5, hfn, hfs⟩ := hv
      refine wpAny_execs_cons (inner18 hr l y5 H C5 st5.var hS5 hfn hfs fun s₆ st6 => wpAny_execs_nil ?_)
      exact ⟨(j5.trans st6).wide (by decide), fun b hb o e => st6.old (hfo b hb) e⟩
    · exact h s₄ (Stp.on x1 (hJ.mvI m4 hI2n hIo))
end
end Mine
end

section
open PySem PySem.W PyProof.Rows PySem.Calls
set_option maxRecDepth 100000
set_option linter.unusedVariables false
namespace Mine
/-- the body of the law's first loop -/
def b2 : List Stmt := match (dr 6).body.getD 2 (.Pass default) with | .For _ _ b _ _ => b | _ => []
theorem zip_steps (ns : List Int) : (List.range (ns.length - 1)).map (fun i => (ns.getD i 0, ns.getD (i + 1) 0)) = ns.zip (ns.drop 1) := by
  apply List.ext_getElem
  · simp
  · intro i h1 h2
    simp at h1
    have e1 : i < ns.length := by omega
    have e2 : i + 1 < ns.length := by omega
    simp [e1, e2]
theorem zip_round {ns : List Int} (h : ns ≠ []) : ns.zip (ns.drop 1) ++ [(ns.getD (ns.length - 1) 0, ns.getD 0 0)] = ns.zip (ns.drop 1 ++ ns.take 1) := by
  have hp : 0 < ns.length := List.length_pos_iff.mpr h
  apply List.ext_getElem
  · simp; omega
  · intro i h1 h2
    simp at h1 h2
    by_cases hi : i < ns.length - 1
    · rw [List.getElem_append_left (by simp; omega)]
      simp only [List.getElem_zip, Prod.mk.injEq, true_and]
      rw [List.getElem_append_left (by simp; omega)]
    · have hi' : i = ns.length - 1 := by omega
      subst hi'
      rw [List.getElem_append_right (by simp)]
      simp only [List.getElem_zip]
      rw [List.getElem_append_right (by simp)]
      have e1 : ns.length - 1 < ns.length := by omega
      simp [e1, hp]
theorem Stp.exW {env : Env} {N : List Str} {s s' s'' : Shared} {W : List Addr} (x : Stp env N s s') (m : ExW W s' s'') (hW : ∀ b ∈ W, s.heap.get? b = none) (hWo : ∀ b ∈ W, Out env b) : Stp env N s s'' :=
  ⟨⟨fun b o h1 h2 e => m.kp b o (fun q => by rw [hW b q] at e; cases e) (x.fs.kp b o h1 h2 e), fun g => m.gens (x.fs.gens g), m.os.trans x.fs.os⟩, x.live.butW hWo m, fun n v hn q => (x.vars n v hn q).butW hWo m⟩
section
variable {prog : Program} {w : World} {A : Around} {E : Value → Shared → Prop} {s s₀ : Shared} {mg mb : Str → Option Value} {env : Env} {as : Ads}
/-- for handed in (list(numbers), tuple(numbers), iter(numbers)): .. -/
theorem handed_for {S : Addr} {vs : List Value} {ns : List Int} {px q1 q2 q3 q4 q5 q6 q7 q8 q9 q10 q11 : Pos} {k : Nat} {body : List Stmt} {Q : Flow → Shared → Prop} (hr : Rm A 3) (l : Law mg mb env s₀ as) (x : LSt env s₀ s) (VN : VarAt s.heap env (nm "numbers") (.ref S)) (hl : s.heap.IsList S vs.toArray) (hi : IntsAre vs ns) (hlen : ns.length ≤ 100)
    (hbody : ∀ v W s₅ (E' : Value → Shared → Prop), Stp env [nm "handed"] s s₅ → VarAt s₅.heap env (nm "handed") v → Handed s₅.heap v ns W → (∀ b ∈ W, Out env b) → wpAny (model prog w) A (execs body env) (fun f s₆ => f = .next ∧ ExW W s₅ s₆) E' s₅)
    (h : ∀ s', Stp env [nm "handed"] s s' → Q .next s') :
    wpAny (model prog w) A (exec (.For (.Name (nm "handed") px) (.Tuple [.Call (.Name (nm "list") q1) [.Name (nm "numbers") q2] [] q3, .Call (.Name (nm "tuple") q4) [.Name (nm "numbers") q5] [] q6, .Call (.Name (nm "iter") q7) [.Name (nm "numbers") q8] [] q9] k q10) body [] q11) env) Q E s := by
  have hvl := hi.length
  refine for_src l.F (.inl (l.kin _ _ (by decide) (by decide +kernel))) (by decide) ?_
  refine ev_tup (arg_cons (ev_cT l.F (x.d l) l.kin (kB_of (by decide +kernel) kv_list : kB (dr 6).scope "list" (.type "list") = true) (arg1 (ev_name l.F.kind VN (ls_list hl (by simp [sizeLine_eq]; omega) fun L s₁ m1 hLn hL => ?_)))))
  refine arg_cons (ev_cT l.F ((x.d l).keeps m1.all) l.kin (kB_of (by decide +kernel) kv_tuple : kB (dr 6).scope "tuple" (.type "tuple") = true) (arg1 (ev_name l.F.kind (VN.keeps m1.all) (tup_list (hl.at fun o e => m1.all _ _ e) (by omega) fun Tp s₂ m2 hTp hTpn => ?_))))
  have x2 : Ex s s₂ := m1.ex.trans m2.ex
  refine arg1 (ev_cB l.F ((x.d l).keeps x2.kp) l.kin (kB_of (by decide +kernel) kv_iter : kB (dr 6).scope "iter" (.builtin "iter") = true) (arg1 (ev_name l.F.kind (VN.keeps x2.kp) (bi_iter ?_))))
  refine wpAny_pyIter_list (hl.at fun o e => x2.kp _ _ e) ?_
  have m3 : Mv [] s₂ { s₂ with heap := s₂.heap.push { cls := .type "list_iterator", data := .fields #[.ref S, .int 0 0] } } := Mv.push s₂ _ s₂.toks
  have hI3 : (s₂.heap.push { cls := .type "list_iterator", data := .fields #[.ref S, .int 0 0] }).IsListIter s₂.heap.objs.size S 0 := ⟨_, Heap.get?_push_size _ rfl, rfl, rfl⟩
  have hI3n : s₂.heap.get? s₂.heap.objs.size = none := fresh_size _
  refine ⟨by simp [sizeLine_eq], fun T s₄ m4 hT hTn => ?_⟩
  generalize s₂.heap.objs.size = I3 at hI3 hI3n hT
  have hI3' : ({ s₂ with heap := s₂.heap.push { cls := .type "list_iterator", data := .fields #[.ref S, .int 0 0] } } : Shared).heap.IsListIter I3 S 0 := hI3
  generalize ({ s₂ with heap := s₂.heap.push { cls := .type "list_iterator", data := .fields #[.ref S, .int 0 0] } } : Shared) = s₃ at m3 m4 hTn hI3'
  have x4 : Ex s s₄ := (x2.trans m3.ex).trans m4.ex
  have L4 := x.live.keeps x4.kp
  have hI4 : s₄.heap.IsListIter I3 S 0 := hI3'.at fun o e => m4.all _ _ e
  have hLI4 : LI s₄.heap L ns := ⟨vs, hL.at fun o e => m4.all _ _ (m3.all _ _ (m2.all _ _ e)), hi⟩
  have hTp4 : s₄.heap.IsTuple Tp vs.toArray := hTp.at fun o e => m4.all _ _ (m3.all _ _ e)
  have hI3s : s.heap.get? I3 = none := x2.none hI3n
  have hI3o : Out env I3 := x.live.out hI3s
  have hTs : s.heap.get? T = none := (x2.trans m3.ex).none hTn
  have hTo : Out env T := x.live.out hTs
  have hTI : T ≠ I3 := fun q => by obtain ⟨o, e, _⟩ := hI3'; rw [← q, hTn] at e; cases e
  have hLI3 : L ≠ I3 := fun q => by obtain ⟨o, e, _⟩ := hL; have := m2.all _ _ e; rw [q, hI3n] at this; cases this
  have hTpI3 : Tp ≠ I3 := fun q => by obtain ⟨o, e, _⟩ := hTp; rw [q, hI3n] at e; cases e
  refine it_tuple2 hr.hh hT fun I2 s₅ fp St W hst hfp hI2 m5 hIc => ?_
  have hI2s : s.heap.get? I2 = none := x4.none hI2
  have hI2o : Out env I2 := x.live.out hI2s
  have hI23 : I2 ≠ I3 := fun q => by obtain ⟨o, e, _⟩ := hI4; rw [← q, hI2] at e; cases e
  have hL2 : L ≠ I2 := fun q => by obtain ⟨_, ⟨o, e, _⟩, _⟩ := hLI4; rw [q, hI2] at e; cases e
  have hTp2 : Tp ≠ I2 := fun q => by obtain ⟨o, e, _⟩ := hTp4; rw [q, hI2] at e; cases e
  have hfo : ∀ b ∈ fp, Out env b ∧ b ≠ I3 := fun b hb => by
    rcases hfp b hb with rfl | rfl
    · exact ⟨hI2o, hI23⟩
    · exact ⟨hTo, hTI⟩
  refine ⟨I2, fp, [I2], _, _, St, fun i s' => Stp env [nm "handed"] s s' ∧ LI s'.heap L ns ∧ s'.heap.IsTuple Tp vs.toArray ∧ (i ≤ 2 → s'.heap.IsListIter I3 S 0), rfl, W, hst, fun b hb => (hfo b hb).1,
    ⟨(Stp.ex x.live (x4.trans m5.ex)).wide (fun n hn => nomatch hn), LI.atD hLI4 fun o e => m5.all _ _ e, hTp4.at fun o e => m5.all _ _ e, fun _ => hI4.at fun o e => m5.all _ _ e⟩, fun i s' j => j.1.live, fun i v sA sB sC E' hi' hJ hS' hP mB LB stC => ?_, fun sA sB hJ hS' mB => ?_⟩
  · obtain ⟨jA, jL, jT, jI⟩ := hJ
    have kB : ∀ b o, b ≠ I2 → sA.heap.get? b = some o → sB.heap.get? b = some o := fun b o hb e => mB.kp b o (by simpa using hb) e
    have kC : ∀ b o, Out env b → b ≠ I2 → sA.heap.get? b = some o → sC.heap.get? b = some o := fun b o hb h2 e => stC.stp.old hb (kB b o h2 e)
    have jC : Stp env [nm "handed"] s sC := ((jA.mvI mB hI2s hI2o).trans stC.stp).wide (by decide)
    have hLC : LI sC.heap L ns := (LI.atD jL fun o e => kB _ _ hL2 e).keeps (stC.stp.seq LB)
    have hTC : sC.heap.IsTuple Tp vs.toArray := by
      have h1 : sB.heap.IsTuple Tp vs.toArray := jT.at fun o e => kB _ _ hTp2 e
      obtain ⟨o, e, q⟩ := IsTuple.seq h1
      exact h1.at fun o' e' => by rw [e] at e'; cases e'; exact stC.stp.seq LB _ _ e q
    have hIC : i ≤ 2 → sC.heap.IsListIter I3 S 0 := fun h2 => (jI h2).at fun o e => kC _ _ hI3o hI23.symm e
    have hlC : sC.heap.IsList S vs.toArray := by
      obtain ⟨o, e, q⟩ := IsList.seq hl
      exact hl.at fun o' e' => by rw [e] at e'; cases e'; exact jC.seq x.live _ _ e q
    have hv : ∃ W, Handed sC.heap v ns W ∧ (W = [] ∨ (W = [I3] ∧ i = 2)) := by
      have hi3 : i < 3 := hi'
      match i, hi3, hP with
      | 0, _, hP => exact ⟨[], .inl ⟨L, (Option.some.inj hP).symm, hLC, rfl⟩, .inl rfl⟩
      | 1, _, hP => exact ⟨[], .inr (.inl ⟨Tp, vs, (Option.some.inj hP).symm, hTC, hi, rfl⟩), .inl rfl⟩
      | 2, _, hP => exact ⟨[I3], .inr (.inr ⟨I3, S, vs, (Option.some.inj hP).symm, hIC (Nat.le_refl _), hlC, hi, rfl⟩), .inr ⟨rfl, rfl⟩⟩
    obtain ⟨W3, hH, hW⟩ := hv
    have hW3 : ∀ b ∈ W3, b = I3 := fun b hb => by
      rcases hW with rfl | ⟨rfl, _⟩
      · cases hb
      · exact List.mem_singleton.mp hb
    refine wpAny_mono (hbody v W3 sC E' jC stC.var hH fun b hb => by rw [hW3 b hb]; exact hI3o) (fun f s₆ hf => ?_) fun _ _ x => x
    obtain ⟨rfl, x6⟩ := hf
    refine ⟨⟨jC.exW x6 (fun b hb => by rw [hW3 b hb]; exact hI3s) (fun b hb => by rw [hW3 b hb]; exact hI3o), LI.atD hLC fun o e => x6.kp _ _ (fun q => hLI3 (hW3 _ q)) e, hTC.at fun o e => x6.kp _ _ (fun q => hTpI3 (hW3 _ q)) e, fun h2 => (hIC (by omega)).at fun o e => x6.kp _ _ (fun q => ?_) e⟩, fun b hb o e => x6.kp _ _ (fun q => (hfo b hb).2 (hW3 _ q)) e⟩
    rcases hW with rfl | ⟨rfl, h3⟩
    · cases q
    · omega
  · exact h sB (hJ.1.mvI mB hI2s hI2o)
end
end Mine
end

section
open PySem PySem.W PyProof.Rows PySem.Calls
set_option maxRecDepth 100000
set_option linter.unusedVariables false
namespace Mine
section
variable {prog : Program} {w : World} {A : Around} {E : Value → Shared → Prop} {s s₀ : Shared} {mg mb : Str → Option Value} {env : Env} {as : Ads}
/-- pairwise(handed) -/
theorem ev_pw0 {v : Value} {q1 q2 q3 : Pos} {Q : Value → Shared → Prop} (l : Law mg mb env s₀ as) (x : LSt env s₀ s) (VH : VarAt s.heap env (nm "handed") v)
    (h : wpAny (model prog w) A (call (.ref as.ap) [v] []) Q E s) : wpAny (model prog w) A (eval (.Call (.Name (nm "pairwise") q1) [.Name (nm "handed") q2] [] q3) env) Q E s := by
  have X := l.pw.keeps x.ex.kp
  obtain ⟨o, pm, code, doc, T, ho, hd, hc, hT⟩ := X.is
  refine wpAny_Call_Name_kw (ev_g l.F (x.d l) l.kin (by decide +kernel) X.glob ?_)
  exact callWith_def_at ho hd (arg1 (ev_name l.F.kind VH ⟨ho, h⟩))
/-- pairwise(handed, cyclic=True) -/
theorem ev_pw1 {v : Value} {q1 q2 q3 q4 q5 : Pos} {k : Nat} {Q : Value → Shared → Prop} (l : Law mg mb env s₀ as) (x : LSt env s₀ s) (VH : VarAt s.heap env (nm "handed") v)
    (h : wpAny (model prog w) A (call (.ref as.ap) [v] [(nm "cyclic", .bool true)]) Q E s) : wpAny (model prog w) A (eval (.Call (.Name (nm "pairwise") q1) [.Name (nm "handed") q2] [⟨some (nm "cyclic"), .Constant (.bool true) k q4, q5⟩] q3) env) Q E s := by
  have X := l.pw.keeps x.ex.kp
  obtain ⟨o, pm, code, doc, T, ho, hd, hc, hT⟩ := X.is
  refine wpAny_Call_Name_kw (ev_g l.F (x.d l) l.kin (by decide +kernel) X.glob ?_)
  refine callWith_def_kw hd (evalArgs_kw2 rfl (arg1 (ev_name l.F.kind VH ?_)))
  refine kwAll_cons (wpAny_Constant_bool (kwAll_nil ⟨ho, ?_⟩))
  exact h
/-- steps = [(numbers[at], numbers[at + 1]) for at in range(len(numbers) - 1)] -/
theorem j0 {S : Addr} {ns : List Int} {Q : Flow → Shared → Prop} (hr : Rm A 3) (l : Law mg mb env s₀ as) (x : LSt env s₀ s) (VN : VarAt s.heap env (nm "numbers") (.ref S)) (hS : LI s.heap S ns) (hlen : ns.length ≤ 100)
    (h : ∀ L s', Stp env [nm "steps"] s s' → VarAt s'.heap env (nm "steps") (.ref L) → LP s'.heap L (ns.zip (ns.drop 1)) → Q .next s') :
    wpAny (model prog w) A (exec (b2.getD 0 (.Pass default)) env) Q E s := by
  show wpAny (model prog w) A (exec (.Assign [.Name (nm "steps") _] (.ListComp _ [⟨.Name (nm "at") _, _, _, 0⟩] _ _) _) env) Q E s
  obtain ⟨vs, hl, hi, hvl⟩ := hS.len
  have k1 : env.kindOf (nm "numbers") = some .cell := l.kin _ _ (by decide) (by decide +kernel)
  have c1 : (env.cells.lookup (nm "numbers")).isSome = true := l.cell (by decide +kernel)
  refine lc_use (fun _ => true) (fun i y h => PairV h y (ns.getD i 0, ns.getD (i + 1) 0)) (fun _ _ _ _ x k => x.tup k) l.F x.live (by decide +kernel) (free_in [nm "numbers"] (by decide +kernel) (fun n hn => by rw [List.mem_singleton.mp hn]; exact c1)) (.inl (by decide +kernel)) (by decide +kernel) (l.kin _ _ (by decide) (by decide +kernel)) (by decide +kernel) (sw_true l.scope (by decide +kernel) (by decide +kernel) (by decide +kernel)) ?_
  refine ev_cT l.F (x.d l) l.kin (kB_of (by decide +kernel) kv_range : kB (dr 6).scope "range" (.type "range") = true) (arg1 ?_)
  refine wpAny_BinOp (ev_cB l.F (x.d l) l.kin (kB_of (by decide +kernel) kv_len : kB (dr 6).scope "len" (.builtin "len") = true) (arg1 (ev_name l.F.kind VN ?_)))
  refine call_len_list hl (by simp; omega) (wpAny_Constant_int (AutoIntOps.sub_0 ?_))
  refine call_range_1 ?_
  have hz : vs.toArray.size = ns.length := by simp [hvl]
  refine it_range hr.hh (IsRange.new _ _ _ _ _ _ _) (by decide) (by decide) (by omega) (by rw [hz]; omega) fun I s₂ fp wr St S₂ => ?_
  have hn : (((vs.toArray.size : Nat) : Int) - 1 - (0 : Int)).toNat = ns.length - 1 := by rw [hz]; omega
  have S3 : SrcIn prog w A s s₂ I fp wr (((vs.toArray.size : Nat) : Int) - 1 - (0 : Int)).toNat (fun (i : Nat) v => ∃ t, v = .int (0 + (i : Int)) t) St := by
    refine SrcIn.on ?_ S₂
    exact ⟨fun b o e => Heap.get?_push_of_some _ e, id, rfl⟩
  refine ⟨I, fp, wr, _, _, St, rfl, by rw [hn, sizeLine_eq]; omega, S3, fun cenv i v s₃ E'' CE hi' hP hL hV hk => ?_, fun D ys s' hDn hD hp st hv => ?_⟩
  · have hi2 : i < ns.length - 1 := by omega
    obtain ⟨t, rfl⟩ := hP
    have hV' : VarAt s₃.heap cenv (nm "at") (.int (i : Int) t) := by simpa using hV
    have VN3 : VarAt s₃.heap cenv (nm "numbers") (.ref S) := CE.var (by decide +kernel) ((VN.cellAt (by rw [k1]; decide)).keeps hk)
    have hl3 : s₃.heap.IsList S vs.toArray := hl.at fun o e => hk _ _ e
    obtain ⟨t1, e1⟩ := ints_get hi i (ns.getD i 0) (by simp [show i < ns.length by omega])
    obtain ⟨t2, e2⟩ := ints_get hi (i + 1) (ns.getD (i + 1) 0) (by simp [show i + 1 < ns.length by omega])
    refine t_none ⟨rfl, Ex.refl _, fun _ => ?_⟩
    refine ev_tup (arg_cons (sub_list (ev_name CE.F.kind VN3 (ev_name CE.F.kind hV' ⟨S, vs.toArray, i, t, .int (ns.getD i 0) t1, rfl, rfl, hl3, by omega, by rw [List.getElem?_toArray]; exact e1, ?_⟩))))
    refine arg1 (sub_list (ev_name CE.F.kind VN3 (wpAny_BinOp (ev_name CE.F.kind hV' (wpAny_Constant_int (i_add ?_))))))
    refine ⟨S, vs.toArray, i + 1, _, .int (ns.getD (i + 1) 0) t2, rfl, by rw [Int.natCast_add]; rfl, hl3, by omega, by rw [List.getElem?_toArray]; exact e2, by simp [sizeLine_eq], fun T s₄ m4 hT hTn => ?_⟩
    exact ⟨⟨T, t1, t2, rfl, hT⟩, (Ex.toks s₃ _).trans m4.ex⟩
  · refine h D s' st hv ⟨ys.toList, toList_list hD, ?_⟩
    have h1 := pairs_of_paired (f := fun i => (ns.getD i 0, ns.getD (i + 1) 0)) hp
    rw [hn, List.filter_eq_self.mpr (fun _ _ => rfl), zip_steps] at h1
    exact h1
/-- round_steps = steps + [(numbers[-1], numbers[0])] if numbers != [] else [] -/
theorem j1 {S P : Addr} {ns : List Int} {Q : Flow → Shared → Prop} (hr : Rm A 3) (l : Law mg mb env s₀ as) (x : LSt env s₀ s) (VN : VarAt s.heap env (nm "numbers") (.ref S)) (hS : LI s.heap S ns) (VP : VarAt s.heap env (nm "steps") (.ref P)) (hP : LP s.heap P (ns.zip (ns.drop 1))) (hlen : ns.length ≤ 100)
    (h : ∀ L s', Stp env [nm "round_steps"] s s' → VarAt s'.heap env (nm "round_steps") (.ref L) → LP s'.heap L (ns.zip (rolled ns true)) → Q .next s') :
    wpAny (model prog w) A (exec (b2.getD 1 (.Pass default)) env) Q E s := by
  show wpAny (model prog w) A (exec (.Assign [.Name (nm "round_steps") _] (.IfExp _ _ _ _) _) env) Q E s
  obtain ⟨vs, hl, hi, hvl⟩ := hS.len
  refine as_l l.F l.kin (by decide +kernel) ?_
  refine wpAny_IfExp (wpAny_isTrue_Compare1 (ev_name l.F.kind VN (ev_nil fun N s₁ m1 hN hNn => ?_)))
  have k1 : ∀ b o, s.heap.get? b = some o → s₁.heap.get? b = some o := m1.all
  refine ne_LI (hS.keeps fun b o e _ => k1 _ _ e) hN hr.u (wpAny_truthy_bool ?_)
  by_cases e : ns = []
  · subst e
    rw [if_neg (by simp)]
    refine ev_nil fun L s₂ m2 hL hLn => ?_
    have x2 : Ex s s₂ := m1.ex.trans m2.ex
    refine ⟨x.live.keeps x2.kp, fun s' st => h L s' (Stp.on x2 st.stp) st.var ?_⟩
    obtain ⟨us, hlu, hiu⟩ := hL.keeps (st.stp.seq (x.live.keeps x2.kp))
    cases hiu
    exact ⟨[], hlu, .nil⟩
  · rw [if_pos (by simpa using e)]
    have hpos : 0 < ns.length := List.length_pos_iff.mpr e
    obtain ⟨ps, hlP, hpP, hpl⟩ := hP.len
    obtain ⟨t1, e1⟩ := ints_get hi (ns.length - 1) (ns.getD (ns.length - 1) 0) (by simp [show ns.length - 1 < ns.length by omega])
    obtain ⟨t2, e2⟩ := ints_get hi 0 (ns.getD 0 0) (by simp [hpos])
    refine wpAny_BinOp (ev_name l.F.kind (VP.keeps k1) (ev_one ?_))
    refine ev_tup (arg_cons (sub_list_neg (ev_name l.F.kind (VN.keeps k1) (wpAny_UnaryOp (wpAny_Constant_int (PySem.P.neg_int ?_))))))
    refine ⟨S, vs.toArray, -1, _, .int (ns.getD (ns.length - 1) 0) t1, rfl, rfl, hl.at fun o e => k1 _ _ e, by decide, by simp; omega, by decide, ?_, ?_⟩
    · have : ((-1 : Int) + (vs.toArray.size : Nat)).toNat = ns.length - 1 := by simp; omega
      rw [this, List.getElem?_toArray]; exact e1
    have xb : Ex s { s₁ with toks := s₁.toks + 1 + 1 } := m1.ex.trans (Ex.toks s₁ _)
    generalize ({ s₁ with toks := s₁.toks + 1 + 1 } : Shared) = s₂ at xb
    refine arg1 (sub_list (ev_name l.F.kind (VN.keeps xb.kp) (wpAny_Constant_int ⟨S, vs.toArray, 0, _, .int (ns.getD 0 0) t2, rfl, rfl, hl.at fun o e => xb.kp _ _ e, by decide, by rw [List.getElem?_toArray]; exact e2, by simp [sizeLine_eq], fun T s₃ m3 hT hTn => ?_⟩)))
    intro L s₄ m4 hL hLn
    have x4 : Ex s s₄ := (xb.trans (Ex.toks s₂ _)).trans (m3.ex.trans m4.ex)
    have hzl : (ns.zip (ns.drop 1)).length ≤ 100 := by simp; omega
    refine add_ll (hlP.at fun o e => x4.kp _ _ e) hL (by simp [sizeLine_eq, hpl]; omega) fun L2 s₅ m5 hn5 hL5 => ?_
    have x5 : Ex s s₅ := x4.trans m5.ex
    refine ⟨x.live.keeps x5.kp, fun s' st => h L2 s' (Stp.on x5 st.stp) st.var ?_⟩
    have hLP : LP s₅.heap L2 (ns.zip (rolled ns true)) := by
      have ez : ns.zip (rolled ns true) = ns.zip (ns.drop 1) ++ [(ns.getD (ns.length - 1) 0, ns.getD 0 0)] := (zip_round e).symm
      rw [ez]
      refine ⟨ps ++ [.ref T], by simpa using hL5, Paired.append (hpP.keeps fun b o e _ => x5.kp _ _ e) (.cons ⟨T, t1, t2, rfl, hT.at fun o e => m5.all _ _ (m4.all _ _ e)⟩ .nil)⟩
    exact hLP.keeps (st.stp.seq (x.live.keeps x5.kp))
end
end Mine
end

section
open PySem PySem.W PyProof.Rows PySem.Calls
set_option maxRecDepth 100000
set_option linter.unusedVariables false
namespace Mine
theorem uq_len (ns : List Int) : (uq [] ns).length ≤ ns.length := nodup_len (uq_nodup ns []) fun x hx => ((mem_uq ns []).mp hx).1
section
variable {prog : Program} {w : World} {A : Around} {E : Value → Shared → Prop} {s s₀ : Shared} {mg mb : Str → Option Value} {env : Env} {as : Ads}
theorem pw_body {v : Value} {W : List Addr} {ns : List Int} {cyc : Bool} {Xn : Str} {P : Addr} {kw : List (Str × Value)} {q1 q2 q3 q4 q5 cp : Pos} {cf : Expr} {ca : List Expr} {ck : List Keyword} {body : List Stmt} (hr : Rm A 3) (l : Law mg mb env s₀ as) (x : LSt env s₀ s) (hH : Handed s.heap v ns W) (hWo : ∀ b ∈ W, Out env b) (VX : VarAt s.heap env Xn (.ref P)) (hP : LP s.heap P (ns.zip (rolled ns cyc))) (hlen : ns.length ≤ 100)
    (hkw : (kw = [] ∧ cyc = false) ∨ (kw = [(nm "cyclic", .bool true)] ∧ cyc = true))
    (hce : ∀ (Q : Value → Shared → Prop), wpAny (model prog w) A (call (.ref as.ap) [v] kw) Q E s → wpAny (model prog w) A (eval (.Call cf ca ck cp) env) Q E s) :
    wpAny (model prog w) A (execs [.If (.Compare (.Call (.Name (nm "list") q1) [.Call cf ca ck cp] [] q2) [.NotEq] [.Name Xn q3] q4) body [] q5] env) (fun f s₆ => f = .next ∧ ExW W s s₆) E s := by
  refine wpAny_execs_cons (if_no (wpAny_isTrue_Compare1 ?_))
  refine ev_cT l.F (x.d l) l.kin (kB_of (by decide +kernel) kv_list : kB (dr 6).scope "list" (.type "list") = true) (arg1 (hce _ ?_))
  refine pw_list hr (l.pw.keeps x.ex.kp) (x.d l) hkw hlen hH fun L s₁ x1 hL => ?_
  have hok := hH.ok
  refine ev_name l.F.kind (VX.butW hWo x1) ?_
  refine ne_LP hL (hP.keeps fun b o e ⟨xs, n, hd⟩ => x1.kp b o (fun q => ?_) e) hr.u (wpAny_truthy_bool ⟨rfl, wpAny_execs_nil ⟨rfl, x1⟩⟩)
  obtain ⟨o', fs, e', hd'⟩ := hok b q
  rw [e'] at e; cases e; rw [hd'] at hd; cases hd
theorem j2 {S P : Addr} {vs : List Value} {ns : List Int} {Q : Flow → Shared → Prop} (hr : Rm A 3) (l : Law mg mb env s₀ as) (x : LSt env s₀ s) (VN : VarAt s.heap env (nm "numbers") (.ref S)) (hl : s.heap.IsList S vs.toArray) (hi : IntsAre vs ns) (VP : VarAt s.heap env (nm "steps") (.ref P)) (hP : LP s.heap P (ns.zip (ns.drop 1))) (hlen : ns.length ≤ 100)
    (h : ∀ s', Stp env [nm "handed"] s s' → Q .next s') :
    wpAny (model prog w) A (exec (b2.getD 2 (.Pass default)) env) Q E s := by
  show wpAny (model prog w) A (exec (.For (.Name (nm "handed") _) (.Tuple [.Call (.Name (nm "list") _) [.Name (nm "numbers") _] [] _, .Call (.Name (nm "tuple") _) [.Name (nm "numbers") _] [] _, .Call (.Name (nm "iter") _) [.Name (nm "numbers") _] [] _] _ _) [.If (.Compare (.Call (.Name (nm "list") _) [.Call (.Name (nm "pairwise") _) [.Name (nm "handed") _] [] _] [] _) [.NotEq] [.Name (nm "steps") _] _) _ [] _] [] _) env) Q E s
  refine handed_for hr l x VN hl hi hlen (fun v W s₅ E' st VH hH hWo => ?_) h
  exact pw_body (cyc := false) hr l (x.stp l st) hH hWo (st.vars _ _ (by decide) VP) (hP.keeps (st.seq x.live)) hlen (.inl ⟨rfl, rfl⟩) fun Q q => ev_pw0 l (x.stp l st) VH q
theorem j3 {S P : Addr} {vs : List Value} {ns : List Int} {Q : Flow → Shared → Prop} (hr : Rm A 3) (l : Law mg mb env s₀ as) (x : LSt env s₀ s) (VN : VarAt s.heap env (nm "numbers") (.ref S)) (hl : s.heap.IsList S vs.toArray) (hi : IntsAre vs ns) (VP : VarAt s.heap env (nm "round_steps") (.ref P)) (hP : LP s.heap P (ns.zip (rolled ns true))) (hlen : ns.length ≤ 100)
    (h : ∀ s', Stp env [nm "handed"] s s' → Q .next s') :
    wpAny (model prog w) A (exec (b2.getD 3 (.Pass default)) env) Q E s := by
  show wpAny (model prog w) A (exec (.For (.Name (nm "handed") _) (.Tuple [.Call (.Name (nm "list") _) [.Name (nm "numbers") _] [] _, .Call (.Name (nm "tuple") _) [.Name (nm "numbers") _] [] _, .Call (.Name (nm "iter") _) [.Name (nm "numbers") _] [] _] _ _) [.If (.Compare (.Call (.Name (nm "list") _) [.Call (.Name (nm "pairwise") _) [.Name (nm "handed") _] [⟨some (nm "cyclic"), .Constant (.bool true) _ _, _⟩] _] [] _) [.NotEq] [.Name (nm "round_steps") _] _) _ [] _] [] _) env) Q E s
  refine handed_for hr l x VN hl hi hlen (fun v W s₅ E' st VH hH hWo => ?_) h
  exact pw_body (cyc := true) hr l (x.stp l st) hH hWo (st.vars _ _ (by decide) VP) (hP.keeps (st.seq x.live)) hlen (.inr ⟨rfl, rfl⟩) fun Q q => ev_pw1 l (x.stp l st) VH q
theorem any_contains (l : List Int) (k : Int) : l.any (· == k) = l.contains k := by
  rw [Bool.eq_iff_iff, List.any_eq_true, List.contains_iff_mem]
  constructor
  · rintro ⟨y, hy, e⟩; exact (beq_iff_eq.mp e) ▸ hy
  · exact fun h => ⟨k, h, by simp⟩
/-- plain = [numbers[at] for at in range(len(numbers)) if numbers[at] not in numbers[:at]] -/
theorem j4 {S : Addr} {ns : List Int} {Q : Flow → Shared → Prop} (hr : Rm A 3) (l : Law mg mb env s₀ as) (x : LSt env s₀ s) (VN : VarAt s.heap env (nm "numbers") (.ref S)) (hS : LI s.heap S ns) (hlen : ns.length ≤ 100)
    (h : ∀ L s', Stp env [nm "plain"] s s' → VarAt s'.heap env (nm "plain") (.ref L) → LI s'.heap L (uq [] ns) → Q .next s') :
    wpAny (model prog w) A (exec (b2.getD 4 (.Pass default)) env) Q E s := by
  show wpAny (model prog w) A (exec (.Assign [.Name (nm "plain") _] (.ListComp _ [⟨.Name (nm "at") _, _, [.Compare _ _ [.Subscript _ (.Slice none (some _) none _) _] _], 0⟩] _ _) _) env) Q E s
  obtain ⟨vs, hl, hi, hvl⟩ := hS.len
  have k1 : env.kindOf (nm "numbers") = some .cell := l.kin _ _ (by decide) (by decide +kernel)
  have c1 : (env.cells.lookup (nm "numbers")).isSome = true := l.cell (by decide +kernel)
  refine lc_use (firstAt ns) (fun i y _ => ∃ t, y = .int (ns.getD i 0) t) (fun _ _ _ _ x _ => x) l.F x.live (by decide +kernel) (free_in [nm "numbers"] (by decide +kernel) (fun n hn => by rw [List.mem_singleton.mp hn]; exact c1)) (.inl (by decide +kernel)) (by decide +kernel) (l.kin _ _ (by decide) (by decide +kernel)) (by decide +kernel) (sw_true l.scope (by decide +kernel) (by decide +kernel) (by decide +kernel)) ?_
  refine ev_cT l.F (x.d l) l.kin (kB_of (by decide +kernel) kv_range : kB (dr 6).scope "range" (.type "range") = true) (arg1 ?_)
  refine ev_cB l.F (x.d l) l.kin (kB_of (by decide +kernel) kv_len : kB (dr 6).scope "len" (.builtin "len") = true) (arg1 (ev_name l.F.kind VN ?_))
  refine call_len_list hl (by simp; omega) ?_
  refine call_range_1 ?_
  have hz : vs.toArray.size = ns.length := by simp [hvl]
  refine it_range hr.hh (IsRange.new _ _ _ _ _ _ _) (by decide) (by decide) (by omega) (by rw [hz]; omega) fun I s₂ fp wr St S₂ => ?_
  have hn : (((vs.toArray.size : Nat) : Int) - (0 : Int)).toNat = ns.length := by rw [hz]; omega
  have S3 : SrcIn prog w A s s₂ I fp wr (((vs.toArray.size : Nat) : Int) - (0 : Int)).toNat (fun (i : Nat) v => ∃ t, v = .int (0 + (i : Int)) t) St := by
    refine SrcIn.on ?_ S₂
    exact ⟨fun b o e => Heap.get?_push_of_some _ e, id, rfl⟩
  refine ⟨I, fp, wr, _, _, St, rfl, by rw [hn, sizeLine_eq]; omega, S3, fun cenv i v s₃ E'' CE hi' hP hL hV hk => ?_, fun D ys s' hDn hD hp st hv => ?_⟩
  · have hi2 : i < ns.length := by omega
    obtain ⟨t, rfl⟩ := hP
    have hV' : VarAt s₃.heap cenv (nm "at") (.int (i : Int) t) := by simpa using hV
    have VN3 : VarAt s₃.heap cenv (nm "numbers") (.ref S) := CE.var (by decide +kernel) ((VN.cellAt (by rw [k1]; decide)).keeps hk)
    have hl3 : s₃.heap.IsList S vs.toArray := hl.at fun o e => hk _ _ e
    obtain ⟨t1, e1⟩ := ints_get hi i (ns.getD i 0) (by simp [hi2])
    refine t_one (wpAny_isTrue_Compare1 (sub_list (ev_name CE.F.kind VN3 (ev_name CE.F.kind hV' ⟨S, vs.toArray, i, t, .int (ns.getD i 0) t1, rfl, rfl, hl3, by omega, by rw [List.getElem?_toArray]; exact e1, ?_⟩))))
    refine ev_upto (ev_name CE.F.kind VN3 (ev_name CE.F.kind hV' ⟨S, vs.toArray, i, t, rfl, hl3, by simp [sizeLine_eq]; omega, rfl, fun L s₄ m4 hLn hL4 => ?_⟩))
    refine PyProof.Rows.notin_list_ints (vs := vs.take i) (ns := ns.take i) (by simpa using hL4) (ints_take hi i) (wpAny_truthy_bool ⟨?_, m4.ex, fun _ => ?_⟩)
    · rw [any_contains]; rfl
    · exact sub_list (ev_name CE.F.kind (VN3.keeps m4.all) (ev_name CE.F.kind (hV'.keeps m4.all) ⟨S, vs.toArray, i, t, .int (ns.getD i 0) t1, rfl, rfl, hl3.at fun o e => m4.all _ _ e, by omega, by rw [List.getElem?_toArray]; exact e1, ⟨t1, rfl⟩, Ex.refl _⟩))
  · refine h D s' st hv ⟨ys.toList, toList_list hD, ?_⟩
    have h1 := ints_of_paired (f := fun i => ns.getD i 0) hp
    rw [hn] at h1
    rw [uq_first]; exact h1
/-- if list(_unique_everseen(list(numbers))) != plain or list(_unique_everseen(iter(numbers))) != plain: return False -/
theorem j5 {S P : Addr} {ns : List Int} {Q : Flow → Shared → Prop} (hr : Rm A 3) (l : Law mg mb env s₀ as) (x : LSt env s₀ s) (VN : VarAt s.heap env (nm "numbers") (.ref S)) (hS : LI s.heap S ns) (VP : VarAt s.heap env (nm "plain") (.ref P)) (hP : LI s.heap P (uq [] ns)) (hlen : ns.length ≤ 100)
    (h : ∀ s', Ex s s' → Q .next s') :
    wpAny (model prog w) A (exec (b2.getD 5 (.Pass default)) env) Q E s := by
  show wpAny (model prog w) A (exec (.If (.BoolOp .Or _ _) _ [] _) env) Q E s
  obtain ⟨vs, hl, hi, hvl⟩ := hS.len
  have hul := uq_len ns
  refine if_no ?_
  refine wpAny_isTrue_BoolOp (wpAny_allTrue_Or_cons (wpAny_isTrue_Compare1 ?_))
  refine ev_cT l.F (x.d l) l.kin (kB_of (by decide +kernel) kv_list : kB (dr 6).scope "list" (.type "list") = true) (arg1 ?_)
  refine ev_cF l.F (x.d l) l.kin (by decide +kernel) (l.f2.keeps x.ex.kp) (arg1 ?_)
  refine ev_cT l.F (x.d l) l.kin (kB_of (by decide +kernel) kv_list : kB (dr 6).scope "list" (.type "list") = true) (arg1 (ev_name l.F.kind VN ?_))
  refine ls_list hl (by simp [sizeLine_eq]; omega) fun L s₁ m1 hLn hL => ⟨m1.all, ?_⟩
  refine es_call (l := L) (items := vs.toArray) (src := none) (ns := ns) hr ((l.f2.keeps x.ex.kp).keeps m1.all) ((x.d l).keeps m1.all) ⟨hL, .inl ⟨rfl, rfl⟩⟩ (by simpa using hi) hlen fun I s₂ wr fp x2 hIn hg hlim hwr hfp hst => ?_
  refine ls_es hr (by omega) hg hlim (fun b hb => (hwr b hb).1) hfp (fun s₃ A' h1 h2 => hst s₃ A' h1 h2) fun D s₃ x3 hDn hD => ?_
  have xa : Ex s s₃ := m1.ex.trans (ExW.ex x2 x3 fun b hb => (hwr b hb).2.resolve_right (fun q => nomatch q))
  refine ev_name l.F.kind (VP.keeps xa.kp) ?_
  refine ne_LI hD (hP.keeps fun b o e _ => xa.kp _ _ e) hr.u (wpAny_truthy_bool ?_)
  rw [if_neg (by simp)]
  refine wpAny_allTrue_Or_cons (wpAny_isTrue_Compare1 ?_)
  refine ev_cT l.F ((x.d l).keeps xa.kp) l.kin (kB_of (by decide +kernel) kv_list : kB (dr 6).scope "list" (.type "list") = true) (arg1 ?_)
  refine ev_cF l.F ((x.d l).keeps xa.kp) l.kin (by decide +kernel) ((l.f2.keeps x.ex.kp).keeps xa.kp) (arg1 ?_)
  refine ev_cB l.F ((x.d l).keeps xa.kp) l.kin (kB_of (by decide +kernel) kv_iter : kB (dr 6).scope "iter" (.builtin "iter") = true) (arg1 (ev_name l.F.kind (VN.keeps xa.kp) (bi_iter ?_)))
  refine wpAny_pyIter_list (hl.at fun o e => xa.kp _ _ e) ?_
  have m4 : Mv [] s₃ { s₃ with heap := s₃.heap.push { cls := .type "list_iterator", data := .fields #[.ref S, .int 0 0] } } := Mv.push s₃ _ s₃.toks
  have hI4 : ({ s₃ with heap := s₃.heap.push { cls := .type "list_iterator", data := .fields #[.ref S, .int 0 0] } } : Shared).heap.IsListIter s₃.heap.objs.size S 0 := ⟨_, Heap.get?_push_size _ rfl, rfl, rfl⟩
  have hI4n : s₃.heap.get? s₃.heap.objs.size = none := fresh_size _
  refine ⟨m4.all, ?_⟩
  generalize s₃.heap.objs.size = I4 at hI4 hI4n
  generalize ({ s₃ with heap := s₃.heap.push { cls := .type "list_iterator", data := .fields #[.ref S, .int 0 0] } } : Shared) = s₄ at m4 hI4
  have xb : Ex s s₄ := xa.trans m4.ex
  refine es_call (l := S) (items := vs.toArray) (src := some I4) (ns := ns) hr ((l.f2.keeps x.ex.kp).keeps xb.kp) ((x.d l).keeps xb.kp) ⟨hl.at fun o e => xb.kp _ _ e, .inr ⟨I4, rfl, rfl, hI4⟩⟩ (by simpa using hi) hlen fun I s₅ wr fp x5 hIn hg hlim hwr hfp hst => ?_
  refine ls_es hr (by omega) hg hlim (fun b hb => (hwr b hb).1) hfp (fun s₃ A' h1 h2 => hst s₃ A' h1 h2) fun D2 s₆ x6 hDn2 hD2 => ?_
  have xc : Ex s s₆ := ExW.ex (xb.trans x5) x6 fun b hb => by
    rcases (hwr b hb).2 with q | q
    · exact xb.none q
    · cases q; exact xa.none hI4n
  refine ev_name l.F.kind (VP.keeps xc.kp) ?_
  refine ne_LI hD2 (hP.keeps fun b o e _ => xc.kp _ _ e) hr.u (wpAny_truthy_bool ?_)
  rw [if_neg (by simp)]
  exact wpAny_allTrue_Or_nil ⟨rfl, h _ xc⟩
end
end Mine
end

section
open PySem PySem.W PyProof.Rows PySem.Calls
set_option maxRecDepth 100000
set_option linter.unusedVariables false
namespace Mine
def n2 : List Str := [nm "numbers", nm "steps", nm "round_steps", nm "handed", nm "plain"]
section
variable {prog : Program} {w : World} {A : Around} {E : Value → Shared → Prop} {s s₀ : Shared} {mg mb : Str → Option Value} {env : Env} {as : Ads}
theorem body2 {S : Addr} {ns : List Int} {Q : Flow → Shared → Prop} (hr : Rm A 3) (l : Law mg mb env s₀ as) (x : LSt env s₀ s) (VN : VarAt s.heap env (nm "numbers") (.ref S)) (hS : LI s.heap S ns) (hlen : ns.length ≤ 100)
    (h : ∀ s', Stp env [nm "steps", nm "round_steps", nm "handed", nm "plain"] s s' → Q .next s') : wpAny (model prog w) A (execs b2 env) Q E s := by
  have e : b2 = [b2.getD 0 (.Pass default), b2.getD 1 (.Pass default), b2.getD 2 (.Pass default), b2.getD 3 (.Pass default), b2.getD 4 (.Pass default), b2.getD 5 (.Pass default)] := rfl
  rw [e]
  refine wpAny_execs_cons (j0 hr l x VN hS hlen fun P1 s₁ st1 VP1 hP1 => ?_)
  have y1 := x.stp l st1
  have VN1 := st1.vars _ _ (by decide) VN
  have hS1 : LI s₁.heap S ns := hS.keeps (st1.seq x.live)
  refine wpAny_execs_cons (j1 hr l y1 VN1 hS1 VP1 hP1 hlen fun P2 s₂ st2 VP2 hP2 => ?_)
  have y2 := y1.stp l st2
  have VN2 := st2.vars _ _ (by decide) VN1
  have VP12 := st2.vars _ _ (by decide) VP1
  have hS2 : LI s₂.heap S ns := hS1.keeps (st2.seq y1.live)
  have hP12 := hP1.keeps (st2.seq y1.live)
  obtain ⟨vs, hl2, hi, hvl⟩ := hS2.len
  refine wpAny_execs_cons (j2 hr l y2 VN2 hl2 hi VP12 hP12 hlen fun s₃ st3 => ?_)
  have y3 := y2.stp l st3
  have VN3 := st3.vars _ _ (by decide) VN2
  have VP23 := st3.vars _ _ (by decide) VP2
  have hP23 := hP2.keeps (st3.seq y2.live)
  have hS3 : LI s₃.heap S ns := hS2.keeps (st3.seq y2.live)
  obtain ⟨us, hl3, hi3, hul⟩ := hS3.len
  refine wpAny_execs_cons (j3 hr l y3 VN3 hl3 hi3 VP23 hP23 hlen fun s₄ st4 => ?_)
  have y4 := y3.stp l st4
  have VN4 := st4.vars _ _ (by decide) VN3
  have hS4 : LI s₄.heap S ns := hS3.keeps (st4.seq y3.live)
  refine wpAny_execs_cons (j4 hr l y4 VN4 hS4 hlen fun P5 s₅ st5 VP5 hP5 => ?_)
  have y5 := y4.stp l st5
  have VN5 := st5.vars _ _ (by decide) VN4
  have hS5 : LI s₅.heap S ns := hS4.keeps (st5.seq y4.live)
  refine wpAny_execs_cons (j5 hr l y5 VN5 hS5 VP5 hP5 hlen fun s₆ x6 => wpAny_execs_nil (h s₆ ?_))
  exact (((((st1.trans st2).trans st3).trans st4).trans st5).then x6).wide (by decide)
/-- for numbers in (row, small): .. -/
theorem st2 {R S : Addr} {row sm : List Int} {Q : Flow → Shared → Prop} (hr : Rm A 3) (l : Law mg mb env s₀ as) (x : LSt env s₀ s) (VR : VarAt s.heap env (nm "row") (.ref R)) (hR : LI s.heap R row) (VS : VarAt s.heap env (nm "small") (.ref S)) (hS : LI s.heap S sm) (h1 : row.length ≤ 100) (h2 : sm.length ≤ 100)
    (h : ∀ s', Stp env n2 s s' → Q .next s') : wpAny (model prog w) A (exec ((dr 6).body.getD 2 (.Pass default)) env) Q E s := by
  show wpAny (model prog w) A (exec (.For (.Name (nm "numbers") _) (.Tuple [.Name (nm "row") _, .Name (nm "small") _] _ _) b2 [] _) env) Q E s
  refine for_src l.F (.inr ⟨l.kin _ _ (by decide) (by decide +kernel), l.cell (by decide +kernel)⟩) (by decide) ?_
  refine ev_tup (arg_cons (ev_name l.F.kind VR (arg1 (ev_name l.F.kind VS ⟨by simp [sizeLine_eq], fun T s₁ m1 hT hTn => ?_⟩))))
  have x1 : Ex s s₁ := m1.ex
  have L1 := x.live.keeps x1.kp
  refine it_tuple2 hr.hh hT fun I s₂ fp St W hst hfp hI m2 hIc => ?_
  have hIo : Out env I := L1.out hI
  have hfo : ∀ b ∈ fp, Out env b := fun b hb => by
    rcases hfp b hb with rfl | rfl
    · exact hIo
    · exact x.live.out hTn
  have y1 := x.exs x1
  refine ⟨I, fp, [I], _, _, St, fun i s' => Stp env n2 s₁ s', rfl, W, hst, hfo, (Stp.ex L1 m2.ex).wide (fun n hn => nomatch hn), fun i s' j => j.live, fun i v s₃ s₄ s₅ E' hi hJ hS' hP m4 L4 st5 => ?_, fun s₃ s₄ hJ hS' m4 => ?_⟩
  · have j4 := hJ.mvI m4 hI hIo
    have j5 : Stp env n2 s₁ s₅ := (j4.trans st5.stp).wide (by decide)
    have y5 := y1.stp l j5
    have hv : ∃ (P : Addr) (ns : List Int), v = .ref P ∧ LI s₅.heap P ns ∧ ns.length ≤ 100 := by
      have hi4 : i < 2 := hi
      match i, hi4, hP with
      | 0, _, hP => exact ⟨R, _, (Option.some.inj hP).symm, (hR.keeps fun b o e _ => x1.kp _ _ e).keeps (j5.seq L1), h1⟩
      | 1, _, hP => exact ⟨S, _, (Option.some.inj hP).symm, (hS.keeps fun b o e _ => x1.kp _ _ e).keeps (j5.seq L1), h2⟩
    obtain ⟨P, ns, rfl, hP5, hl5⟩ := hv
    refine body2 hr l y5 st5.var hP5 hl5 fun s₆ st6 => ?_
    exact ⟨(j5.trans st6).wide (by decide), fun b hb o e => st6.old (hfo b hb) e⟩
  · exact h s₄ (Stp.on x1 (hJ.mvI m4 hI hIo))
end
end Mine
end

section
open PySem PySem.W PyProof.Rows PySem.Calls
set_option maxRecDepth 100000
set_option linter.unusedVariables false
namespace Mine
section
variable {prog : Program} {w : World} {A : Around} {E : Value → Shared → Prop} {s s₀ : Shared} {mg mb : Str → Option Value} {env : Env} {as : Ads}
theorem GS.stp {env : Env} {M : List Str} {s s' : Shared} {D : Addr} {gs : List (Int × List Int)} (x : GS prog w s.heap D gs) (st : Stp env M s s') (L : Live env s.heap) (hD : Out env D) : GS prog w s'.heap D gs :=
  x.keeps fun b o e hb => st.old (by rcases hb with rfl | hb; exact hD; exact L.setOut e hb) e
theorem law_body {S : Addr} {ns : List Int} {Q : Flow → Shared → Prop} (hr : Rm A 3) (l : Law mg mb env s₀ as) (x : LSt env s₀ s) (V : VarAt s.heap env (nm "script") (.ref S)) (hS : LI s.heap S ns) (hlen : ns.length ≤ 100)
    (h : ∀ s', Ex s₀ s' → Q (.ret (.bool true)) s') : wpAny (model prog w) A (execs (dr 6).body env) Q E s := by
  have e : (dr 6).body = (List.range 20).map fun i => (dr 6).body.getD i (.Pass default) := rfl
  rw [e]
  show wpAny (model prog w) A (execs [(dr 6).body.getD 0 (.Pass default), (dr 6).body.getD 1 (.Pass default), (dr 6).body.getD 2 (.Pass default), (dr 6).body.getD 3 (.Pass default), (dr 6).body.getD 4 (.Pass default), (dr 6).body.getD 5 (.Pass default), (dr 6).body.getD 6 (.Pass default), (dr 6).body.getD 7 (.Pass default), (dr 6).body.getD 8 (.Pass default), (dr 6).body.getD 9 (.Pass default), (dr 6).body.getD 10 (.Pass default), (dr 6).body.getD 11 (.Pass default), (dr 6).body.getD 12 (.Pass default), (dr 6).body.getD 13 (.Pass default), (dr 6).body.getD 14 (.Pass default), (dr 6).body.getD 15 (.Pass default), (dr 6).body.getD 16 (.Pass default), (dr 6).body.getD 17 (.Pass default), (dr 6).body.getD 18 (.Pass default), (dr 6).body.getD 19 (.Pass default)] env) Q E s
  generalize hrow : ns.take 12 = row
  have hrl : row.length ≤ 12 := by rw [← hrow, List.length_take]; omega
  generalize hsm : (row.map fun k => k.fmod 4) = sm
  have hsl : sm.length ≤ 12 := by rw [← hsm, List.length_map]; exact hrl
  have hgn := table_nodup sm
  have hgf := flat_groups hgn
  have hgk := groups_nodup (tableOf sm)
  have htl := table_len sm
  have hgl : (groupsOf (tableOf sm)).length ≤ 12 := by
    have h1 := groups_keys (tableOf sm)
    rw [table_snd] at h1
    have h2 := congrArg List.length h1
    have h3 := dd_len_le sm
    simp only [List.length_map] at h2
    omega
  -- row, small
  refine wpAny_execs_cons (st0 hr l x V hS hlen fun R s0 t0 VR0 hR0 => ?_)
  rw [hrow] at hR0
  have y0 := x.stp l t0
  have V0 := t0.vars _ _ (by decide) V
  have hS0 : LI s0.heap S ns := hS.keeps (t0.seq x.live)
  refine wpAny_execs_cons (st1 hr l y0 VR0 hR0 (by omega) fun M s1 t1 VM1 hM1 => ?_)
  rw [hsm] at hM1
  have y1 := y0.stp l t1
  have V1 := t1.vars _ _ (by decide) V0
  have VR1 := t1.vars _ _ (by decide) VR0
  have hS1 : LI s1.heap S ns := hS0.keeps (t1.seq y0.live)
  have hR1 : LI s1.heap R row := hR0.keeps (t1.seq y0.live)
  refine wpAny_execs_cons (st2 hr l y1 VR1 hR1 VM1 hM1 (by omega) (by omega) fun s2 t2 => ?_)
  have y2 := y1.stp l t2
  have V2 := t2.vars _ _ (by decide) V1
  have VR2 := t2.vars _ _ (by decide) VR1
  have VM2 := t2.vars _ _ (by decide) VM1
  have hS2 : LI s2.heap S ns := hS1.keeps (t2.seq y1.live)
  have hR2 : LI s2.heap R row := hR1.keeps (t2.seq y1.live)
  have hM2 : LI s2.heap M sm := hM1.keeps (t2.seq y1.live)
  obtain ⟨mv, hml, hmi, hmvl⟩ := hM2.len
  -- walk
  refine wpAny_execs_cons (st3 hr l y2 VM2 hml fun I s3 t3 VI3 hI3 hIn => ?_)
  have y3 := y2.stp l t3
  have VM3 := t3.vars _ _ (by decide) VM2
  have hml3 : s3.heap.IsList M mv.toArray := by
    obtain ⟨o, e, q⟩ := IsList.seq hml
    exact hml.at fun o' e' => by rw [e] at e'; cases e'; exact t3.seq y2.live _ _ e q
  refine wpAny_execs_cons (st4 hr l y3 VM3 hml3 hmi VI3 hI3 (y2.ex.none hIn) (by omega) fun s4 b4 => ?_)
  have t4 : Stp env [nm "walk"] s2 s4 := t3.exW (W := [I]) ⟨fun b o hb e => b4.kp b o (by simpa using hb) e, b4.gens, b4.os⟩ (fun b hb => by rw [List.mem_singleton.mp hb]; exact hIn) (fun b hb => by rw [List.mem_singleton.mp hb]; exact y2.live.out hIn)
  have y4 := y2.stp l t4
  have V4 := t4.vars _ _ (by decide) V2
  have VR4 := t4.vars _ _ (by decide) VR2
  have VM4 := t4.vars _ _ (by decide) VM2
  have hS4 : LI s4.heap S ns := hS2.keeps (t4.seq y2.live)
  have hR4 : LI s4.heap R row := hR2.keeps (t4.seq y2.live)
  have hM4 : LI s4.heap M sm := hM2.keeps (t4.seq y2.live)
  -- table, told
  refine wpAny_execs_cons (st5 hr l y4 VM4 hM4 (by omega) fun T s5 t5 VT5 hT5 hTs hTn => ?_)
  have hTo : Out env T := y4.live.out hTn
  have y5 := y4.stp l t5
  have V5 := t5.vars _ _ (by decide) V4
  have VR5 := t5.vars _ _ (by decide) VR4
  have VM5 := t5.vars _ _ (by decide) VM4
  have hS5 : LI s5.heap S ns := hS4.keeps (t5.seq y4.live)
  have hR5 : LI s5.heap R row := hR4.keeps (t5.seq y4.live)
  have hM5 : LI s5.heap M sm := hM4.keeps (t5.seq y4.live)
  refine wpAny_execs_cons (st6 hr l y5 VT5 hT5 hTs (by omega) fun O s6 t6 VO6 hO6 hOs hOn => ?_)
  have hOo : Out env O := y5.live.out hOn
  have y6 := y5.stp l t6
  have V6 := t6.vars _ _ (by decide) V5
  have VR6 := t6.vars _ _ (by decide) VR5
  have VM6 := t6.vars _ _ (by decide) VM5
  have VT6 := t6.vars _ _ (by decide) VT5
  have hS6 : LI s6.heap S ns := hS5.keeps (t6.seq y5.live)
  have hR6 : LI s6.heap R row := hR5.keeps (t6.seq y5.live)
  have hM6 : LI s6.heap M sm := hM5.keeps (t6.seq y5.live)
  have hT6 : DictP prog w s6.heap T (tableOf sm) := hT5.at fun o e => t6.old hTo e
  refine wpAny_execs_cons (st7 hr l y6 VM6 hM6 VT6 hT6 hTs VO6 hO6 hOs hsl fun s7 x7 => ?_)
  have y7 := y6.exs x7
  have hO7 : GS prog w s7.heap O (groupsOf (tableOf sm)) := hO6.keeps fun b o e _ => x7.kp _ _ e
  -- back
  refine wpAny_execs_cons (st8 hr l y7 (VO6.keeps x7.kp) hO7 hOs ((hgf.map (·.1)).nodup_iff.mpr hgn) hgk (by rw [hgf.length_eq]; omega) (by omega) fun B s8 qs t8 VB8 hB8 hBp hBs hBn => ?_)
  have u8 : Stp env [nm "back"] s6 s8 := Stp.on x7 t8
  have y8 := y6.stp l u8
  have V8 := u8.vars _ _ (by decide) V6
  have VR8 := u8.vars _ _ (by decide) VR6
  have VM8 := u8.vars _ _ (by decide) VM6
  have VT8 := u8.vars _ _ (by decide) VT6
  have VO8 := u8.vars _ _ (by decide) VO6
  have hS8 : LI s8.heap S ns := hS6.keeps (u8.seq y6.live)
  have hR8 : LI s8.heap R row := hR6.keeps (u8.seq y6.live)
  have hM8 : LI s8.heap M sm := hM6.keeps (u8.seq y6.live)
  have hT8 : DictP prog w s8.heap T (tableOf sm) := hT6.at fun o e => u8.old hTo e
  have hO8 := hO6.stp u8 y6.live hOo
  refine wpAny_execs_cons (st9 hr l y8 VB8 VT8 VO8 hB8 hT8 hO8.typeIs (hBp.trans hgf) hgn hBs hTs fun s9 x9 => ?_)
  have y9 := y8.exs x9
  -- lent
  refine wpAny_execs_cons (st10 hr l y9 (VR8.keeps x9.kp) (hR8.keeps fun b o e _ => x9.kp _ _ e) (by omega) fun L s10 t10 VL10 hL10 => ?_)
  have u10 : Stp env [nm "lent"] s8 s10 := Stp.on x9 t10
  have y10 := y8.stp l u10
  have VR10 := u10.vars _ _ (by decide) VR8
  have hR10 : LI s10.heap R row := hR8.keeps (u10.seq y8.live)
  refine wpAny_execs_cons (st11 hr l y10 VR10 hR10 VL10 hL10 (by omega) fun s11 x11 => ?_)
  have u11 := u10.then x11
  have y11 := y8.stp l u11
  refine wpAny_execs_cons (st12 hr l y11 (u11.vars _ _ (by decide) VT8) (hT8.at fun o e => u11.old hTo e) hTs fun s12 x12 => ?_)
  have u12 := u11.then x12
  have y12 := y8.stp l u12
  refine wpAny_execs_cons (st13 hr l y12 (u12.vars _ _ (by decide) VM8) (hM8.keeps (u12.seq y8.live)) (by omega) fun s13 x13 => ?_)
  have u13 := u12.then x13
  have y13 := y8.stp l u13
  have V13 := u13.vars _ _ (by decide) V8
  have hS13 : LI s13.heap S ns := hS8.keeps (u13.seq y8.live)
  -- head, size
  refine wpAny_execs_cons (st14 hr l y13 V13 hS13 hlen fun th s14 t14 VH14 => ?_)
  have y14 := y13.stp l t14
  refine wpAny_execs_cons (st15 hr l y14 VH14 fun tz s15 t15 VZ15 => ?_)
  have y15 := y14.stp l t15
  have V15 := t15.vars _ _ (by decide) (t14.vars _ _ (by decide) V13)
  have VH15 := t15.vars _ _ (by decide) VH14
  have hS15 : LI s15.heap S ns := (hS13.keeps (t14.seq y13.live)).keeps (t15.seq y14.live)
  generalize hhd : cellOf ns 0 = hd at VH15 VZ15
  have hz0 := Int.fmod_nonneg_of_pos hd (show (0 : Int) < 6 by decide)
  have hz1 := Int.fmod_lt_of_pos hd (show (0 : Int) < 6 by decide)
  obtain ⟨size, hsz⟩ : ∃ size : Nat, 1 + hd.fmod 6 = (size : Int) := ⟨(1 + hd.fmod 6).toNat, by omega⟩
  rw [hsz] at VZ15
  have hsz1 : 1 ≤ size := by omega
  have hsz6 : size ≤ 6 := by omega
  -- near, kept
  refine wpAny_execs_cons (st16 hr l y15 V15 hS15 hlen VZ15 hsz6 fun N s16 kvs t16 VN16 G16 hkeys hNs hNn => ?_)
  have hNo : Out env N := y15.live.out hNn
  have y16 := y15.stp l t16
  obtain ⟨gok, rn, rz⟩ := near_ok (ns := ns) hkeys
  have kl : kvs.length = size := by have := congrArg List.length hkeys; simpa using this
  have ok : GraphOk kvs (nearG ns size) := ⟨by omega, gok.nod, fun kv _ => by have := rz kv.1; omega, gok.closed⟩
  refine wpAny_execs_cons (st17 hr l y16 VN16 G16 hNs ok fun K s17 kvs' t17 VK17 G17 hk' hKs hKn => ?_)
  have hKo : Out env K := y16.live.out hKn
  have y17 := y16.stp l t17
  have kl' : kvs'.length = size := by have := congrArg List.length hk'; simp only [List.length_map] at this; omega
  have ok' : GraphOk kvs' (nearG ns size) := ⟨by omega, by rw [hk']; exact gok.nod, fun kv _ => by have := rz kv.1; omega, by rw [hk']; exact gok.closed⟩
  have H : H18 env N K kvs kvs' (nearG ns size) size := ⟨hkeys, hk', ok, ok', gok, rn, hNs, hKs, hNo, hKo, hsz1, hsz6⟩
  have C : C18 prog w env N K kvs kvs' (nearG ns size) hd size s17.heap :=
    ⟨t17.vars _ _ (by decide) VN16, VK17, G16.keeps fun b o e hb => by
      rcases hb with rfl | hb
      · exact t17.old hNo e
      · exact t17.seq y16.live b o e hb, G17, ⟨th, t17.vars _ _ (by decide) (t16.vars _ _ (by decide) VH15)⟩, ⟨tz, t17.vars _ _ (by decide) (t16.vars _ _ (by decide) VZ15)⟩⟩
  refine wpAny_execs_cons (st18 hr l y17 H C fun s18 t18 => ?_)
  have y18 := y17.stp l t18
  have C' := C.stp H y17.live t18 (fun n hn => hn)
  exact wpAny_execs_cons (st19 hr l y18 C'.vn C'.vk C'.g C'.g' hk' hNs hKs (h s18 y18.ex))
end
end Mine
end

section
open PySem PySem.W PyProof.Rows PySem.Calls
set_option maxRecDepth 100000
set_option linter.unusedVariables false
namespace Mine
section
variable {prog : Program} {w : World} {A : Around} {E : Value → Shared → Prop} {s : Shared} {mg mb : Str → Option Value}
def freeOf' (p : Program) (loose : List Str) (x : Str) : Bool :=
  !(startupNames.contains x || loose.contains x || ((recsOf p).map (·.name)).contains x || ((litsOf p).map (·.1)).contains x || ((clssOf p loose).map (·.name)).contains x)
theorem law_run {p : Program} {loose : List Str} {mean : ExcName → Option Value} {S fa : Addr} {ns : List Int} {Q : Value → Shared → Prop} (T : Top p loose mean mg mb s.heap) (hrec : recsOf p = (List.range 7).map dr) (XP : ∃ a, PwAt s.heap mg a)
    (hnob : builtNames.all (freeOf' p loose) = true) (hr : Rm A 4) (hS : LI s.heap S ns) (hlen : ns.length ≤ 100) (hfa : mg (nm "law") = some (.ref fa))
    (h : ∀ s', Ex s s' → Q (.bool true) s') : wpAny (model prog w) A (call (.ref fa) [.ref S]) Q E s := by
  have fn : ∀ i, i < 7 → ∃ a, AtF s.heap mg i a := fun i hi => by
    have hm : dr i ∈ recsOf p := by
      rw [hrec]
      exact List.mem_map_of_mem (List.mem_range.mpr hi)
    obtain ⟨a, o, pm, code, doc, h1, h2, h3, h4⟩ := T.fn _ hm
    exact ⟨a, h1, o, pm, code, doc, h2, h3, h4⟩
  obtain ⟨a0, X0⟩ := fn 0 (by decide)
  obtain ⟨a1, X1⟩ := fn 1 (by decide)
  obtain ⟨a2, X2⟩ := fn 2 (by decide)
  obtain ⟨a3, X3⟩ := fn 3 (by decide)
  obtain ⟨a4, X4⟩ := fn 4 (by decide)
  obtain ⟨a5, X5⟩ := fn 5 (by decide)
  obtain ⟨a6, X6⟩ := fn 6 (by decide)
  have e6 : a6 = fa := by
    have h1 := X6.glob
    have h2 : (dr 6).name = nm "law" := by rfl
    rw [h2, hfa] at h1
    cases h1; rfl
  subst e6
  obtain ⟨ap, XP⟩ := XP
  have Dw : Wd mg mb s.heap := ⟨T.g, T.b, T.nolimit, T.builtins, fun x hx => by
    have := List.all_eq_true.mp hnob x hx
    simp only [freeOf', Bool.not_eq_true', Bool.or_eq_false_iff] at this
    obtain ⟨⟨⟨⟨h1, h2⟩, h3⟩, h4⟩, h5⟩ := this
    exact T.free x (fun q => by rw [List.contains_iff_mem.mpr q] at h1; cases h1) (fun q => by rw [List.contains_iff_mem.mpr q] at h2; cases h2) (fun q => by rw [List.contains_iff_mem.mpr q] at h3; cases h3) (fun q => by rw [List.contains_iff_mem.mpr q] at h4; cases h4) (fun q => by rw [List.contains_iff_mem.mpr q] at h5; cases h5)⟩
  refine call_at (binds := [(nm "script", .ref S)]) hr.room X6 Dw (fun pm code doc => by rfl) [nm "script"] rfl (by decide +kernel) (by decide) fun env s₁ E' hs hc F L M V => ?_
  have V1 : VarAt s₁.heap env (nm "script") (.ref S) := V _ List.mem_cons_self
  exact law_body (s₀ := s) (as := ⟨a0, a1, a2, a3, a4, a5, ap⟩) (hr.deeper env) ⟨F, hs, ⟨_, hc⟩, Dw, X0, X1, X2, X3, X4, X5, XP⟩ ⟨L, M.ex⟩ V1 (hS.keeps fun b o e _ => M.all _ _ e) hlen fun s' x => h s' x
end
end Mine
end

open PySem PySem.W PyProof.Rows
set_option maxRecDepth 100000 in
set_option maxHeartbeats 8000000 in
theorem PySem.Challenge.cw_aw6014_01_holds : PySem.Challenge.rw_aw6014_01.Holds := by
  w_on
  o_law
  k_head
  (case hw => w_witness2)
  k_fill
  intro w s0 s1 mg mb G Y fa o pm cd doc dV kV ho hd hcd hD hmg hg args vals as hpre hlay hrd hwl hlo
  refine Ground.open G ?_
  intro T B D TE TW
  have KX := kIn_of Y
  clear ho hd hcd hD Y
  wrow_args hpre hlay hrd hwl hlo
  refine Mine.law_run T (by kernel_rfl) ⟨29, mg_of KX T.g (by kernel_rfl), _, _, _, _, 22, KX 29 _ rfl, rfl, codeRec_of KX (by kernel_rfl), ⟨_, KX 22 _ rfl, rfl, _, rfl⟩⟩ (by decide +kernel) ⟨rfl, by decide +kernel, by decide +kernel⟩ ⟨_, by assumption, by assumption⟩ (by omega) hmg fun s' x => ?_
  refine ⟨.inl ⟨.bool true, .bool true, [], rfl, fun _ => ?_, .bool true, ?_, fun _ => ⟨List.nodup_nil, fun a ha => nomatch ha⟩⟩, OldK.of_keep x.kp, x.os, x.gens (.of_eq hg)⟩
  · rfl
  · wrow_post
