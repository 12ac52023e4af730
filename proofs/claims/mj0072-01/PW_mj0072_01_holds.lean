import PyProof.Rows.All
import Wide.All
import OpenK.AllK
import Wide.FinOn
import PySem.Challenge.RW_mj0072_01
open PySem PySem.W PyProof.Rows
set_option Elab.async false
set_option maxRecDepth 100000
set_option linter.unusedVariables false
namespace Mine
set_option maxRecDepth 100000 in
set_option maxHeartbeats 8000000 in
open_top hd for PySem.Challenge.rw_mj0072_01
abbrev prog : Program := PySem.Challenge.rw_mj0072_01.row.prog
abbrev Mo (w : World) : Model := model prog w
noncomputable abbrev KK (w : World) : Frag := hd.heap_39 w.params

structure Grow (s s' : Shared) : Prop where
  kp : ∀ b o, s.heap.get? b = some o → s'.heap.get? b = some o
  same : s' = { s with heap := s'.heap, toks := s'.toks }
theorem Grow.gens {s s' : Shared} (g : Grow s s') : s'.gens = s.gens := by rw [g.same]
theorem Grow.os {s s' : Shared} (g : Grow s s') : s'.os = s.os := by rw [g.same]
theorem Grow.refl (s : Shared) : Grow s s := ⟨fun _ _ e => e, rfl⟩
theorem Grow.trans {a b c : Shared} (x : Grow a b) (y : Grow b c) : Grow a c := ⟨fun _ _ e => y.kp _ _ (x.kp _ _ e), by
  have hx := x.same
  have hy := y.same
  rw [hx] at hy
  exact hy⟩
theorem Grow.toks (s : Shared) (k : Nat) : Grow s { s with toks := k } := ⟨fun _ _ e => e, rfl⟩
theorem Grow.heap {s : Shared} {h' : Heap} (k : ∀ b o, s.heap.get? b = some o → h'.get? b = some o) (n : Nat) : Grow s { s with heap := h', toks := n } := ⟨k, rfl⟩
theorem Grow.push (s : Shared) (o : Obj) (n : Nat) : Grow s { s with heap := s.heap.push o, toks := n } := ⟨fun _ _ e => Heap.get?_push_of_some _ e, rfl⟩

structure Amb (w : World) (h : Heap) : Prop where
  k : (KK w).In h
  b : ∃ mb, h.Ns builtinsNs mb ∧ ∀ x : Str, x ≠ "__name__" → mb x = bootBuiltins x
  bm : ∃ ob, h.get? 4 = some ob ∧ ob.cls = .type "module" ∧ ob.dict = some builtinsNs ∧ ob.data = .plain
theorem Amb.keeps {w : World} {h h' : Heap} (x : Amb w h) (k : ∀ b o, h.get? b = some o → h'.get? b = some o) : Amb w h' :=
  ⟨x.k.keeps k, (let ⟨mb, a, c⟩ := x.b; ⟨mb, a.keeps k, c⟩), (let ⟨ob, a, c⟩ := x.bm; ⟨ob, k _ _ a, c⟩)⟩
theorem Amb.grow {w : World} {s s' : Shared} (x : Amb w s.heap) (g : Grow s s') : Amb w s'.heap := x.keeps g.kp

/-- what the walk knows of the run's surroundings -/
structure AOk (A : Around) (d u : Nat) : Prop where
  handled : A.handled = none
  guards : A.guards = some []
  depth : A.depth ≤ d
  units : A.units ≤ u
theorem AOk.deeper {A : Around} {d u : Nat} (x : AOk A d u) (env : Env) : AOk (A.deeper env) (d + 1) (u + 3) :=
  ⟨x.handled, x.guards, Nat.succ_le_succ x.depth, Nat.add_le_add_right x.units 3⟩
theorem AOk.in1 {A : Around} {d u : Nat} (x : AOk A d u) : AOk A.in1 d (u + 1) := ⟨x.handled, x.guards, x.depth, Nat.succ_le_succ x.units⟩

theorem objs_empty_ns {h : Heap} {a : Addr} {c : Value} {n : Nat} {sl : Array (Option Value)} {dd : Option Addr} (e : h.get? a = some ⟨c, dd, .dict #[] n, sl⟩) : h.Ns a (fun _ => none) :=
  ⟨_, _, _, e, rfl, fun e he => by simp at he, fun _ => rfl⟩
theorem Amb.statics {w : World} {h : Heap} (x : Amb w h) : h.Ns cStatics (fun _ => none) := objs_empty_ns (x.k 2 _ rfl)
theorem Amb.nolimit {w : World} {h : Heap} (x : Amb w h) : h.NoLimit := ⟨_, x.statics, rfl⟩

/-- the frame of a running def: its locals m at L, what it has made (news), all that stood before (s₀) kept -/
structure Fm (w : World) (s₀ : Shared) (L : Addr) (m : Str → Option Value) (news : List (Addr × Obj)) (s : Shared) : Prop where
  ns : s.heap.Ns L m
  keep : ∀ b o, s₀.heap.get? b = some o → s.heap.get? b = some o
  fresh : s₀.heap.get? L = none
  N : ∀ p ∈ news, s.heap.get? p.1 = some p.2 ∧ p.1 ≠ L ∧ s₀.heap.get? p.1 = none
  same : s = { s₀ with heap := s.heap, toks := s.toks }
  amb : Amb w s.heap
  low : Amb w s₀.heap
section
variable {w : World} {s₀ s s' : Shared} {L : Addr} {m : Str → Option Value} {news : List (Addr × Obj)}
theorem Fm.grow (f : Fm w s₀ L m news s) (g : Grow s s') : Fm w s₀ L m news s' :=
  ⟨f.ns.keeps g.kp, fun b o e => g.kp _ _ (f.keep b o e), f.fresh, fun p hp => ⟨g.kp _ _ (f.N p hp).1, (f.N p hp).2⟩, (Grow.trans ⟨f.keep, f.same⟩ g).same, f.amb.grow g, f.low⟩
theorem Fm.out (f : Fm w s₀ L m news s) : Grow s₀ s := ⟨f.keep, f.same⟩
theorem Fm.get (f : Fm w s₀ L m news s) {a : Addr} {o : Obj} (hm : (a, o) ∈ news) : s.heap.get? a = some o := (f.N _ hm).1
theorem Fm.new (f : Fm w s₀ L m news s) (g : Grow s s') {a : Addr} {o : Obj} (ha : s'.heap.get? a = some o) (hn : s.heap.get? a = none) : Fm w s₀ L m ((a, o) :: news) s' := by
  have f' := f.grow g
  refine ⟨f'.ns, f'.keep, f'.fresh, fun p hp => ?_, f'.same, f'.amb, f'.low⟩
  rcases List.mem_cons.mp hp with rfl | hp
  · refine ⟨ha, fun e => ?_, ?_⟩
    · obtain ⟨oL, _, _, hL, _⟩ := f.ns
      have : a = L := e
      rw [this, hL] at hn; cases hn
    · cases hq : s₀.heap.get? a with
      | none => rfl
      | some o' => rw [f.keep _ _ hq] at hn; cases hn
  · exact f'.N p hp
theorem Fm.sub (f : Fm w s₀ L m news s) {news' : List (Addr × Obj)} (h : ∀ p ∈ news', p ∈ news) : Fm w s₀ L m news' s := ⟨f.ns, f.keep, f.fresh, fun p hp => f.N p (h p hp), f.same, f.amb, f.low⟩
theorem Fm.tok (f : Fm w s₀ L m news s) (k : Nat) : Fm w s₀ L m news { s with toks := k } := f.grow (Grow.toks s k)

/-- every object but the one at L -/
def others (h : Heap) (L : Addr) : List (Addr × Obj) := (List.range h.objs.size).filterMap fun a => if a = L then none else (h.get? a).map fun o => (a, o)
theorem mem_others {h : Heap} {L a : Addr} {o : Obj} : (a, o) ∈ others h L ↔ a ≠ L ∧ h.get? a = some o := by
  unfold others
  rw [List.mem_filterMap]
  constructor
  · rintro ⟨b, hb, e⟩
    split at e
    · cases e
    · rename_i hne
      rw [Option.map_eq_some_iff] at e
      obtain ⟨o', ho, e⟩ := e
      cases e
      exact ⟨hne, ho⟩
  · rintro ⟨hne, ho⟩
    exact ⟨a, List.mem_range.mpr (Heap.lt_size ho), by rw [if_neg hne, ho]; rfl⟩
theorem Fm.fr (f : Fm w s₀ L m news s) : Fr {} L s.heap m := ⟨f.ns, fun b o e => by simp [Heap.get?] at e, Nat.zero_le _⟩
theorem news_others (h : Heap) (L : Addr) : News {} L h (others h L) := fun p hp => by
  obtain ⟨a, o⟩ := p
  obtain ⟨h1, h2⟩ := mem_others.mp hp
  exact ⟨h2, h1, by simp [Heap.get?]⟩
theorem Fm.back (f : Fm w s₀ L m news s) {h' : Heap} {ns : List (Addr × Obj)} {m' : Str → Option Value} (F : Fr {} L h' m') (N : News {} L h' ns) (hs : ∀ p ∈ others s.heap L, p ∈ ns) (hg : s' = { s with heap := h', toks := s'.toks }) : Fm w s₀ L m' news s' := by
  have hh : s'.heap = h' := by rw [hg]
  have hsame : s' = { s₀ with heap := s'.heap, toks := s'.toks } := by rw [hg, f.same]
  clear hg
  subst hh
  have kp : ∀ b o, b ≠ L → s.heap.get? b = some o → s'.heap.get? b = some o := fun b o hne e => (N (b, o) (hs _ (mem_others.mpr ⟨hne, e⟩))).1
  have kz : ∀ b o, s₀.heap.get? b = some o → s'.heap.get? b = some o := fun b o e => kp b o (fun q => by rw [q, f.fresh] at e; cases e) (f.keep _ _ e)
  exact ⟨F.ns, kz, f.fresh, fun p hp => ⟨kp _ _ (f.N p hp).2.1 (f.N p hp).1, (f.N p hp).2⟩, hsame, f.low.keeps kz, f.low⟩
theorem Fm.backN (f : Fm w s₀ L m news s) {h' : Heap} {a : Addr} {o : Obj} {m' : Str → Option Value} (F : Fr {} L h' m') (N : News {} L h' ((a, o) :: others s.heap L)) (hn : s.heap.get? a = none) (hg : s' = { s with heap := h', toks := s'.toks }) : Fm w s₀ L m' ((a, o) :: news) s' := by
  have f' := f.back (s' := s') F N (fun p hp => List.mem_cons_of_mem _ hp) hg
  refine ⟨f'.ns, f'.keep, f'.fresh, fun p hp => ?_, f'.same, f'.amb, f'.low⟩
  rcases List.mem_cons.mp hp with rfl | hp
  · have hh : s'.heap = h' := by rw [hg]
    refine ⟨by rw [hh]; exact (N _ (.head _)).1, (N _ (.head _)).2.1, ?_⟩
    cases hq : s₀.heap.get? a with
    | none => rfl
    | some o' => rw [f.keep _ _ hq] at hn; cases hn
  · exact f'.N p hp
theorem size_none (h : Heap) : h.get? h.objs.size = none := by
  cases hq : h.get? h.objs.size with
  | none => rfl
  | some o => exact absurd (Heap.lt_size hq) (Nat.lt_irrefl _)

def upd (m : Str → Option Value) (x : Str) (v : Value) : Str → Option Value := fun y => if y = x then some v else m y
theorem upd_eq (m : Str → Option Value) (x : Str) (v : Value) : upd m x v x = some v := if_pos rfl
theorem upd_ne (m : Str → Option Value) {x y : Str} (v : Value) (h : y ≠ x) : upd m x v y = m y := if_neg h
theorem ofs_ne {a b : String} (h : a ≠ b) : Str.ofString a ≠ Str.ofString b := fun e => h (by
  rw [Str.ofString_eq_toList, Str.ofString_eq_toList] at e
  injection e with e
  have := congrArg Array.toList e
  simp only at this
  have hinj : ∀ l l' : List Char, l.map Char.toNat = l'.map Char.toNat → l = l' := by
    intro l
    induction l with
    | nil => intro l' h; cases l' <;> simp_all
    | cons c t ih => intro l' h; cases l' with
      | nil => simp at h
      | cons c' t' =>
        simp only [List.map_cons, List.cons.injEq] at h
        rw [ih _ h.2, Char.toNat_inj.mp h.1]
  exact String.toList_inj.mp (hinj _ _ this))
/-- the parameters' values -/
noncomputable def bnd : List (Str × Value) → Str → Option Value
  | [] => fun _ => none
  | (x, v) :: r => upd (bnd r) x v
theorem bnd_lookup (l : List (Str × Value)) : (fun x => l.lookup x) = bnd l := by
  induction l with
  | nil => rfl
  | cons p r ih =>
    obtain ⟨x, v⟩ := p
    funext y
    simp only [List.lookup_cons, bnd, upd]
    by_cases hy : y = x
    · subst hy; simp
    · have : (y == x) = false := beq_eq_false_iff_ne.mpr hy
      rw [this, if_neg hy, ← ih]

noncomputable def params0 : Params := { strHash := fun _ => 0, shareClass := fun _ => 0, mergeTok := fun t => t, idOf := fun _ => 0, idOfShared := fun _ _ => 0, followText := fun _ => false, idOfImm := fun _ => 0 }
/-- the def at f, as the top leaves it -/
noncomputable def fdOf (f : Addr) : FuncData := match (hd.heap_39 params0).lookup f with
  | some ⟨_, _, .func fd, _⟩ => fd
  | _ => default
noncomputable def kindIn (f : Addr) (x : Str) : Option NameKind := (fdOf f).scope.names.lookup x
structure EnvOk (env : Env) (kd : Str → Option NameKind) : Prop where
  kindOf : ∀ x, env.kindOf x = kd x
  kind : env.scope.kind = .function
  globals : env.globals = mainGlobals
  builtins : env.builtins = builtinsNs
/-- the environment is a frame of the def at f -/
structure EnvF (env : Env) (f : Addr) : Prop where
  scope : env.scope = (fdOf f).scope
  code : env.code = (fdOf f).code
  qual : env.qual = (fdOf f).qualname ++ ".<locals>."
  frame : env.frame = some env.locals

theorem r_store {A : Around} {E : Value → Shared → Prop} {Q : Unit → Shared → Prop} {env : Env} {x : Str} {v : Value} {kd : Str → Option NameKind} (e : EnvOk env kd) (f : Fm w s₀ env.locals m news s)
    (h : ∀ s', Fm w s₀ env.locals (upd m x v) news s' → Q () s') (hl : kd x = some .local := by kernel_rfl) :
    wpAny (Mo w) A (storeName env x v) Q E s := by
  refine wpAny_storeName_local ((e.kindOf x).trans hl) f.ns (fun h' hn hs => h _ ?_) (by rw [e.kind]; rfl)
  have kz : ∀ b o, s₀.heap.get? b = some o → h'.get? b = some o := fun b o e => (hs.2 b (fun q => by rw [q, f.fresh] at e; cases e)).trans (f.keep _ _ e)
  refine ⟨hn, kz, f.fresh, fun p hp => ⟨(hs.2 _ (f.N p hp).2.1).trans (f.N p hp).1, (f.N p hp).2⟩, ?_, f.low.keeps kz, f.low⟩
  show ({ s with heap := h', toks := s.toks + 1 } : Shared) = _
  rw [f.same]
theorem r_local {A : Around} {E : Value → Shared → Prop} {Q : Value → Shared → Prop} {env : Env} {x : Str} {pos : Pos} {v : Value} {kd : Str → Option NameKind} (e : EnvOk env kd) (f : Fm w s₀ env.locals m news s) (hv : m x = some v) (h : Q v s)
    (hl : kd x = some .local := by kernel_rfl) (hd : (x == ("__debug__" : Str)) = false := by decide) :
    wpAny (Mo w) A (eval (.Name x pos) env) Q E s := wpAny_Name (wpAny_loadName_local e.kind ((e.kindOf x).trans hl) f.ns hv h) hd

theorem ns_of_K {h : Heap} (X : (KK w).In h) : ∃ mg, h.Ns mainGlobals mg ∧ ∀ x r, nsIn (KK w) mainGlobals x = some r → mg x = r := by
  have hl : (KK w).lookup 3 = some ⟨.type "dict", none, .dict _ _, _⟩ := rfl
  have hg := X 3 _ hl
  refine ⟨_, ⟨_, _, _, hg, rfl, ?_, fun _ => rfl⟩, fun x r e => ?_⟩
  · intro e he
    simp only [List.mem_toArray, List.mem_cons, List.not_mem_nil, or_false] at he
    rcases he with rfl | rfl | rfl | rfl | rfl | rfl | rfl | rfl | rfl | rfl | rfl | rfl | rfl | rfl | rfl | rfl | rfl | rfl | rfl | rfl | rfl | rfl | rfl | rfl | rfl | rfl | rfl | rfl <;> exact ⟨_, _, rfl⟩
  · have hG : h.Ns mainGlobals (nsFind _) := ⟨_, _, _, hg, rfl, ?_, fun _ => rfl⟩
    · cases r with
      | some v => exact mg_of X hG e
      | none => exact mg_none_of X hG e
    · intro e he
      simp only [List.mem_toArray, List.mem_cons, List.not_mem_nil, or_false] at he
      rcases he with rfl | rfl | rfl | rfl | rfl | rfl | rfl | rfl | rfl | rfl | rfl | rfl | rfl | rfl | rfl | rfl | rfl | rfl | rfl | rfl | rfl | rfl | rfl | rfl | rfl | rfl | rfl | rfl <;> exact ⟨_, _, rfl⟩
end
section
variable {w : World} {s₀ s s' : Shared} {L : Addr} {m : Str → Option Value} {news : List (Addr × Obj)} {A : Around} {E : Value → Shared → Prop} {Q : Value → Shared → Prop} {env : Env} {x : Str} {pos : Pos} {v : Value} {kd : Str → Option NameKind}
theorem r_global (e : EnvOk env kd) (X : Amb w s.heap) (hn : nsIn (KK w) mainGlobals x = some (some v)) (h : Q v s)
    (hx : kd x = some .globalImplicit := by kernel_rfl) (hd : (x == ("__debug__" : Str)) = false := by decide) : wpAny (Mo w) A (eval (.Name x pos) env) Q E s := by
  obtain ⟨mg, G, hm⟩ := ns_of_K X.k
  exact Calls.Name_function_global e.kind ((e.kindOf x).trans hx) (Calls.loadGlobal_global (env := env) (e.globals.symm ▸ G) (hm _ _ hn) h) hd
theorem r_builtin (e : EnvOk env kd) (X : Amb w s.heap) (hb : bootBuiltins x = some v) (hn : nsIn (KK w) mainGlobals x = some none) (h : Q v s) (hx : kd x = some .globalImplicit := by kernel_rfl)
    (hne : x ≠ "__name__" := by decide) (hd : (x == ("__debug__" : Str)) = false := by decide) : wpAny (Mo w) A (eval (.Name x pos) env) Q E s := by
  obtain ⟨mg, G, hm⟩ := ns_of_K X.k
  obtain ⟨mb, B, hB⟩ := X.b
  exact Calls.Name_function_global e.kind ((e.kindOf x).trans hx) (Calls.loadGlobal_builtin (env := env) (e.globals.symm ▸ G) (hm _ _ hn) (e.builtins.symm ▸ B) ((hB x hne).trans hb) h) hd

/-- entering a def without cells -/
theorem enter {f : Addr} {oc : Value} {od : Option Addr} {osl : Array (Option Value)} {fd : FuncData} {args : List Value} {body : List Stmt} (binds : List (Str × Value)) (nw : List (Addr × Obj)) (X : Amb w s.heap) {d u : Nat} (a : AOk A d u)
    (ho : (KK w).lookup f = some ⟨oc, od, .func fd, osl⟩) (hb : fd.body = .stmts body) (hcd : codeIn (KK w) fd.code fd.qualname = true)
    (hbind : ∀ (A : Around) (E : Value → Shared → Prop) (Q : List (Str × Value) → Shared → Prop), (∀ s', Grow s s' → (∀ p ∈ nw, s'.heap.get? p.1 = some p.2 ∧ s.heap.get? p.1 = none) → Q binds s') → wpAny (Mo w) A (bindArgs fd ⟨args, []⟩) Q E s)
    (hloc : (binds.all fun x => fd.scope.names.lookup x.1 == some .local) = true)
    (h : ∀ env s₁, EnvOk env (kindIn f) → EnvF env f → Fm w s env.locals (bnd binds.reverse) nw s₁ → AOk (A.deeper env) (d + 1) (u + 3) →
      wpAny (Mo w) (A.deeper env) (execs body env) (fun fl s' => Q (match fl with | .ret v => v | _ => .none) s') (fun _ _ => False) s₁)
    (hfd : fd = fdOf f := by kernel_rfl) (hg : fd.globals = mainGlobals := by rfl) (hcl : fd.closure = [] := by rfl) (hbu : fd.builtins = builtinsNs := by rfl)
    (hco : fd.scope.isCoroutine = false := by rfl) (hgen : fd.scope.isGenerator = false := by rfl) (hk : fd.scope.kind = .function := by rfl)
    (hcell : (fd.scope.names.all fun x => x.2 != .cell) = true := by rfl) (hd : d < 1000 := by first | assumption | omega) : wpAny (Mo w) A (call (.ref f) args) Q E s := by
  have hcell' : ∀ x ∈ fd.scope.names, x.2 ≠ .cell := fun x hx => by simpa using List.all_eq_true.mp hcell x hx
  have hloc' : ∀ x ∈ binds, fd.scope.names.lookup x.1 = some .local := fun x hx => by simpa using List.all_eq_true.mp hloc x hx
  refine wpAny_call (codeAny_call_function (Nat.lt_of_le_of_lt a.depth hd) (X.k _ _ ho) rfl hco hgen hb (codeRec_of X.k hcd) ?_)
  refine hbind _ _ _ fun s₁ g₁ hnw => ?_
  have X₁ := X.grow g₁
  refine wpAny_newFunctionEnv hcell' hloc' (fun h₁ hns hsb => ⟨X₁.nolimit.fresh _ hsb, ?_⟩) hk
  refine codeAny_func ?_
  have kp : ∀ b o, s₁.heap.get? b = some o → h₁.get? b = some o := fun b o e => hsb.extBut b o (Nat.ne_of_lt (Heap.lt_size e)) (Heap.get?_push_of_some _ e)
  have g : Grow s₁ { s₁ with heap := h₁, toks := s₁.toks + binds.length } := Grow.heap kp _
  have kz : ∀ b o, s.heap.get? b = some o → h₁.get? b = some o := fun b o e => kp _ _ (g₁.kp _ _ e)
  rw [bnd_lookup] at hns
  refine wpAny_mono (h (newEnv fd.scope s₁.heap.objs.size fd.globals fd.closure (fd.qualname ++ ".<locals>.") (some f) fd.code none fd.builtins) _ ⟨fun x => by unfold kindIn; rw [← hfd]; rfl, hk, hg, hbu⟩ ⟨by rw [← hfd]; rfl, by rw [← hfd]; rfl, by rw [← hfd]; rfl, rfl⟩ ⟨hns, kz, ?_, fun p hp => ⟨kp _ _ (hnw p hp).1, Nat.ne_of_lt (Heap.lt_size (hnw p hp).1), (hnw p hp).2⟩, (g₁.trans g).same, X₁.keeps kp, X⟩ (a.deeper _)) (fun _ _ x => x) (fun _ _ x => x.elim)
  show s.heap.get? s₁.heap.objs.size = none
  cases hq : s.heap.get? s₁.heap.objs.size with
  | none => rfl
  | some o => exact absurd (Heap.lt_size (g₁.kp _ _ hq)) (Nat.lt_irrefl _)
theorem plainBind {K : Frag} {fd : FuncData} {args : List Value} {binds : List (Str × Value)} (X : K.In s.heap) (e : ∀ S, peek K S (bindArgs fd ⟨args, []⟩) = some binds) :
    ∀ (A : Around) (E : Value → Shared → Prop) (Q : List (Str × Value) → Shared → Prop), (∀ s', Grow s s' → (∀ p ∈ ([] : List (Addr × Obj)), s'.heap.get? p.1 = some p.2 ∧ s.heap.get? p.1 = none) → Q binds s') → wpAny (Mo w) A (bindArgs fd ⟨args, []⟩) Q E s :=
  fun _ _ _ h => kp_binds X e _ _ _ _ (h _ (Grow.refl _) fun _ hp => nomatch hp)
theorem wp_peek1 {α : Type} {K : Frag} {M : Model} {A : Around} {E : Value → Shared → Prop} {Q : α → Shared → Prop} {s : Shared} {o : Obj} {r : Addr → α} (X : K.In s.heap)
    (q : Q (r s.heap.objs.size) { s with heap := s.heap.push o }) :
    ∀ (t : Sem α) (g : Addr → Option α), peek1 K ⟨M.prog, M.w.params⟩ t = some (o, g) → (∀ D, g D = some (r D)) → wpAny M A t Q E s := by
  intro t
  induction t with
  | rule _ k ih => intro g e hg Γ p hΓ; exact ih () g e hg Γ p hΓ
  | point _ k ih => intro g e hg Γ p hΓ; exact ih () g e hg Γ p hΓ
  | ask k ih => intro g e hg Γ p hΓ; exact ih _ g e hg Γ p hΓ
  | load a _ k ih =>
    intro g e hg Γ p hΓ
    simp only [peek1] at e
    split at e
    · rename_i ob ho; exact ⟨ob, X _ _ ho, ih ob g e hg Γ p hΓ⟩
    · cases e
  | alloc ob k _ =>
    intro g e hg
    have e : some (ob, fun D => peek K ⟨M.prog, M.w.params⟩ (k D)) = some (o, g) := e
    obtain ⟨e1, e2⟩ := Prod.mk.inj (Option.some.inj e)
    subst e1
    subst e2
    have X' : K.In (s.heap.push ob) := X.keeps fun b x hb => Heap.get?_push_of_some _ hb
    show wpAny M A (alloc ob >>= k) Q E s
    refine wpAny_bind (wpAny_alloc ?_)
    exact (Looks.of_peek (M := M) (h := s.heap.push ob) X' (hg s.heap.objs.size)).here (s := { s with heap := s.heap.push ob }) q
  | _ => intro g e; cases e
theorem varBind {K : Frag} {fd : FuncData} {args : List Value} {o : Obj} (r : Addr → List (Str × Value)) (X : K.In s.heap) (hp : ∀ D, (peek1 K ⟨prog, w.params⟩ (bindArgs fd ⟨args, []⟩)).map (fun p => (p.1, p.2 D)) = some (o, some (r D))) (hf : o.isFreed = false) :
    ∀ (A : Around) (E : Value → Shared → Prop) (Q : List (Str × Value) → Shared → Prop), (∀ s', Grow s s' → (∀ p ∈ [(s.heap.objs.size, o)], s'.heap.get? p.1 = some p.2 ∧ s.heap.get? p.1 = none) → Q (r s.heap.objs.size) s') → wpAny (Mo w) A (bindArgs fd ⟨args, []⟩) Q E s := by
  intro A E Q h
  cases hq : peek1 K ⟨prog, w.params⟩ (bindArgs fd ⟨args, []⟩) with
  | none => have := hp 0; rw [hq] at this; cases this
  | some p =>
    obtain ⟨o', g⟩ := p
    have e : ∀ D, o' = o ∧ g D = some (r D) := fun D => by
      have := hp D
      rw [hq] at this
      have := Option.some.inj this
      exact ⟨congrArg Prod.fst this, congrArg Prod.snd this⟩
    have e1 := (e 0).1
    subst e1
    exact wp_peek1 (M := Mo w) X (h _ ⟨fun _ _ e => Heap.get?_push_of_some _ e, rfl⟩ fun p hp => by
      simp only [List.mem_singleton] at hp
      subst hp
      exact ⟨Heap.get?_push_size _ hf, size_none _⟩) _ g hq fun D => (e D).2
end
section
open PySem.StrLaws PySem.Builtin PySem.Builtin.Str
abbrev cl (x : PySem.Str) : List Nat := x.cps.toList
def mkS (l : List Nat) : PySem.Str := ⟨l.toArray⟩
@[simp] theorem cl_mkS (l : List Nat) : cl (mkS l) = l := by simp [cl, mkS]
theorem mkS_cl (x : PySem.Str) : mkS (cl x) = x := by cases x; simp [cl, mkS]
theorem cl_inj {x y : PySem.Str} (h : cl x = cl y) : x = y := by rw [← mkS_cl x, ← mkS_cl y, h]
@[simp] theorem cl_append (x y : PySem.Str) : cl (x ++ y) = cl x ++ cl y := by show (x.cps ++ y.cps).toList = _; simp [cl]
theorem length_cl (x : PySem.Str) : x.length = (cl x).length := by simp [cl, PySem.Str.length]
def tk (x : PySem.Str) (n : Nat) : PySem.Str := mkS ((cl x).take n)
def dr (x : PySem.Str) (n : Nat) : PySem.Str := mkS ((cl x).drop n)
@[simp] theorem cl_tk (x : PySem.Str) (n : Nat) : cl (tk x n) = (cl x).take n := cl_mkS _
@[simp] theorem cl_dr (x : PySem.Str) (n : Nat) : cl (dr x n) = (cl x).drop n := cl_mkS _
theorem length_tk (x : PySem.Str) (n : Nat) : (tk x n).length = min n x.length := by simp [length_cl]
theorem length_dr (x : PySem.Str) (n : Nat) : (dr x n).length = x.length - n := by simp [length_cl]

theorem tk_all {x : PySem.Str} {n : Nat} (h : x.length ≤ n) : tk x n = x := cl_inj (by rw [cl_tk, List.take_of_length_le (by rw [← length_cl]; exact h)])
theorem slice_to {x : PySem.Str} {j : Int} (h : 0 ≤ j) : Txt.slice x none (some j) = tk x j.toNat := by
  show sliceText x none (some j) = _
  by_cases hj : j ≤ x.cps.toList.length
  · rw [sliceText_to ⟨h, hj⟩]; simp [tk, mkS, cl]
  · have e : sliceText x none (some j) = sliceText x none (some (x.cps.toList.length : Int)) := by
      unfold sliceText
      have : strSliceIndices none (some j) 1 x.length = strSliceIndices none (some (x.cps.toList.length : Int)) 1 x.length := by
        have h1 : ¬ j < 0 := by omega
        have h2 : ¬ ((x.cps.toList.length : Int) < 0) := by omega
        have h3 : x.length = x.cps.toList.length := length_cl x
        have e1 : max (0 : Int) (min j (x.length : Int)) = max (0 : Int) (min (x.cps.toList.length : Int) (x.length : Int)) := by omega
        simp only [strSliceIndices, h1, h2, if_false, e1, show ((1 : Int) > 0) = True from by simp, if_true]
      rw [this]
    rw [e, sliceText_to ⟨by omega, by omega⟩, tk_all (by rw [length_cl]; show x.cps.toList.length ≤ _; omega)]
    apply cl_inj
    simp only [cl, List.toList_toArray, List.drop_zero]
    rw [List.take_of_length_le (by omega)]
theorem slice_from {x : PySem.Str} {i : Int} (h : 0 ≤ i) : Txt.slice x (some i) none = dr x i.toNat := by
  show sliceText x (some i) none = _
  have h3 : x.length = x.cps.toList.length := length_cl x
  by_cases hj : i ≤ x.cps.toList.length
  · rw [sliceText_from ⟨h, hj⟩]
    apply cl_inj
    simp only [cl_dr, cl]
    rw [List.take_of_length_le (by rw [List.length_drop]; omega)]
  · have e : sliceText x (some i) none = sliceText x (some (x.cps.toList.length : Int)) none := by
      unfold sliceText
      have : strSliceIndices (some i) none 1 x.length = strSliceIndices (some (x.cps.toList.length : Int)) none 1 x.length := by
        have h1 : ¬ i < 0 := by omega
        have h2 : ¬ ((x.cps.toList.length : Int) < 0) := by omega
        have e1 : max (0 : Int) (min i (x.length : Int)) = max (0 : Int) (min (x.cps.toList.length : Int) (x.length : Int)) := by omega
        simp only [strSliceIndices, h1, h2, if_false, e1, show ((1 : Int) > 0) = True from by simp, if_true]
      rw [this]
    rw [e, sliceText_from ⟨by omega, by omega⟩]
    apply cl_inj
    simp only [cl_dr, cl]
    rw [List.drop_eq_nil_of_le (as := x.cps.toList) (i := i.toNat) (by omega)]
    simp
theorem slice_mid {x : PySem.Str} {i j : Int} (h : 0 ≤ i) (hij : i ≤ j) (hj : j ≤ x.length) : Txt.slice x (some i) (some j) = tk (dr x i.toNat) (j - i).toNat := by
  show sliceText x (some i) (some j) = _
  rw [sliceText_plain ⟨h, hij, by have := length_cl x; show j ≤ ((cl x).length : Int); omega⟩]
  apply cl_inj
  simp [cl]

/-- the shape of a text that is found at one place: a run of the sign c, c nowhere else -/
theorem at_get {x y : PySem.Str} {n i k : Nat} (h : At x y n i) (hk : k < (cl y).length) : (cl x)[i + k]? = (cl y)[k]? := by
  have h2 := h.2
  rw [subAt_eq] at h2
  have e : ((cl x).drop i).take y.length = cl y := by simpa using h2
  rw [← e, List.getElem?_take, List.getElem?_drop]
  rw [if_pos (by rw [length_cl]; exact hk)]
theorem at_of {x y : PySem.Str} {i : Nat} (h : ((cl x).drop i).take (cl y).length = cl y) (hy : i + (cl y).length ≤ (cl x).length) : At x y x.length i := by
  refine ⟨by rw [length_cl, length_cl]; exact hy, ?_⟩
  rw [subAt_eq, length_cl y]
  simpa using h
theorem at_unique {a b y1 y2 : List Nat} {c k i : Nat} {x y : PySem.Str} {n : Nat} (hx : cl x = a ++ (y1 ++ List.replicate (k + 1) c ++ y2) ++ b) (hy : cl y = y1 ++ List.replicate (k + 1) c ++ y2)
    (ha : c ∉ a) (hb : c ∉ b) (h1 : c ∉ y1) (h2 : c ∉ y2) (h : At x y n i) : i = a.length := by
  -- where c stands in x
  have only : ∀ j, (cl x)[j]? = some c → a.length + y1.length ≤ j ∧ j ≤ a.length + y1.length + k := by
    intro j hj
    rw [hx] at hj
    have e : a ++ (y1 ++ List.replicate (k + 1) c ++ y2) ++ b = (a ++ y1) ++ (List.replicate (k + 1) c ++ (y2 ++ b)) := by simp
    rw [e] at hj
    by_cases c1 : j < (a ++ y1).length
    · rw [List.getElem?_append_left c1] at hj
      have := List.mem_of_getElem? hj
      rw [List.mem_append] at this
      exact (this.elim ha h1).elim
    · rw [List.getElem?_append_right (by omega)] at hj
      have e1 : (a ++ y1).length = a.length + y1.length := List.length_append
      by_cases c2 : j - (a ++ y1).length < (List.replicate (k + 1) c).length
      · rw [List.length_replicate] at c2; omega
      · rw [List.getElem?_append_right (by omega)] at hj
        have := List.mem_of_getElem? hj
        rw [List.mem_append] at this
        exact (this.elim h2 hb).elim
  have hlen : (cl y).length = y1.length + (k + 1) + y2.length := by rw [hy]; simp; omega
  have g0 := at_get h (k := y1.length) (by omega)
  have g1 := at_get h (k := y1.length + k) (by omega)
  have f0 : (cl y)[y1.length]? = some c := by
    rw [hy, List.append_assoc, List.getElem?_append_right (Nat.le_refl _), Nat.sub_self]
    rw [List.getElem?_append_left (by simp)]
    simp
  have f1 : (cl y)[y1.length + k]? = some c := by
    rw [hy, List.append_assoc, List.getElem?_append_right (by omega)]
    rw [List.getElem?_append_left (by simp)]
    rw [List.getElem?_replicate]
    rw [if_pos (by omega)]
  have o0 := only _ (g0.trans f0)
  have o1 := only _ (g1.trans f1)
  omega

theorem kind_ok {x : PySem.Str} (h : ∀ c ∈ cl x, c < 256) : PySem.Builtin.Str.strKind x = 1 := by
  unfold PySem.Builtin.Str.strKind
  rw [if_pos]
  rw [Array.all_eq_true_iff_forall_mem]
  intro c hc
  exact decide_eq_true (h c (by simpa [cl] using hc))

theorem chain_all {x y : PySem.Str} {hi : Nat} : ∀ {a : Nat} {l : List Nat} {f : Nat}, ChainTo x y hi a l f → ∀ c ∈ l, a ≤ c ∧ At x y hi c
  | _, [], _, _, _, hc => nomatch hc
  | a, d :: r, f, h, c, hc => by
    rcases List.mem_cons.mp hc with rfl | hm
    · exact ⟨h.1, h.2.1⟩
    · have := chain_all h.2.2 c hm
      exact ⟨by have := h.1; omega, this.2⟩
theorem split_at {x y : PySem.Str} {p : Nat} (hx : ∀ c ∈ cl x, c < 256) (hy : ∀ c ∈ cl y, c < 256) (hne : 0 < y.length) (hp : At x y x.length p) (hu : ∀ i, At x y x.length i → i = p) :
    Txt.split x y = [tk x p, dr x (p + y.length)] := by
  unfold Txt.split
  rw [if_neg]
  · obtain ⟨f, hf⟩ := occ_chain x y (x.length + 1)
    rcases occ_head x y (x.length + 1) (by omega) with ⟨_, hn⟩ | ⟨i, r, e, hi, _⟩
    · exact (hn _ hp).elim
    · have hip := hu _ hi
      subst hip
      have hr : r = [] := by
        rw [e] at hf
        cases r with
        | nil => rfl
        | cons j r =>
          have h2 := hf.2.2
          have := hu j h2.2.1
          have := h2.1
          omega
      subst hr
      rw [e]
      simp only [List.isEmpty_cons, Bool.false_eq_true, if_false]
      unfold partsBetween
      simp only [List.map_cons, List.map_nil, List.cons_append, List.nil_append, List.zip_cons_cons, List.zip_nil_right]
      rw [List.cons.injEq, List.cons.injEq]
      refine ⟨?_, ?_, rfl⟩
      · apply cl_inj
        show (strSub x 0 i).cps.toList = _
        rw [strSub_toList]; simp [cl]
      · apply cl_inj
        show (strSub x (i + y.length) x.length).cps.toList = _
        rw [strSub_toList]
        simp only [cl_dr, cl]
        rw [List.take_of_length_le (by rw [List.length_drop]; have := length_cl x; show (cl x).length - _ ≤ _; omega)]
  · rw [kind_ok hx, kind_ok hy]
    have := hp.1
    simp
    omega
theorem split_no {x y : PySem.Str} (h : ∀ i, ¬ At x y x.length i) : Txt.split x y = [x] := by
  unfold Txt.split
  split
  · rfl
  · rcases occ_head x y (x.length + 1) (by omega) with ⟨e, _⟩ | ⟨i, r, _, hi, _⟩
    · rw [e]; rfl
    · exact (h _ hi).elim
theorem no_at {x y : PySem.Str} {c : Nat} (hy : c ∈ cl y) (hx : c ∉ cl x) (n i : Nat) : ¬ At x y n i := fun h => by
  obtain ⟨k, hk, e⟩ := List.mem_iff_getElem.mp hy
  have := at_get h hk
  rw [List.getElem?_eq_getElem hk, e] at this
  exact hx (List.mem_of_getElem? this)
end
theorem sizeLine_val : sizeLine = 16777216 := rfl
section
variable {w : World} {s : Shared} {A : Around} {E : Value → Shared → Prop} {Q : Value → Shared → Prop} {env : Env} {pos : Pos} {k : Nat}
theorem o_cstr {x : PySem.Str} (h : ∀ s' t, Grow s s' → Q (.str x t) s') : wpAny (Mo w) A (eval (.Constant (.str x) k pos) env) Q E s := Calls.Constant_str (h _ _ (Grow.toks ..))
theorem o_cint {i : Int} (h : ∀ s' t, Grow s s' → Q (.int i t) s') : wpAny (Mo w) A (eval (.Constant (.int i) k pos) env) Q E s := wpAny_Constant_int (h _ _ (Grow.toks ..))
theorem o_add_str {x y : PySem.Str} {t u : Tok} (hsz : x.length + y.length ≤ sizeLine) (h : ∀ s' t', Grow s s' → Q (.str (x ++ y) t') s') : wpAny (Mo w) A (binaryOp .Add (.str x t) (.str y u)) Q E s :=
  PyProof.Rows.add_str (fun _ _ => h _ _ (Grow.toks ..)) hsz
theorem o_str_int {a : Int} {t : Tok} (ha : a.natAbs.log2 < 1920) (h : ∀ s' t', Grow s s' → Q (.str (toString a) t') s') : wpAny (Mo w) A (call (.type "str") [.int a t]) Q E s :=
  P.str_of_int ha (h _ _ (Grow.toks ..))
theorem o_len_str {x : PySem.Str} {t : Tok} (hfit : x.length ≤ sizeLine) (h : ∀ s' t', Grow s s' → Q (.int x.length t') s') : wpAny (Mo w) A (call (.builtin "len") [.str x t]) Q E s :=
  PyProof.Rows.len_str (by have : sizeLine = 16777216 := rfl; omega) (h _ _ (Grow.toks ..))
theorem o_eq_str {x y : PySem.Str} {t u : Tok} (h : Q (.bool (x == y)) s) : wpAny (Mo w) A (compareOp .Eq (.str x t) (.str y u)) Q E s := PyProof.Rows.eq_str h
theorem o_ne_str {x y : PySem.Str} {t u : Tok} (h : Q (.bool (x != y)) s) : wpAny (Mo w) A (compareOp .NotEq (.str x t) (.str y u)) Q E s := PyProof.Rows.ne_str h
theorem o_add {a b : Int} {t u : Tok} (h : ∀ s' t', Grow s s' → Q (.int (a + b) t') s') : wpAny (Mo w) A (binaryOp .Add (.int a t) (.int b u)) Q E s := PyProof.Rows.add_int (h _ _ (Grow.toks ..))
theorem o_sub {a b : Int} {t u : Tok} (h : ∀ s' t', Grow s s' → Q (.int (a - b) t') s') : wpAny (Mo w) A (binaryOp .Sub (.int a t) (.int b u)) Q E s := PyProof.Rows.sub_int (h _ _ (Grow.toks ..))
theorem o_fdiv {a b : Int} {t u : Tok} (hb : b ≠ 0) (hs : b.natAbs < 1073741824) (h : ∀ s' t', Grow s s' → Q (.int (a.fdiv b) t') s') : wpAny (Mo w) A (binaryOp .FloorDiv (.int a t) (.int b u)) Q E s := PyProof.Rows.floordiv_int hb (h _ _ (Grow.toks ..)) (Or.inl (PyProof.noPylong_small hs))
theorem o_mod {a b : Int} {t u : Tok} (hb : b ≠ 0) (h : ∀ s' t', Grow s s' → Q (.int (a.fmod b) t') s') : wpAny (Mo w) A (binaryOp .Mod (.int a t) (.int b u)) Q E s := PyProof.Rows.mod_int hb (h _ _ (Grow.toks ..))
theorem o_max {a b : Int} {t u : Tok} {d n : Nat} (ao : AOk A d n) (h : ∀ s' t', Grow s s' → Q (.int (max a b) t') s') : wpAny (Mo w) A (call (.builtin "max") [.int a t, .int b u]) Q E s :=
  max_two_ints ao.handled fun h' tk hk => by
    by_cases c : b > a
    · rw [if_pos c]; have := h _ u (Grow.heap hk tk); rwa [show max a b = b by omega] at this
    · rw [if_neg c]; have := h _ t (Grow.heap hk tk); rwa [show max a b = a by omega] at this
theorem o_min {a b : Int} {t u : Tok} {d n : Nat} (ao : AOk A d n) (h : ∀ s' t', Grow s s' → Q (.int (min a b) t') s') : wpAny (Mo w) A (call (.builtin "min") [.int a t, .int b u]) Q E s :=
  min_two_ints ao.handled fun h' tk hk => by
    by_cases c : b < a
    · rw [if_pos c]; have := h _ u (Grow.heap hk tk); rwa [show min a b = b by omega] at this
    · rw [if_neg c]; have := h _ t (Grow.heap hk tk); rwa [show min a b = a by omega] at this
theorem o_gt {a b : Int} {t u : Tok} (h : Q (.bool (decide (b < a))) s) : wpAny (Mo w) A (compareOp .Gt (.int a t) (.int b u)) Q E s := PyProof.Rows.gt_int h
theorem o_lt {a b : Int} {t u : Tok} (h : Q (.bool (decide (a < b))) s) : wpAny (Mo w) A (compareOp .Lt (.int a t) (.int b u)) Q E s := PyProof.Rows.lt_int h
theorem o_le {a b : Int} {t u : Tok} (h : Q (.bool (decide (a ≤ b))) s) : wpAny (Mo w) A (compareOp .LtE (.int a t) (.int b u)) Q E s := PyProof.Rows.le_int h
theorem o_eq {a b : Int} {t u : Tok} (h : Q (.bool (a == b)) s) : wpAny (Mo w) A (compareOp .Eq (.int a t) (.int b u)) Q E s := PyProof.Rows.eq_int h
theorem o_ne {a b : Int} {t u : Tok} (h : Q (.bool (a != b)) s) : wpAny (Mo w) A (compareOp .NotEq (.int a t) (.int b u)) Q E s := PyProof.Rows.ne_int h
theorem kept_of (s : Shared) : KeptH (fun h => ∀ b o, s.heap.get? b = some o → h.get? b = some o) := fun _ ob x b o e => Heap.get?_push_of_some ob (x b o e)
section
variable {value slice : PySem.Expr} {x : PySem.Str} {t : Tok}
theorem o_slice_ns {j : Int} {uj : Tok} (hj : 0 ≤ j) (hsz : x.length ≤ sizeLine) (h : ∀ s' t', Grow s s' → Q (.str (tk x j.toNat) t') s')
    (hs : subscripted slice false (.str x t) (.ref s.heap.objs.size) = operate [.ref s.heap.objs.size, .str x t] (getItem (.str x t) (.ref s.heap.objs.size)) := by with_unfolding_all rfl)
    (ht : ∀ r, letTemporaryGo value (.str x t) r = pure () := by intro _; with_unfolding_all rfl) :
    wpAny (Mo w) A (subscriptTail value slice (.str x t) (.ref s.heap.objs.size)) Q E { s with heap := s.heap.push { cls := .type "slice", data := .fields #[.none, .int j uj, .none] } } :=
  tail_of_ItemOn (SBH.sliceItem_ns (kept_of s) (fun _ _ e => e) (fun h' t' k a => by have := h _ t' (Grow.heap a k); rwa [← slice_to hj] at this) hsz) hs ht
theorem o_slice_nsR {j : Int} {uj : Tok} (hsz : x.length ≤ sizeLine) (h : ∀ s' t', Grow s s' → Q (.str (Txt.slice x none (some j)) t') s')
    (hs : subscripted slice false (.str x t) (.ref s.heap.objs.size) = operate [.ref s.heap.objs.size, .str x t] (getItem (.str x t) (.ref s.heap.objs.size)) := by with_unfolding_all rfl)
    (ht : ∀ r, letTemporaryGo value (.str x t) r = pure () := by intro _; with_unfolding_all rfl) :
    wpAny (Mo w) A (subscriptTail value slice (.str x t) (.ref s.heap.objs.size)) Q E { s with heap := s.heap.push { cls := .type "slice", data := .fields #[.none, .int j uj, .none] } } :=
  tail_of_ItemOn (SBH.sliceItem_ns (kept_of s) (fun _ _ e => e) (fun h' t' k a => h _ t' (Grow.heap a k)) hsz) hs ht
theorem o_slice_sn {i : Int} {ui : Tok} (hi : 0 ≤ i) (hsz : x.length ≤ sizeLine) (h : ∀ s' t', Grow s s' → Q (.str (dr x i.toNat) t') s')
    (hs : subscripted slice false (.str x t) (.ref s.heap.objs.size) = operate [.ref s.heap.objs.size, .str x t] (getItem (.str x t) (.ref s.heap.objs.size)) := by with_unfolding_all rfl)
    (ht : ∀ r, letTemporaryGo value (.str x t) r = pure () := by intro _; with_unfolding_all rfl) :
    wpAny (Mo w) A (subscriptTail value slice (.str x t) (.ref s.heap.objs.size)) Q E { s with heap := s.heap.push { cls := .type "slice", data := .fields #[.int i ui, .none, .none] } } :=
  tail_of_ItemOn (SBH.sliceItem_sn (kept_of s) (fun _ _ e => e) (fun h' t' k a => by have := h _ t' (Grow.heap a k); rwa [← slice_from hi] at this) hsz) hs ht
theorem o_slice_ssR {i j : Int} {ui uj : Tok} (hsz : x.length ≤ sizeLine) (h : ∀ s' t', Grow s s' → Q (.str (Txt.slice x (some i) (some j)) t') s')
    (hs : subscripted slice false (.str x t) (.ref s.heap.objs.size) = operate [.ref s.heap.objs.size, .str x t] (getItem (.str x t) (.ref s.heap.objs.size)) := by with_unfolding_all rfl)
    (ht : ∀ r, letTemporaryGo value (.str x t) r = pure () := by intro _; with_unfolding_all rfl) :
    wpAny (Mo w) A (subscriptTail value slice (.str x t) (.ref s.heap.objs.size)) Q E { s with heap := s.heap.push { cls := .type "slice", data := .fields #[.int i ui, .int j uj, .none] } } :=
  tail_of_ItemOn (SBH.sliceItem_ss (kept_of s) (fun _ _ e => e) (fun h' t' k a => h _ t' (Grow.heap a k)) hsz) hs ht
end
theorem o_def {f : Addr} {e : PySem.Expr} {rest : List PySem.Expr} (X : Amb w s.heap) (hk : keepIn (KK w) (.ref f) = true) (h : wpAny (Mo w) A (spliced (backTo pos (starEach (e :: rest) env))) (fun vs s₁ => (KK w).In s₁.heap ∧ wpAny (Mo w) A (call (.ref f) vs) Q E s₁) E s)
    (he : starEach (e :: rest) env = (false, eval e env) :: starEach rest env := by rfl) (hp : (backTo pos (starEach rest env)).any (·.1) = false := by rfl) : wpAny (Mo w) A (callWith pos (.ref f) [] (backTo pos (starEach (e :: rest) env)) []) Q E s :=
  callWith_K X.k hk (wpAny_mono h (fun vs s₁ x => x) fun _ _ x => x) he hp
end
section
variable {w : World}
theorem g_replace : nsIn (KK w) mainGlobals (PySem.Str.ofString "replace") = some (some (.ref 28)) := by kernel_rfl
theorem g_cram : nsIn (KK w) mainGlobals (PySem.Str.ofString "cram") = some (some (.ref 35)) := by kernel_rfl
theorem g_max : nsIn (KK w) mainGlobals (PySem.Str.ofString "_MAX_LENGTH") = some (some (.int 80 216)) := by kernel_rfl
theorem g_ph : nsIn (KK w) mainGlobals (PySem.Str.ofString "_PLACEHOLDER_LEN") = some (some (.int 12 218)) := by kernel_rfl
theorem g_beg : nsIn (KK w) mainGlobals (PySem.Str.ofString "_MIN_BEGIN_LEN") = some (some (.int 5 220)) := by kernel_rfl
theorem g_end : nsIn (KK w) mainGlobals (PySem.Str.ofString "_MIN_END_LEN") = some (some (.int 5 222)) := by kernel_rfl
theorem g_com : nsIn (KK w) mainGlobals (PySem.Str.ofString "_MIN_COMMON_LEN") = some (some (.int 5 224)) := by kernel_rfl
theorem g_diff : nsIn (KK w) mainGlobals (PySem.Str.ofString "_MIN_DIFF_LEN") = some (some (.int 41 230)) := by kernel_rfl
theorem g_shorten : nsIn (KK w) mainGlobals (PySem.Str.ofString "_shorten") = some (some (.ref 42)) := by kernel_rfl
theorem g_kind : nsIn (KK w) mainGlobals (PySem.Str.ofString "_kind") = some (some (.ref 49)) := by kernel_rfl
theorem g_fspath : nsIn (KK w) mainGlobals (PySem.Str.ofString "_fspath") = some (some (.ref 56)) := by kernel_rfl
theorem g_prefix : nsIn (KK w) mainGlobals (PySem.Str.ofString "_prefix") = some (some (.ref 63)) := by kernel_rfl
theorem g_common : nsIn (KK w) mainGlobals (PySem.Str.ofString "commonprefix") = some (some (.ref 68)) := by kernel_rfl
theorem g_csr : nsIn (KK w) mainGlobals (PySem.Str.ofString "_common_shorten_repr") = some (some (.ref 75)) := by kernel_rfl
theorem g_safe : nsIn (KK w) mainGlobals (PySem.Str.ofString "safe_repr") = some (some (.ref 83)) := by kernel_rfl
theorem g_pair : nsIn (KK w) mainGlobals (PySem.Str.ofString "_law_pair") = some (some (.ref 90)) := by kernel_rfl
theorem g_mark : nsIn (KK w) mainGlobals (PySem.Str.ofString "_law_mark") = some (some (.ref 97)) := by kernel_rfl
end
theorem log2_small {n : Int} (h : -1000000000 < n ∧ n < 1000000000) : n.natAbs.log2 < 1920 := by
  rcases Nat.eq_zero_or_pos n.natAbs with h0 | h0
  · rw [h0]; decide
  · have h1 : n.natAbs < 2 ^ 30 := by omega
    have := (Nat.log2_lt (by omega)).mpr h1
    omega
def markOf (n : Int) : PySem.Str := PySem.Str.ofString "[" ++ PySem.Str.ofString (toString n) ++ PySem.Str.ofString " chars]"
theorem dec_len {n : Int} (h : -1000000000 < n ∧ n < 1000000000) : (PySem.Str.ofString (toString n)).length ≤ 10 := by
  rw [PySem.ofString_length]; exact int_text_length_le10 (k := 9) (by decide) (by omega)
theorem lens : (PySem.Str.ofString "[").length = 1 ∧ (PySem.Str.ofString " chars]").length = 7 ∧ (PySem.Str.ofString "...").length = 3 ∧ (PySem.Str.ofString "]").length = 1 ∧ (PySem.Str.ofString ", ").length = 2 ∧ (PySem.Str.ofString "'").length = 1 ∧ (PySem.Str.ofString " [truncated]...").length = 15 ∧ (PySem.Str.ofString "abc").length = 3
   ∧ (PySem.Str.ofString "ab").length = 2 ∧ (PySem.Str.ofString "c").length = 1 ∧ (PySem.Str.ofString "c'").length = 2 ∧ (PySem.Str.ofString "(").length = 1 ∧ (PySem.Str.ofString ")").length = 1 ∧ (PySem.Str.ofString "{").length = 1 ∧ (PySem.Str.ofString "}").length = 1 ∧ (PySem.Str.ofString ": ").length = 2 ∧ (PySem.Str.ofString ", 0]").length = 4 := by decide +kernel
theorem iteT {b : Bool} {P R : Prop} (hb : b = true) (h : P) : if b = true then P else R := by rw [if_pos hb]; exact h
theorem iteF {b : Bool} {P R : Prop} (hb : b = false) (h : R) : if b = true then P else R := by rw [hb]; exact h
abbrev tupO (vs : List Value) : PySem.Obj := { cls := .type "tuple", data := .seq vs.toArray }
abbrev lstO (vs : List Value) : PySem.Obj := { cls := .type "list", data := .seq vs.toArray }
section
variable {w : World} {s : Shared} {A : Around} {E : Value → Shared → Prop} {Q : Value → Shared → Prop} {env : Env} {pos : Pos}
theorem push_new (s : Shared) (o : PySem.Obj) (hf : o.isFreed = false) : Grow s { s with heap := s.heap.push o } ∧ ({ s with heap := s.heap.push o } : Shared).heap.get? s.heap.objs.size = some o ∧ s.heap.get? s.heap.objs.size = none :=
  ⟨⟨fun _ _ e => Heap.get?_push_of_some _ e, rfl⟩, Heap.get?_push_size _ hf, size_none _⟩
theorem o_tuple {vs : List Value} (hsz : vs.length ≤ 1000) (h : ∀ s' a, Grow s s' → s'.heap.get? a = some (tupO vs) → s.heap.get? a = none → Q (.ref a) s') : wpAny (Mo w) A (newTuple vs) Q E s :=
  wpAny_newObj_type (let ⟨g, e, n⟩ := push_new s (tupO vs) rfl; h _ _ g e n) (by show vs.toArray.size ≤ sizeLine; rw [List.size_toArray, sizeLine_val]; omega)
theorem o_list {vs : List Value} (hsz : vs.length ≤ 1000) (h : ∀ s' a, Grow s s' → s'.heap.get? a = some (lstO vs) → s.heap.get? a = none → Q (.ref a) s') : wpAny (Mo w) A (newList vs) Q E s :=
  wpAny_newObj_type (let ⟨g, e, n⟩ := push_new s (lstO vs) rfl; h _ _ g e n) (by show vs.toArray.size ≤ sizeLine; rw [List.size_toArray, sizeLine_val]; omega)
end
set_option maxHeartbeats 4000000 in
theorem fmt_meets {x y : PySem.Str} {n : Int} {t tx tn ty : Tok} {b : Addr} (hx : x.length ≤ 1000000) (hy : y.length ≤ 1000000) (hn : 0 ≤ n) (hm : n < 10 ^ 10) (hd : n.natAbs.log2 < 1920) :
    Meets (Builtin.«str.__mod__» ⟨[.str ⟨#[37, 115, 91, 37, 100, 32, 99, 104, 97, 114, 115, 93, 37, 115]⟩ t, .ref b], []⟩) (fun _ R s => IsTup s.heap b #[.str x tx, .int n tn, .str y ty] ∧ ∀ t' k, R (.ok (.ret (.str (x ++ PySem.Str.ofString "[" ++ PySem.Str.ofString (toString n) ++ PySem.Str.ofString " chars]" ++ y) t'))) { s with toks := k }) := by
  kpt_run
theorem o_fmt {w : World} {s : Shared} {A : Around} {E : Value → Shared → Prop} {Q : Value → Shared → Prop} {x y : PySem.Str} {n : Int} {t tx tn ty : Tok} {b : Addr}
    (hb : s.heap.get? b = some (tupO [.str x tx, .int n tn, .str y ty])) (hx : x.length ≤ 1000000) (hy : y.length ≤ 1000000) (hn : 0 ≤ n) (hm : n < 1000000000)
    (h : ∀ s' t', Grow s s' → Q (.str (x ++ markOf n ++ y) t') s') : wpAny (Mo w) A (binaryOp .Mod (.str (PySem.Str.ofString "%s[%d chars]%s") t) (.ref b)) Q E s := by
  have N : News {} (b + 1) s.heap [(b, tupO [.str x tx, .int n tn, .str y ty])] := fun p hp => by
    simp only [List.mem_singleton] at hp
    subst hp
    exact ⟨hb, Nat.ne_of_lt (Nat.lt_succ_self b), by simp [Heap.get?]⟩
  refine KPt.mod_tuple N (.head _) (by decide +kernel) (fmt_meets hx hy hn (by omega) (log2_small (by omega))) fun t' k => ?_
  have := h _ t' (Grow.toks s k)
  simpa only [markOf, PySem.Str.append_assoc] using this
-- a name that is a cell is stored by hand
local macro_rules | `(tactic| walk_at "cell") => `(tactic| first | with_reducible show wpAny _ _ (storeName _ (PySem.Str.ofString "prefix") _) _ _ _ | with_reducible show wpAny _ _ (storeName _ (PySem.Str.ofString "prefixlen") _) _ _ _ | with_reducible show wpAny _ _ (storeName _ (PySem.Str.ofString "size") _) _ _ _ | with_reducible show wpAny _ _ (storeName _ (PySem.Str.ofString "full") _) _ _ _)
local macro_rules | `(tactic| walk_at "hv") => `(tactic| (repeat (first | with_reducible exact upd_eq _ _ _ | with_reducible refine (upd_ne _ _ (ofs_ne (by decide))).trans ?_)))
local macro_rules | `(tactic| walk_at "gr") => `(tactic| ((try (with_reducible rename Grow _ _ => gA)); intro _ _ gG; (with_reducible rename Fm _ _ _ _ _ _ => fF); replace fF := Fm.grow fF gG; (try (replace gA := Grow.trans gA gG)); clear gG))
local macro_rules | `(tactic| walk_at "nw") => `(tactic| ((try (with_reducible rename Grow _ _ => gA)); intro _ _ gG hA hN; (with_reducible rename Fm _ _ _ _ _ _ => fF); replace fF := Fm.new fF gG hA hN; (try (replace gA := Grow.trans gA gG)); clear gG hA hN))
local macro_rules | `(tactic| walk_at "mem") => `(tactic| first | exact List.Mem.head _ | (refine List.Mem.tail _ ?_; walk_at "mem"))
local macro_rules | `(tactic| walk_at "st") => `(tactic| first
  | with_reducible refine wpAny_execs_cons ?_
  | with_reducible refine wpAny_execs_nil ?_
  | with_reducible refine wpAny_Return_some ?_
  | with_reducible refine wpAny_If ?_
  | with_reducible refine wpAny_isTrue_Compare1 ?_ (by with_unfolding_all rfl)
  | with_reducible refine wpAny_BinOp ?_
  | with_reducible refine wpAny_Compare1 ?_ (by with_unfolding_all rfl)
  | with_reducible refine wpAny_Assign_Name ?_ (by with_unfolding_all rfl)
  | with_reducible refine Call_ ?_ (by with_unfolding_all rfl)
  | with_reducible refine args_nil ?_
  | with_reducible refine args_cons ?_ (by with_unfolding_all rfl)
  | with_reducible refine PyProof.Rows.callWith_builtin1 ?_ (by with_unfolding_all rfl) (by with_unfolding_all rfl)
  | with_reducible refine PyProof.Rows.callWith_type1 ?_ (by with_unfolding_all rfl) (by with_unfolding_all rfl)
  | with_reducible refine Subscript_ ?_
  | with_reducible refine wpAny_Slice ?_
  | with_reducible refine evalPart_none_step ?_
  | with_reducible refine evalPart_some_step ?_
  | with_reducible refine wpAny_truthy_bool ?_
  | with_reducible refine iteT (by decide) ?_
  | with_reducible refine iteF (by decide) ?_
  | with_reducible refine IfExp_ ?_
  | with_reducible refine isTrue_not ?_
  | with_reducible refine isTrue_or ?_
  | with_reducible refine isTrue_or_nil ?_
  | with_reducible refine isTrue_and ?_
  | with_reducible refine isTrue_and_nil ?_
  | with_reducible refine Constant_bool ?_
  | with_reducible refine Constant_none ?_
  | with_reducible refine wpAny_Try_except ?_
  | with_reducible refine Tuple_ ?_
  | with_reducible refine List_ ?_
  | with_reducible refine MethodCall_ ?_ (by with_unfolding_all rfl)
  | with_reducible refine GM.split ?_
  | with_reducible refine GM.join ?_
  | with_reducible refine PyProof.Rows.callWith_method1 ?_ (by with_unfolding_all rfl) (by with_unfolding_all rfl)
  | (with_reducible refine o_tuple (by with_unfolding_all exact Nat.le_of_ble_eq_true rfl) ?_; walk_at "nw")
  | (with_reducible refine o_list (by with_unfolding_all exact Nat.le_of_ble_eq_true rfl) ?_; walk_at "nw")
  | (with_reducible refine o_cstr ?_; walk_at "gr")
  | (with_reducible refine o_cint ?_; walk_at "gr")
  | (with_reducible refine o_add ?_; walk_at "gr")
  | (with_reducible refine o_sub ?_; walk_at "gr")
  | (with_reducible refine o_fdiv (by decide) (by decide) ?_; walk_at "gr")
  | (with_reducible refine o_mod (by decide) ?_; walk_at "gr")
  | (with_reducible refine o_max (by assumption) ?_; walk_at "gr")
  | (with_reducible refine o_min (by assumption) ?_; walk_at "gr")
  | with_reducible refine o_gt ?_
  | with_reducible refine o_lt ?_
  | with_reducible refine o_le ?_
  | with_reducible refine o_eq ?_
  | with_reducible refine o_ne ?_
  | with_reducible refine o_eq_str ?_
  | with_reducible refine wpAny_is_plain (by decide) ?_
  | with_reducible refine wpAny_isNot_plain (by decide) ?_
  | with_reducible refine o_ne_str ?_
  | (with_reducible refine o_len_str (by walk_at "sz") ?_; walk_at "gr")
  | (with_reducible refine o_add_str (by walk_at "sz") ?_; walk_at "gr")
  | (with_reducible refine r_local (by assumption) (by assumption) (by walk_at "hv") ?_ (by kernel_rfl) (by decide +kernel))
  | (with_reducible refine r_global (by assumption) (Fm.amb (by assumption)) (by walk_at "glob") ?_ (by kernel_rfl) (by decide +kernel))
  | (with_reducible refine r_builtin (by assumption) (Fm.amb (by assumption)) (by walk_at "boot") (by kernel_rfl) ?_ (by kernel_rfl) (by decide +kernel) (by decide +kernel))
  | ((fail_if_success walk_at "cell"); with_reducible refine r_store (by assumption) (by assumption) ?_ (by kernel_rfl); (with_reducible rename Fm _ _ _ _ _ _ => fF); clear fF; intro _ _)
  | with_reducible refine isTrue_plain ?_ (by with_unfolding_all rfl))
local macro_rules | `(tactic| walk_at "boot") => `(tactic| first | with_reducible exact boot_str | with_reducible exact PySem.boot_len | with_reducible exact boot_max | with_reducible exact boot_min | with_reducible exact boot_sum | with_reducible exact boot_repr | with_reducible exact boot_type | with_reducible exact boot_tuple | with_reducible exact boot_list | with_reducible exact boot_range | with_reducible exact boot_enumerate | with_reducible exact boot_map)
local macro_rules | `(tactic| walk_at "glob") => `(tactic| first | with_reducible exact g_replace | with_reducible exact g_cram | with_reducible exact g_shorten | with_reducible exact g_kind | with_reducible exact g_fspath | with_reducible exact g_prefix | with_reducible exact g_common | with_reducible exact g_csr | with_reducible exact g_safe | with_reducible exact g_pair | with_reducible exact g_mark | with_reducible exact g_max | with_reducible exact g_ph | with_reducible exact g_beg | with_reducible exact g_end | with_reducible exact g_com | with_reducible exact g_diff)
-- the entry's facts
local macro_rules | `(tactic| walk_at "bind") => `(tactic| exact plainBind (Amb.k (by assumption)) (fun _ => by kernel_rfl))
local macro_rules | `(tactic| walk_at "bnd") => `(tactic| ((with_reducible rename Fm _ _ _ _ _ _ => fF); simp only [bnd, List.reverse_cons, List.reverse_nil, List.nil_append, List.cons_append] at fF))
-- a size
local macro_rules | `(tactic| walk_at "sz") => `(tactic| (simp only [PySem.Str.length_append, sizeLine_val, lens, length_tk, length_dr, markOf]; omega))
set_option maxHeartbeats 1000000 in
theorem c_mark {w : World} {s : Shared} {A : Around} {E : Value → Shared → Prop} {Q : Value → Shared → Prop} {n : Int} {t : Tok} {d u : Nat} (X : Amb w s.heap) (a : AOk A d u) (hd : d < 1000)
    (hn : -1000000000 < n ∧ n < 1000000000) (h : ∀ s' t, Grow s s' → Q (.str (markOf n) t) s') : wpAny (Mo w) A (call (.ref 97) [.int n t]) Q E s := by
  have hl := dec_len hn
  refine enter [(PySem.Str.ofString "size", .int n t)] [] X a rfl rfl (by kernel_rfl) (by walk_at "bind") (by kernel_rfl) ?_
  intro env s₁ e eF f a
  walk_at "bnd"
  repeat walk_at "st"
  refine o_str_int (log2_small hn) ?_; walk_at "gr"
  repeat walk_at "st"
  exact h _ _ (Fm.out (by assumption))
def cramOf (x : PySem.Str) (k : Int) : PySem.Str :=
  if k < x.length then tk x (max 0 ((k - 3).fdiv 2)).toNat ++ PySem.Str.ofString "..." ++ dr x (x.length - max 0 (k - 3 - max 0 ((k - 3).fdiv 2))).toNat else x
set_option maxHeartbeats 1000000 in
theorem c_cram {w : World} {s : Shared} {A : Around} {E : Value → Shared → Prop} {Q : Value → Shared → Prop} {x : PySem.Str} {k : Int} {t t' : Tok} {d u : Nat} (X : Amb w s.heap) (a : AOk A d u) (hd : d < 1000)
    (hx : x.length ≤ 1000000) (hk : k ≤ 1000000) (h : ∀ s' t, Grow s s' → Q (.str (cramOf x k) t) s') : wpAny (Mo w) A (call (.ref 35) [.str x t, .int k t']) Q E s := by
  refine enter [(PySem.Str.ofString "text", .str x t), (PySem.Str.ofString "maxlen", .int k t')] [] X a rfl rfl (by kernel_rfl) (by walk_at "bind") (by kernel_rfl) ?_
  intro env s₁ e eF f a
  walk_at "bnd"
  repeat walk_at "st"
  split
  · rename_i hc
    have hc := of_decide_eq_true hc
    repeat walk_at "st"
    refine o_slice_ns (by omega) (by walk_at "sz") ?_; walk_at "gr"
    repeat walk_at "st"
    refine o_slice_sn (by omega) (by walk_at "sz") ?_; walk_at "gr"
    repeat walk_at "st"
    have e : cramOf x k = _ := if_pos hc
    rw [e] at h
    exact h _ _ (Fm.out (by assumption))
  · rename_i hc
    have hc : ¬ k < x.length := fun q => hc (decide_eq_true q)
    refine wpAny_execs_nil ?_
    repeat walk_at "st"
    have e : cramOf x k = _ := if_neg hc
    rw [e] at h
    exact h _ _ (Fm.out (by assumption))
section
variable {w : World} {s : Shared} {A : Around} {E : Value → Shared → Prop} {Q : Value → Shared → Prop} {env : Env} {pos : Pos}
theorem Grow.pushK (s : Shared) : KeptByPush (Grow s) := fun s' ob k g => g.trans (Grow.push s' ob k)
theorem o_split {x y : PySem.Str} {t u : Tok} (hy : 0 < y.length) (hsz : x.length ≤ 1000000) (h : ∀ s' a l, Grow s s' → l.map (·.1) = Txt.split x y → s'.heap.IsList a (strValues l).toArray → Q (.ref a) s') :
    wpAny (Mo w) A (call (.builtin "str.split") [.str x t, .str y u]) Q E s :=
  SCG.split1 (Grow.pushK s) (Grow.refl s) (by simp; omega) (fun D l s' hl g hL => h s' D l g hl hL) (by rw [sizeLine_val]; omega) (by
    have e1 := StrLaws.occ_length_le x y 0 x.length (x.length + 1)
    rw [length_partsBetween, sizeLine_val]; omega)
theorem joinOk_two {x : PySem.Str} {ps : List PySem.Str} (hn : ps.length ≤ 8) (hp : ∀ p ∈ ps, p.length ≤ 1000000) (hx : x.length ≤ 1000000) : JoinOk x ps = true := by
  have key : ps.length * 1000000 + ps.length * x.length ≤ 16777216 := by
    have h1 : ps.length * 1000000 ≤ 8 * 1000000 := Nat.mul_le_mul_right _ hn
    have h2 : ps.length * x.length ≤ 8 * 1000000 := Nat.mul_le_mul hn hx
    exact Nat.le_trans (Nat.add_le_add h1 h2) (by decide +kernel)
  have := StrLaws.joinFits hp key
  unfold JoinOk
  rw [this]; rfl
theorem o_join {x : PySem.Str} {t : Tok} {D : Addr} {l : List (PySem.Str × Tok)} {ps : List PySem.Str} (hl : s.heap.IsList D (strValues l).toArray) (ht : l.map (·.1) = ps) (hn : ps.length ≤ 8) (hp : ∀ p ∈ ps, p.length ≤ 1000000) (hx : x.length ≤ 1000000)
    (h : ∀ s' t', Grow s s' → Q (.str (PySem.Str.join x ps) t') s') : wpAny (Mo w) A (call (.builtin "str.join") [.str x t, .ref D]) Q E s :=
  SC.join hl ht (joinOk_two hn hp hx) fun t' k => by
    have := h _ t' (Grow.toks s k)
    rwa [← StrLaws.glued_eq_join] at this
theorem o_truthy_tup {a : Addr} {vs : List Value} {Q : Bool → Shared → Prop} (ha : s.heap.get? a = some (tupO vs)) (hsz : vs.length ≤ 1000) (h : ∀ s', Grow s s' → Q (!vs.isEmpty) s') : wpAny (Mo w) A (truthy (.ref a)) Q E s :=
  ktl_truthy ha (by rw [List.size_toArray]; omega) (by have := h _ (Grow.toks s (s.toks + 1 + 1)); simpa using this)
theorem o_item_tup {value slice : PySem.Expr} {a : Addr} {l : List Value} {k : Int} {u : Tok} {v : Value} {j : Nat} (ha : s.heap.get? a = some (tupO l)) (hj : seqIndex? k l.length = some j) (hk : -1000 ≤ k ∧ k ≤ 1000) (hx : l[j]? = some v) (h : Q v s)
    (hs : subscripted slice false (.ref a) (.int k u) = operate [.ref a, .int k u] (getItem (.ref a) (.int k u)) := by with_unfolding_all rfl) :
    wpAny (Mo w) A (subscriptTail value slice (.ref a) (.int k u)) Q E s :=
  item_tupleT ⟨_, ha, rfl, 0, rfl⟩ (by omega) (by omega) hj hx h hs
/-- a pair from its third place on: the empty tuple -/
theorem o_pair_rest {value slice : PySem.Expr} {a : Addr} {p q : Value} {u : Tok} (ha : s.heap.get? a = some (tupO [p, q])) (h : ∀ s' b, Grow s s' → s'.heap.get? b = some (tupO []) → s.heap.get? b = none → Q (.ref b) s')
    (hs : subscripted slice false (.ref a) (.ref s.heap.objs.size) = operate [.ref s.heap.objs.size, .ref a] (getItem (.ref a) (.ref s.heap.objs.size)) := by with_unfolding_all rfl) :
    wpAny (Mo w) A (subscriptTail value slice (.ref a) (.ref s.heap.objs.size)) Q E { s with heap := s.heap.push { cls := .type "slice", data := .fields #[.int 2 u, .none, .none] } } := by
  have ha' : ({ s with heap := s.heap.push { cls := .type "slice", data := .fields #[.int 2 u, .none, .none] } } : Shared).heap.get? a = some (tupO [p, q]) := Heap.get?_push_of_some _ ha
  have hsl : ({ s with heap := s.heap.push { cls := .type "slice", data := .fields #[.int 2 u, .none, .none] } } : Shared).heap.get? s.heap.objs.size = some { cls := .type "slice", data := .fields #[.int 2 u, .none, .none] } := Heap.get?_push_size _ rfl
  have g0 : Grow s { s with heap := s.heap.push { cls := .type "slice", data := .fields #[.int 2 u, .none, .none] } } := ⟨fun _ _ e => Heap.get?_push_of_some _ e, rfl⟩
  generalize ({ s with heap := s.heap.push { cls := .type "slice", data := .fields #[.int 2 u, .none, .none] } } : Shared) = s1 at ha' hsl g0 ⊢
  generalize s.heap.objs.size = sl at hsl hs ⊢
  have hT : IsTup s1.heap a #[p, q] := ⟨_, ha', rfl, 0, rfl⟩
  have hTs : s1.TypeIs (.ref sl) "slice" := ⟨_, hsl, rfl⟩
  refine tail_any hT.typeIs slot_tuple_getitem.lookup ?_ hs
  unfold getItem
  try with_reducible refine wpAny_holding ?_
  first | refine wpAny_bind (wpAny_pure ?_) | skip
  refine wpAny_bind (wpAny_sequenceKey hT.typeIs (by decide) ?_)
  refine wpAny_bind (wpAny_callSpecial?_slot (name := PySem.Str.ofString "__getitem__") hT.typeIs slot_tuple_getitem
    (wpAny_call_entry slot_tuple_getitem hT.typeIs entry_tuple_getitem ?_ (args_tuple_getitem _ _)))
  show wpAny _ _ (Builtin.Tuple.tupleItemsOf (.ref a) >>= _) _ _ s1
  refine wpAny_bind (tupleItemsOf_ hT ?_)
  refine wpAny_bind (wpAny_typeOf hTs ?_)
  rw [if_pos (by decide)]
  unfold Builtin.Slice.sliceApplied Builtin.Slice.sliceFields
  refine wpAny_bind (wpAny_bind (wpAny_bind (wpAny_field hsl rfl (x := .int 2 u) rfl (wpAny_bind (wpAny_field hsl rfl (x := .none) rfl (wpAny_bind (wpAny_field hsl rfl (x := .none) rfl (wpAny_pure ?_))))))))
  refine wpAny_bind (m := Builtin.Slice.slicePartIndex .none) (wpAny_pure ?_)
  rw [if_neg (by decide)]
  refine wpAny_bind (m := Builtin.Slice.slicePartIndex (.int 2 u)) ?_
  unfold Builtin.Slice.slicePartIndex
  rw [if_neg (by simp)]
  refine wpAny_bind (wpAny_specialOf (T := "int") (typeIs_int s1 2 u) int_index ?_)
  rw [if_neg (by simp)]
  refine wpAny_bind (wpAny_of_eq (a := (2 : Int)) rfl ?_)
  refine wpAny_pure ?_
  refine wpAny_bind (m := Builtin.Slice.slicePartIndex .none) (wpAny_pure ?_)
  refine wpAny_bind (wpAny_pure (wpAny_pure ?_))
  rw [if_neg (by decide)]
  refine wpAny_bind ?_
  show wpAny _ _ (Builtin.Tuple.tupleExact (([] : List Value)).toArray) _ _ _
  unfold Builtin.Tuple.tupleExact
  refine wpAny_newObj_type (wpAny_pure ⟨_, rfl, ?_⟩)
  obtain ⟨g, e, n⟩ := push_new s1 (tupO []) rfl
  refine wpAny_pure (h _ _ (g0.trans g) e ?_)
  cases hq : s.heap.get? s1.heap.objs.size with
  | none => rfl
  | some o => rw [g0.kp _ _ hq] at n; cases n
end
def shortOf (x : PySem.Str) (p q : Int) : PySem.Str :=
  if 12 < x.length - p - q then tk x p.toNat ++ markOf (x.length - p - q) ++ dr x (x.length - q).toNat else x
set_option maxHeartbeats 1000000 in
theorem c_shorten {w : World} {s : Shared} {A : Around} {E : Value → Shared → Prop} {Q : Value → Shared → Prop} {x : PySem.Str} {p q : Int} {t t1 t2 : Tok} {d u : Nat} (X : Amb w s.heap) (a : AOk A d u) (hd : d < 1000)
    (hx : x.length ≤ 1000000) (hp : 0 ≤ p) (hq : 0 ≤ q) (h : ∀ s' t, Grow s s' → Q (.str (shortOf x p q) t) s') : wpAny (Mo w) A (call (.ref 42) [.str x t, .int p t1, .int q t2]) Q E s := by
  refine enter [(PySem.Str.ofString "s", .str x t), (PySem.Str.ofString "prefixlen", .int p t1), (PySem.Str.ofString "suffixlen", .int q t2)] [] X a rfl rfl (by kernel_rfl) (by walk_at "bind") (by kernel_rfl) ?_
  intro env s₁ e eF f a
  walk_at "bnd"
  repeat walk_at "st"
  split
  · rename_i hc
    have hc := of_decide_eq_true hc
    repeat walk_at "st"
    refine o_slice_ns (by omega) (by walk_at "sz") ?_; walk_at "gr"
    repeat walk_at "st"
    refine o_slice_sn (by omega) (by walk_at "sz") ?_; walk_at "gr"
    repeat walk_at "st"
    refine o_fmt (Fm.get (by assumption) (by walk_at "mem")) (by walk_at "sz") (by walk_at "sz") (by omega) (by omega) ?_; walk_at "gr"
    repeat walk_at "st"
    have e : shortOf x p q = _ := if_pos hc
    rw [e] at h
    exact h _ _ (Fm.out (by assumption))
  · rename_i hc
    have hc : ¬ 12 < x.length - p - q := fun z => hc (decide_eq_true z)
    refine wpAny_execs_nil ?_
    repeat walk_at "st"
    have e : shortOf x p q = _ := if_neg hc
    rw [e] at h
    exact h _ _ (Fm.out (by assumption))
def replOf (x y z : PySem.Str) : PySem.Str := PySem.Str.join z (Txt.split x y)
set_option maxHeartbeats 2000000 in
theorem c_replace {w : World} {s : Shared} {A : Around} {E : Value → Shared → Prop} {Q : Value → Shared → Prop} {x y z : PySem.Str} {t t1 t2 : Tok} {d u : Nat} (X : Amb w s.heap) (a : AOk A d u) (hd : d < 1000)
    (hx : x.length ≤ 1000000) (hy : 0 < y.length) (hz : z.length ≤ 1000000) (hn : (Txt.split x y).length ≤ 8) (hp : ∀ p ∈ Txt.split x y, p.length ≤ 1000000)
    (h : ∀ s' t, Grow s s' → Q (.str (replOf x y z) t) s') : wpAny (Mo w) A (call (.ref 28) [.str x t, .str y t1, .str z t2]) Q E s := by
  refine enter [(PySem.Str.ofString "text", .str x t), (PySem.Str.ofString "pairs", .ref s.heap.objs.size)] [(s.heap.objs.size, tupO [.str y t1, .str z t2])] X a rfl rfl (by kernel_rfl)
    (varBind (fun D => [(PySem.Str.ofString "text", .str x t), (PySem.Str.ofString "pairs", .ref D)]) X.k (fun _ => by kernel_rfl) rfl) (by kernel_rfl) ?_
  intro env s₁ e eF f a
  walk_at "bnd"
  walk_at "st"
  refine wpAny_While (codeAny_whileLoop (fun n s' => match n with
    | 0 => ∃ t' D, Fm w s env.locals (upd (upd (upd (upd (fun x => none) (PySem.Str.ofString "text") (.str x t)) (PySem.Str.ofString "pairs") (.ref s.heap.objs.size)) (PySem.Str.ofString "text") (.str (replOf x y z) t')) (PySem.Str.ofString "pairs") (.ref D)) [(D, tupO [])] s'
    | 1 => Fm w s env.locals (upd (upd (fun x => none) (PySem.Str.ofString "text") (.str x t)) (PySem.Str.ofString "pairs") (.ref s.heap.objs.size)) [(s.heap.objs.size, tupO [.str y t1, .str z t2])] s'
    | _ => False) ?_ 1 (by assumption))
  rename Fm _ _ _ _ _ _ => f0
  clear f0
  intro n s' hI
  match n, hI with
  | 0, ⟨t', D, f⟩ =>
    refine isTrue_plain ?_
    walk_at "st"
    refine o_truthy_tup (Fm.get f (by walk_at "mem")) (by decide) ?_
    intro _ g
    replace f := Fm.grow f g
    repeat walk_at "st"
    exact h _ _ (Fm.out (by assumption))
  | 1, f =>
    replace f : Fm w s env.locals _ _ s' := f
    refine isTrue_plain ?_
    walk_at "st"
    refine o_truthy_tup (Fm.get f (by walk_at "mem")) (Nat.le_of_ble_eq_true rfl) ?_
    intro _ g
    replace f := Fm.grow f g
    refine iteT rfl ?_
    repeat walk_at "st"
    refine o_item_tup (Fm.get (by assumption) (by walk_at "mem")) (j := 1) rfl (by decide) rfl ?_
    repeat walk_at "st"
    refine o_item_tup (Fm.get (by assumption) (by walk_at "mem")) (j := 0) rfl (by decide) rfl ?_
    repeat walk_at "st"
    refine o_split hy hx ?_
    intro s2 a2 l2 g hl hL
    (with_reducible rename Fm _ _ _ _ _ _ => fF); replace fF := Fm.grow fF g; clear g
    repeat walk_at "st"
    refine o_join hL hl hn hp hz ?_
    walk_at "gr"
    clear hL
    repeat walk_at "st"
    refine o_pair_rest (Fm.get (by assumption) (by walk_at "mem")) ?_
    walk_at "nw"
    repeat walk_at "st"
    refine ⟨0, Nat.zero_lt_one, _, _, Fm.sub (by assumption) ?_⟩
    intro p hp
    simp only [List.mem_singleton] at hp
    subst hp
    walk_at "mem"
/-- v's writing at h is x -/
structure Shows (h : Heap) (v : Value) (x : PySem.Str) : Prop where
  ref : ∃ a, v = .ref a
  reads : ∃ d as, Reads h v d as ∧ sysModules ∉ as ∧ d.showable = true ∧ d.depth ≤ 100 ∧ d.shown = x
  len : x.length ≤ 1000000
theorem Shows.grow {s s' : Shared} {v : Value} {x : PySem.Str} (r : Shows s.heap v x) (g : Grow s s') : Shows s'.heap v x :=
  ⟨r.ref, let ⟨d, as, h, q⟩ := r.reads; ⟨d, as, Reads.keeps g.kp h, q⟩, r.len⟩
theorem o_repr {w : World} {s : Shared} {A : Around} {E : Value → Shared → Prop} {Q : Value → Shared → Prop} {d u : Nat} (ao : AOk A d u) (hu : u ≤ 9000) {v : Value} {x : PySem.Str} (r : Shows s.heap v x)
    (h : ∀ s' t, Grow s s' → Q (.str x t) s') : wpAny (Mo w) A (call (.builtin "repr") [v]) Q E s := by
  obtain ⟨a, rfl⟩ := r.ref
  obtain ⟨dd, as, hr, hs, hsh, hdep, rfl⟩ := r.reads
  exact repr_of_reads' hr hsh (fun _ => hs) ao.guards (by have := ao.units; show _ < 9900; omega) (fun _ _ e => e) (fun h' t k kp => h _ t (Grow.heap kp k)) (by rw [sizeLine_val]; have := r.len; omega)
set_option maxHeartbeats 1000000 in
theorem c_safe {w : World} {s : Shared} {A : Around} {E : Value → Shared → Prop} {Q : Value → Shared → Prop} {v : Value} {x : PySem.Str} {d u : Nat} (X : Amb w s.heap) (a : AOk A d u) (hd : d < 1000) (hu : u ≤ 8000)
    (r : Shows s.heap v x) (h : ∀ s' t, Grow s s' → Q (.str x t) s') : wpAny (Mo w) A (call (.ref 83) [v]) Q E s := by
  refine enter [(PySem.Str.ofString "obj", v), (PySem.Str.ofString "short", .bool false)] [] X a rfl rfl (by kernel_rfl) (by walk_at "bind") (by kernel_rfl) ?_
  intro env s₁ e eF f a
  walk_at "bnd"
  repeat walk_at "st"
  refine o_repr (by assumption) (by omega) (r.grow (Fm.out (by assumption))) ?_; walk_at "gr"
  repeat walk_at "st"
  exact h _ _ (Fm.out (by assumption))
def briefOf (x : PySem.Str) : PySem.Str := if x.length < 80 then x else tk x 80 ++ PySem.Str.ofString " [truncated]..."
set_option maxHeartbeats 1000000 in
theorem c_safe2 {w : World} {s : Shared} {A : Around} {E : Value → Shared → Prop} {Q : Value → Shared → Prop} {v : Value} {x : PySem.Str} {d u : Nat} (X : Amb w s.heap) (a : AOk A d u) (hd : d < 1000) (hu : u ≤ 8000)
    (r : Shows s.heap v x) (h : ∀ s' t, Grow s s' → Q (.str (briefOf x) t) s') : wpAny (Mo w) A (call (.ref 83) [v, .bool true]) Q E s := by
  have hx := r.len
  refine enter [(PySem.Str.ofString "obj", v), (PySem.Str.ofString "short", .bool true)] [] X a rfl rfl (by kernel_rfl) (by walk_at "bind") (by kernel_rfl) ?_
  intro env s₁ e eF f a
  walk_at "bnd"
  repeat walk_at "st"
  refine o_repr (by assumption) (by omega) (r.grow (Fm.out (by assumption))) ?_; walk_at "gr"
  repeat walk_at "st"
  split
  · rename_i hc
    have hc := of_decide_eq_true hc
    repeat walk_at "st"
    have e : briefOf x = _ := if_pos (by omega)
    rw [e] at h
    exact h _ _ (Fm.out (by assumption))
  · rename_i hc
    have hc : ¬ (x.length : Int) < 80 := fun q => hc (decide_eq_true q)
    repeat walk_at "st"
    refine o_slice_ns (by decide) (by walk_at "sz") ?_; walk_at "gr"
    repeat walk_at "st"
    have e : briefOf x = _ := if_neg (by omega)
    rw [e] at h
    exact h _ _ (Fm.out (by assumption))
namespace FM
theorem slot_map_next : Slot "map" "__next__" "map.__next__" :=
  .of (owner := "map") (n := "__next__") (by rw [typeLookup_type, builtinLookup_eq_fast]; kernel_rfl) (by decide +kernel) (by decide +kernel) (by decide +kernel)
    (by first | exact .inl (by decide +kernel) | exact .inr (by decide +kernel)) (by rw [isSubtype_type]; kernel_rfl)
theorem slot_map_iter : Slot "map" "__iter__" "map.__iter__" :=
  .of (owner := "map") (n := "__iter__") (by rw [typeLookup_type, builtinLookup_eq_fast]; kernel_rfl) (by decide +kernel) (by decide +kernel) (by decide +kernel)
    (by first | exact .inl (by decide +kernel) | exact .inr (by decide +kernel)) (by rw [isSubtype_type]; kernel_rfl)
theorem slot_map_init : Slot "map" "__init__" "object.__init__" :=
  .of (owner := "object") (n := "__init__") (by rw [typeLookup_type, builtinLookup_eq_fast]; kernel_rfl) (by decide +kernel) (by decide +kernel) (by decide +kernel)
    (by first | exact .inl (by decide +kernel) | exact .inr (by decide +kernel)) (by rw [isSubtype_type]; kernel_rfl)
theorem entry_map_next : entryFor table "map.__next__" = some Builtin.«map.__next__» := entryFor_of_tree (by kernel_rfl)
theorem entry_map_new : entryFor table "map.__new__" = some Builtin.«map.__new__» := entryFor_of_tree (by kernel_rfl)
theorem entry_map_iter : entryFor table "map.__iter__" = some Builtin.«dict_keyiterator.__iter__» :=
  entryFor_alias (id' := "dict_keyiterator.__iter__") (by kernel_rfl) (by first | rfl | decide +kernel | (unfold String.splitOn; simp +decide [String.splitOnAux])) (by decide +kernel) (by kernel_rfl)
theorem args_map_next (a : Value) : argsOk "map.__next__" ⟨[a], []⟩ := by unfold argsOk; kernel_rfl
theorem args_map_iter (a : Value) : argsOk "map.__iter__" ⟨[a], []⟩ := by unfold argsOk; kernel_rfl
theorem mro_map : mroOf (.type "map") = pure [.type "map", .type "object"] := by rw [mroOf_type]; kernel_rfl
theorem lookup_map_new : typeLookup (.type "map") "__new__" = pure (some (.builtin "map.__new__")) := by rw [typeLookup_type, builtinLookup_eq_fast]; kernel_rfl
theorem called_map : TypeCalled "map" "map.__new__" "object.__init__" :=
  ⟨by decide +kernel, by decide +kernel, ⟨_, _, mro_map⟩, madeBy_type mro_map lookup_map_new (by decide +kernel), by decide +kernel, by rw [isSubtype_type]; kernel_rfl, slot_map_init⟩
theorem typeCall_map_2 (a b : Value) : checkTypeCall "map" ⟨[a, b], []⟩ = pure () := by kernel_rfl
theorem newCall_map_2 (a b : Value) : checkBuiltinCall "map.__new__" ⟨[.type "map", a, b], []⟩ = pure () := by kernel_rfl
theorem sub_map : isSubtype (.type "map") (.type "map") = pure true := by rw [isSubtype_type]; kernel_rfl
theorem map_no_len : typeLookup (.type "map") "__len__" = pure none := by rw [typeLookup_type, builtinLookup_eq_fast]; kernel_rfl
theorem map_no_hint : typeLookup (.type "map") "__length_hint__" = pure none := by rw [typeLookup_type, builtinLookup_eq_fast]; kernel_rfl
end FM
abbrev mapO (T : Addr) (f : Value) : PySem.Obj := { cls := .type "map", data := .fields #[.ref T, f] }
abbrev titO (t : Addr) (i : Nat) : PySem.Obj := { cls := .type "tuple_iterator", data := .fields #[.ref t, .int i 0] }
set_option maxHeartbeats 1000000 in
theorem meets_map_new (f : Value) (t : Addr) (items : Array Value) :
    Meets (Builtin.«map.__new__» ⟨[.type "map", f, .ref t], []⟩) (fun _ R s => s.heap.IsTuple t items ∧
      R (.ok (.ret (.ref (s.heap.objs.size + 2)))) { s with heap := ((s.heap.push (titO t 0)).push (tupO [.ref s.heap.objs.size])).push (mapO (s.heap.objs.size + 1) f) }) :=
  .of_wp fun prog w A R s h => by
    obtain ⟨hp, g, d, tk, os⟩ := s; obtain ⟨hl1, h⟩ := h
    have hsub := FM.sub_map
    have hL1 : Heap.IsTuple (Shared.heap ⟨hp, g, d, tk, os⟩) t items := hl1
    wp_walk using wpAny_pyIter_tuple hL1
    refine ⟨_, rfl, ?_⟩
    show R (.ok (.ret (.ref ((hp.push (titO t 0)).push (tupO [.ref hp.objs.size])).objs.size))) { heap := ((hp.push (titO t 0)).push (tupO [.ref hp.objs.size])).push (mapO (hp.push (titO t 0)).objs.size f), gens := g, drawn := d, toks := tk, os := os }
    rw [Heap.size_push, Heap.size_push]
    exact h
/-- a map over a tuple, its next draw the i-th -/
structure MapAt (hb : Heap) (f : Value) (t : Addr) (i : Nat) (h : Heap) : Prop where
  it : h.IsTupleIter hb.objs.size t i
  tup : h.get? (hb.objs.size + 1) = some (tupO [.ref hb.objs.size])
  map : h.get? (hb.objs.size + 2) = some (mapO (hb.objs.size + 1) f)
  keep : ∀ b o, hb.get? b = some o → h.get? b = some o
theorem o_map {w : World} {s : Shared} {A : Around} {E : Value → Shared → Prop} {Q : Value → Shared → Prop} {f : Value} {t : Addr} {items : List Value} (ht : s.heap.get? t = some (tupO items))
    (h : ∀ s', Grow s s' → MapAt s.heap f t 0 s'.heap → s'.heap.objs.size = s.heap.objs.size + 3 → Q (.ref (s.heap.objs.size + 2)) s') : wpAny (Mo w) A (call (.type "map") [f, .ref t]) Q E s := by
  have hT : s.heap.IsTuple t items.toArray := ⟨_, ht, rfl, 0, rfl⟩
  refine callType_new FM.called_map (by decide) (FM.typeCall_map_2 _ _) (FM.newCall_map_2 _ _) (fun obj => F.args_object_init_3 obj _ _) FM.entry_map_new (meets_map_new f t items.toArray) ⟨hT, ?_⟩
  have z1 : (s.heap.push (titO t 0)).objs.size = s.heap.objs.size + 1 := Heap.size_push ..
  have z2 : ((s.heap.push (titO t 0)).push (tupO [.ref s.heap.objs.size])).objs.size = s.heap.objs.size + 2 := by rw [Heap.size_push, z1]
  have e0 : (((s.heap.push (titO t 0)).push (tupO [.ref s.heap.objs.size])).push (mapO (s.heap.objs.size + 1) f)).get? s.heap.objs.size = some (titO t 0) :=
    Heap.get?_push_of_some _ (Heap.get?_push_of_some _ (Heap.get?_push_size _ rfl))
  have e1 : (((s.heap.push (titO t 0)).push (tupO [.ref s.heap.objs.size])).push (mapO (s.heap.objs.size + 1) f)).get? (s.heap.objs.size + 1) = some (tupO [.ref s.heap.objs.size]) := by
    have : ((s.heap.push (titO t 0)).push (tupO [.ref s.heap.objs.size])).get? (s.heap.objs.size + 1) = some (tupO [.ref s.heap.objs.size]) := by rw [← z1]; exact Heap.get?_push_size _ rfl
    exact Heap.get?_push_of_some _ this
  have e2 : (((s.heap.push (titO t 0)).push (tupO [.ref s.heap.objs.size])).push (mapO (s.heap.objs.size + 1) f)).get? (s.heap.objs.size + 2) = some (mapO (s.heap.objs.size + 1) f) := by
    rw [← z2]; exact Heap.get?_push_size _ rfl
  have kp : ∀ b o, s.heap.get? b = some o → (((s.heap.push (titO t 0)).push (tupO [.ref s.heap.objs.size])).push (mapO (s.heap.objs.size + 1) f)).get? b = some o :=
    fun b o e => Heap.get?_push_of_some _ (Heap.get?_push_of_some _ (Heap.get?_push_of_some _ e))
  exact ⟨⟨_, e2, rfl⟩, h _ (Grow.heap kp s.toks) ⟨⟨_, e0, rfl, rfl⟩, e1, e2, kp⟩ (by show Array.size _ = _; rw [show (((s.heap.push (titO t 0)).push (tupO [.ref s.heap.objs.size])).push (mapO (s.heap.objs.size + 1) f)).objs.size = _ from Heap.size_push .., z2])⟩

section
variable {prog : Program} {w : World} {A : Around} {E : Value → Shared → Prop} {s : Shared}
theorem nextOf_tup_item {it t : Addr} {i : Nat} {items : Array Value} {x : Value} {Q : Value → Shared → Prop} (hit : s.heap.IsTupleIter it t i) (ht : s.heap.IsTuple t items) (hx : items[i]? = some x)
    (hQ : ∀ h', h'.IsTupleIter it t (i + 1) → Heap.SameBut it s.heap h' → Q x { s with heap := h' }) : wpAny (model prog w) A (Builtin.SmallTypes.nextOf (.ref it)) Q E s := by
  obtain ⟨o, ho, hc, hd⟩ := id hit
  obtain ⟨ol, hol, _, nl, hdl⟩ := ht
  unfold Builtin.SmallTypes.nextOf
  refine wpAny_bind (wpAny_callSpecial?_slot (name := PySem.Str.ofString "__next__") hit.typeIs F.slot_tuple_iterator_next
    (wpAny_call_entry F.slot_tuple_iterator_next hit.typeIs F.entry_tuple_iterator_next ?_ (F.args_tuple_iterator_next_1 _)))
  show wpAny _ _ (field (.ref it) 0 >>= _) _ _ s
  refine wpAny_bind (wpAny_field ho hd (x := .ref t) rfl ?_)
  show wpAny _ _ (if (Value.ref t == Value.none) = true then _ else _) _ _ s
  rw [if_neg (show ¬ ((Value.ref t == Value.none) = true) from Bool.false_ne_true)]
  show wpAny _ _ (field (.ref it) 1 >>= _) _ _ s
  refine wpAny_bind (wpAny_field ho hd (x := .int i 0) rfl ?_)
  show wpAny _ _ (seqItems? (.ref t) >>= _) _ _ s
  refine wpAny_bind (wpAny_seqItems hol hdl ?_)
  simp only [Int.toNat_natCast, hx]
  refine wpAny_bind (wpAny_setField ho hd (by simp) (wpAny_pure ⟨x, rfl, wpAny_pure (hQ _ ?_ (Heap.SameBut.update ..))⟩))
  exact ⟨_, Heap.get?_update_self _ ho (Obj.isFreed_of_fields (Obj.data_mapFields hd _)), (Obj.cls_mapFields ..).trans hc, by
    rw [Obj.data_mapFields hd]; simp [rawInt]⟩
theorem nextOf_tup_end {it t : Addr} {i : Nat} {items : Array Value} {Q : Value → Shared → Prop} (hh : A.handled = none) (hit : s.heap.IsTupleIter it t i) (ht : s.heap.IsTuple t items) (hx : items[i]? = none)
    (hE : ∀ h' e, Heap.ExtBut it s.heap h' → (∃ o, h'.get? e = some o ∧ o.cls = .type "StopIteration") → E (.ref e) { s with heap := h' }) :
    wpAny (model prog w) A (Builtin.SmallTypes.nextOf (.ref it)) Q E s := by
  obtain ⟨o, ho, hc, hd⟩ := id hit
  obtain ⟨ol, hol, _, nl, hdl⟩ := ht
  unfold Builtin.SmallTypes.nextOf
  refine wpAny_bind (wpAny_callSpecial?_slot (name := PySem.Str.ofString "__next__") hit.typeIs F.slot_tuple_iterator_next
    (wpAny_call_entry F.slot_tuple_iterator_next hit.typeIs F.entry_tuple_iterator_next ?_ (F.args_tuple_iterator_next_1 _)))
  show wpAny _ _ (field (.ref it) 0 >>= _) _ _ s
  refine wpAny_bind (wpAny_field ho hd (x := .ref t) rfl ?_)
  show wpAny _ _ (if (Value.ref t == Value.none) = true then _ else _) _ _ s
  rw [if_neg (show ¬ ((Value.ref t == Value.none) = true) from Bool.false_ne_true)]
  show wpAny _ _ (field (.ref it) 1 >>= _) _ _ s
  refine wpAny_bind (wpAny_field ho hd (x := .int i 0) rfl ?_)
  show wpAny _ _ (seqItems? (.ref t) >>= _) _ _ s
  refine wpAny_bind (wpAny_seqItems hol hdl ?_)
  simp only [Int.toNat_natCast, hx]
  refine wpAny_bind (wpAny_rule (wpAny_bind (wpAny_setField ho hd (by simp) ?_)))
  show wpAny _ _ (newExc (.type "StopIteration") [] >>= _) _ _ _
  refine wpAny_bind ?_
  simp only [newExc, newTuple]
  refine wpAny_bind (wpAny_newObj_type ?_ (by size_fits))
  refine wpAny_bind (m := firstArgMember _ _) (wpAny_of_eq (a := Value.none) (by first | rfl | (simp only [firstArgMember]; rfl)) ?_)
  refine wpAny_newObj_type ?_ (by size_fits)
  simp only [raiseNew]
  refine wpAny_bind (wpAny_handled ?_)
  first | rw [show A.in1.handled = none from hh] | rw [hh]
  refine wpAny_bind (wpAny_pure (wpAny_throw ?_))
  exact hE _ _ (((Heap.SameBut.update ..).extBut.push _).push _) ⟨_, Heap.get?_push_size _ rfl, rfl⟩
end
theorem IsTuple.keep {h h' : Heap} {t : Addr} {items : Array Value} (x : h.IsTuple t items) (k : ∀ b o, h.get? b = some o → h'.get? b = some o) : h'.IsTuple t items := let ⟨o, ho, r⟩ := x; ⟨o, k _ _ ho, r⟩
theorem MapAt.sameBut {hb h h' : Heap} {f : Value} {t : Addr} {i j : Nat} (m : MapAt hb f t i h) (hs : Heap.ExtBut hb.objs.size h h') (hit : h'.IsTupleIter hb.objs.size t j) : MapAt hb f t j h' :=
  ⟨hit, hs _ _ (by show hb.objs.size + 1 ≠ hb.objs.size; exact Nat.succ_ne_self _) m.tup, hs _ _ (by show hb.objs.size + 2 ≠ hb.objs.size; exact Nat.ne_of_gt (Nat.lt_add_of_pos_right (by decide))) m.map,
    fun b o e => hs _ _ (Nat.ne_of_lt (Heap.lt_size e)) (m.keep _ _ e)⟩
theorem MapAt.grow {hb h h' : Heap} {f : Value} {t : Addr} {i : Nat} (m : MapAt hb f t i h) (k : ∀ b o, h.get? b = some o → h'.get? b = some o) : MapAt hb f t i h' :=
  ⟨(let ⟨o, ho, r⟩ := m.it; ⟨o, k _ _ ho, r⟩), k _ _ m.tup, k _ _ m.map, fun b o e => k _ _ (m.keep _ _ e)⟩
set_option maxHeartbeats 1000000 in
theorem walks_map {w : World} {A : Around} {hb : Heap} {f : Value} {t : Addr} {items : List Value} {P' : Nat → Value → Prop} (hh : A.handled = none) (ht : hb.get? t = some (tupO items))
    (hf : ∀ i v (s : Shared) (Q : Value → Shared → Prop) (E : Value → Shared → Prop), items[i]? = some v → (∀ b o, hb.get? b = some o → s.heap.get? b = some o) → (∀ v' s', P' i v' → Grow s s' → Q v' s') → wpAny (Mo w) A.in1 (call f [v]) Q E s) :
    Walks prog w A (hb.objs.size + 2) (List.range (hb.objs.size + 3)) [hb.objs.size] items.length P' (MapAt hb f t) where
  sub := fun b hb' => by simp at hb'; subst hb'; exact List.mem_range.mpr (by omega)
  frame := fun i h h' m hk => by
    have hk' : ∀ b o, b < hb.objs.size + 3 → h.get? b = some o → h'.get? b = some o := fun b o hlt e => hk b (List.mem_range.mpr hlt) o e
    refine ⟨(let ⟨o, ho, r⟩ := m.it; ⟨o, hk' _ _ (by omega) ho, r⟩), hk' _ _ (by omega) m.tup, hk' _ _ (by omega) m.map, fun b o e => hk' b o (Nat.lt_of_lt_of_le (Heap.lt_size e) (Nat.le_add_right _ 3)) (m.keep _ _ e)⟩
  item := fun i s Q E hi m hQ => by
    have hT : s.TypeIs (.ref (hb.objs.size + 2)) "map" := ⟨_, m.map, rfl⟩
    have hx : items.toArray[i]? = some items[i] := by simp [hi]
    unfold pyNext
    refine wpAny_bind (wpAny_attempt (wpAny_callSpecial?_slot (name := PySem.Str.ofString "__next__") hT FM.slot_map_next (wpAny_call_entry FM.slot_map_next hT FM.entry_map_next ?_ (FM.args_map_next _))))
    show wpAny _ _ (field (.ref (hb.objs.size + 2)) 0 >>= _) _ _ s
    refine wpAny_bind (wpAny_field m.map rfl (x := .ref (hb.objs.size + 1)) rfl ?_)
    show wpAny _ _ (seqItems? (.ref (hb.objs.size + 1)) >>= _) _ _ s
    refine wpAny_bind (wpAny_seqItems m.tup rfl ?_)
    dsimp only
    rw [← Array.forIn_toList, List.forIn_cons]
    simp only [bind_assoc, pure_bind, List.forIn_nil]
    refine wpAny_bind (wpAny_holding (nextOf_tup_item m.it (IsTuple.keep ⟨_, ht, rfl, 0, rfl⟩ m.keep) hx fun h1 hit1 hs1 => ?_))
    have m1 := m.sameBut hs1.extBut hit1
    refine wpAny_bind (wpAny_field (s := { s with heap := h1 }) m1.map rfl (x := f) rfl ?_)
    refine wpAny_bind (wpAny_holding (hf i _ { s with heap := h1 } _ _ (by simp [hi]) m1.keep fun v' s' hP g => ?_))
    refine wpAny_bind (wpAny_letGo (wpAny_pure ⟨_, rfl, wpAny_pure ?_⟩))
    have := hQ v' s'.heap s'.toks hP (m1.grow g.kp) (fun b o hb' e => g.kp _ _ (hs1.extBut b o (fun q => hb' (by rw [q]; exact List.mem_singleton.mpr rfl)) e))
    rw [g.same]; exact this
  done := fun s Q E m hQ => by
    have hT : s.TypeIs (.ref (hb.objs.size + 2)) "map" := ⟨_, m.map, rfl⟩
    unfold pyNext
    refine wpAny_bind (wpAny_attempt (wpAny_callSpecial?_slot (name := PySem.Str.ofString "__next__") hT FM.slot_map_next (wpAny_call_entry FM.slot_map_next hT FM.entry_map_next ?_ (FM.args_map_next _))))
    show wpAny _ _ (field (.ref (hb.objs.size + 2)) 0 >>= _) _ _ s
    refine wpAny_bind (wpAny_field m.map rfl (x := .ref (hb.objs.size + 1)) rfl ?_)
    show wpAny _ _ (seqItems? (.ref (hb.objs.size + 1)) >>= _) _ _ s
    refine wpAny_bind (wpAny_seqItems m.tup rfl ?_)
    dsimp only
    rw [← Array.forIn_toList, List.forIn_cons]
    simp only [bind_assoc, pure_bind, List.forIn_nil]
    refine wpAny_bind (wpAny_holding (nextOf_tup_end hh m.it (IsTuple.keep ⟨_, ht, rfl, 0, rfl⟩ m.keep) (by simp) fun h1 e hs1 ⟨o, ho, hc⟩ => ?_))
    refine wpAny_bind (wpAny_isInstance (T := "StopIteration") (b := true) ⟨o, ho, hc⟩ isSubtype_stop ?_)
    exact wpAny_pure (hQ h1 s.toks fun b o hb' e => hs1 b o (fun q => hb' (by rw [q]; exact List.mem_singleton.mpr rfl)) e)
  self := fun i s Q E m hQ => by
    have hT : s.TypeIs (.ref (hb.objs.size + 2)) "map" := ⟨_, m.map, rfl⟩
    refine wpAny_pyIter_slot hT FM.slot_map_iter (wpAny_call_entry FM.slot_map_iter hT FM.entry_map_iter ?_ (FM.args_map_iter _))
    show wpAny _ _ (ret (.ref (hb.objs.size + 2))) _ _ s
    exact wpAny_pure ⟨_, rfl, "map", _, hT, FM.slot_map_next.lookup, hQ⟩
section
variable {w : World} {A : Around} {E : Value → Shared → Prop} {s : Shared} {I : Addr} {fp wr : List Addr} {n : Nat} {P : Nat → Value → Prop} {St : Nat → Heap → Prop}
theorem collect_map {Q : List Value → Shared → Prop} (W : Walks prog w A.in1 I fp wr n P St) (hT : ∀ i h, St i h → ∃ o, h.get? I = some o ∧ o.cls = .type "map") (hst : St 0 s.heap) (hfp : ∀ b ∈ fp, b < s.heap.objs.size) (hI : I ∈ fp) (hn : n ≤ 1000)
    (hQ : ∀ s' acc, Moved wr (fun a b => b = a) s s' → ItemsOf P acc n → Q acc.toList s') : wpAny (model prog w) A (collect (.ref I)) Q E s := by
  have WS := W.toS
  have hSf : s.heap.objs.size ∉ fp := fun hm => Nat.lt_irrefl _ (hfp _ hm)
  have hSI : s.heap.objs.size ≠ I := fun e => hSf (e ▸ hI)
  have k1 : ∀ b o, s.heap.get? b = some o → (s.heap.push (lstO [])).get? b = some o := fun b o e => Heap.get?_push_of_some _ e
  have hst₁ : St 0 (s.heap.push (lstO [])) := W.frame 0 _ _ hst fun b _ o e => k1 b o e
  have hS₁ : (s.heap.push (lstO [])).get? s.heap.objs.size = some (lstO []) := Heap.get?_push_size _ rfl
  have hT₁ : ({ s with heap := s.heap.push (lstO []) } : Shared).TypeIs (.ref I) "map" := let ⟨o, ho, hc⟩ := hT 0 _ hst₁; ⟨o, ho, hc⟩
  unfold collect
  refine wpAny_bind (wpAny_runValue (codeAny_builtin F.entry_proto_collect ?_))
  rw [Around.under_plainId F.plain_proto_collect _]
  show wpAny _ A.in1 (newList [] >>= fun l => again (.builtin "list.__iadd__" ⟨[l, .ref I], []⟩)) _ _ s
  refine wpAny_bind (wpAny_newObj_type (wpAny_pure ⟨plainId_quiet F.plain_list_iadd _, codeAny_builtin F.entry_list_iadd ?_⟩))
  rw [Around.under_plainId F.plain_list_iadd _]
  show wpAny _ A.in1 (Builtin.List.listExtendWith (.ref s.heap.objs.size) (.ref I) (.ref s.heap.objs.size)) _ _ { s with heap := s.heap.push (lstO []) }
  unfold Builtin.List.listExtendWith
  refine wpAny_bind (wpAny_typeOf hT₁ ?_)
  rw [if_neg (by simp [Builtin.List.listSameRef, hSI])]
  refine wpAny_bind (W.self 0 _ _ _ hst₁ (wpAny_bind (wpAny_holding ?_)))
  unfold Builtin.List.listLengthHint
  refine wpAny_bind (wpAny_specialOf hT₁ FM.map_no_len ?_)
  show wpAny _ A.in1 (specialOf (Value.ref I) (PySem.Str.ofString "__length_hint__") >>= _) _ _ _
  refine wpAny_bind (wpAny_specialOf hT₁ FM.map_no_hint (wpAny_pure ?_))
  show wpAny _ A.in1 (rule "list.extend.makes-room" >>= fun _ => Builtin.List.listTouch (.ref s.heap.objs.size) >>= fun _ =>
    again (.builtin "list.extend.loop" ⟨[.ref s.heap.objs.size, .ref I, .ref s.heap.objs.size], []⟩)) _ _ _
  refine wpAny_bind (wpAny_rule (wpAny_bind ?_))
  show wpAny _ A.in1 (updateSeq s.heap.objs.size (·.push .none) >>= fun _ => updateSeq s.heap.objs.size (·.pop)) _ _ _
  refine wpAny_bind (wpAny_updateSeq hS₁ rfl ?_)
  have hS₂ := Heap.get?_update_self (Obj.mapSeq (·.push Value.none)) hS₁ rfl
  refine wpAny_updateSeq hS₂ rfl ?_
  have hS₃ := Heap.get?_update_self (Obj.mapSeq (·.pop)) hS₂ rfl
  have oth : ∀ b o, b ≠ s.heap.objs.size → (s.heap.push (lstO [])).get? b = some o → (((s.heap.push (lstO [])).update s.heap.objs.size (Obj.mapSeq (·.push Value.none))).update s.heap.objs.size (Obj.mapSeq (·.pop))).get? b = some o :=
    fun b o hb e => (Heap.get?_update_other _ _ (Ne.symm hb)).trans ((Heap.get?_update_other _ _ (Ne.symm hb)).trans e)
  refine wpAny_pure ⟨plainId_quiet F.plain_extend_loop _, codeAny_extend_loopS WS (by rw [sizeLine_val]; omega) _ hSf _ n 0 _ _ _ rfl (Nat.zero_le _)
    (W.frame 0 _ _ hst₁ fun b hb o e => oth b o (fun h => hSf (h ▸ hb)) e) hS₃ (ItemsOf.nil P) fun s' acc' c' hm hS' hacc => ?_⟩
  show wpAny _ A (load s.heap.objs.size >>= _) _ _ s'
  refine wpAny_bind (wpAny_load hS' (wpAny_pure (hQ s' acc' ?_ hacc)))
  refine ⟨fun b o hb e => ?_, hm.gens, hm.drawn, hm.os, hm.toks⟩
  have hne : b ≠ s.heap.objs.size := Nat.ne_of_lt (Heap.lt_size e)
  exact hm.heap b o (fun q => (List.mem_cons.mp q).elim hne hb) (oth b o hne (k1 b o e))
theorem code_tuple_map {Q₁ : Value → Shared → Prop} (W : Walks prog w A.in1.in1 I fp wr n P St) (hT : ∀ i h, St i h → ∃ o, h.get? I = some o ∧ o.cls = .type "map") (hst : St 0 s.heap) (hfp : ∀ b ∈ fp, b < s.heap.objs.size) (hI : I ∈ fp) (hn : n ≤ 1000)
    (h : ∀ s' acc, Moved wr (fun a b => b = a) s s' → ItemsOf P acc n → Q₁ (.ref s'.heap.objs.size) { s' with heap := s'.heap.push { cls := .type "tuple", data := .seq acc } }) :
    codeAny (model prog w) A (.call (.builtin "tuple.__new__") ⟨[.type "tuple", .ref I], []⟩) (wants Q₁ E) s := by
  refine codeAny_of_tree ?_
  show wpAny _ A.in1 (do checkBuiltinCall "tuple.__new__" ⟨[.type "tuple", .ref I], []⟩; again (.builtin "tuple.__new__" ⟨[.type "tuple", .ref I], []⟩)) _ _ s
  refine wpAny_bind (wpAny_of_eq (F.newCall_tuple_1 _) (wpAny_pure ⟨plainId_quiet F.plain_tuple_new _, codeAny_builtin F.entry_tuple_new ?_⟩))
  rw [Around.under_plainId F.plain_tuple_new _]
  have hsub := sub_tuple_self
  have hinit := init_tuple_lookup
  have hmh := madeHere_tuple
  have hTI : s.TypeIs (.ref I) "map" := let ⟨o, ho, hc⟩ := hT 0 _ hst; ⟨o, ho, hc⟩
  wp_walk using wpAny_typeOf hTI, collect_map W hT hst hfp hI hn
  intro s' acc hm hacc
  show wpAny _ _ (Builtin.Tuple.tupleExact acc.toList.toArray >>= fun v => ret v) _ _ _
  unfold Builtin.Tuple.tupleExact
  refine wpAny_bind (wpAny_newObj_type ?_ (by show acc.toList.toArray.size ≤ sizeLine; simp only [Array.toArray_toList]; rw [hacc.1, sizeLine_val]; omega))
  refine wpAny_pure ?_
  rw [Array.toArray_toList]
  exact h s' acc hm hacc
theorem call_tuple_map {Q : Value → Shared → Prop} (W : Walks prog w A.in1.in1.in1 I fp wr n P St) (hT : ∀ i h, St i h → ∃ o, h.get? I = some o ∧ o.cls = .type "map") (hst : St 0 s.heap) (hfp : ∀ b ∈ fp, b < s.heap.objs.size) (hI : I ∈ fp) (hn : n ≤ 1000)
    (hQ : ∀ s' acc, Moved wr (fun a b => b = a) s s' → ItemsOf P acc n → Q (.ref s'.heap.objs.size) { s' with heap := s'.heap.push { cls := .type "tuple", data := .seq acc } }) :
    wpAny (model prog w) A (call (.type "tuple") [.ref I]) Q E s := by
  refine callType_codes (Q₁ := fun obj s₁ => s₁.TypeIs obj "tuple" ∧ Q obj s₁) F.called_tuple (F.typeCall_tuple_1 _) F.entry_object_init
    (code_tuple_map W hT hst hfp hI hn fun s' acc hm hacc => ⟨⟨_, Heap.get?_push_size _ rfl, rfl⟩, hQ s' acc hm hacc⟩) fun obj s₁ h₁ => ?_
  exact ⟨h₁.1, F.args_object_init_2 obj _, object_init_meets F.called_tuple.init.lookup F.called_tuple.made (by decide) prog w A.in1 _ s₁ ⟨h₁.1, rfl, h₁.2⟩⟩
end
theorem Moved.grow {sb s s' : Shared} {J : Addr} (g : Grow sb s) (hJ : sb.heap.get? J = none) (m : Moved [J] (fun a b => b = a) s s') : Grow sb s' :=
  ⟨fun b o e => m.heap b o (fun q => by rw [List.mem_singleton] at q; rw [q, hJ] at e; cases e) (g.kp _ _ e), by
    have h1 := g.gens; have h2 := g.os; have h3 : s.drawn = sb.drawn := by rw [g.same]
    have m1 : s'.gens = s.gens := m.gens
    have m2 := m.drawn; have m3 := m.os
    cases s'; cases s; cases sb
    simp_all⟩
/-- tuple(map(f, t)), the map made a step before, from sb on -/
theorem o_tuple_map {w : World} {A : Around} {E : Value → Shared → Prop} {Q : Value → Shared → Prop} {sb s : Shared} {f : Value} {t : Addr} {items : List Value} {P' : Nat → Value → Prop} {d u : Nat} (ao : AOk A d u) (ht : sb.heap.get? t = some (tupO items)) (hn : items.length ≤ 1000)
    (g : Grow sb s) (m : MapAt sb.heap f t 0 s.heap) (hz : s.heap.objs.size = sb.heap.objs.size + 3)
    (hf : ∀ i v (s : Shared) (Q : Value → Shared → Prop) (E : Value → Shared → Prop), items[i]? = some v → (∀ b o, sb.heap.get? b = some o → s.heap.get? b = some o) → (∀ v' s', P' i v' → Grow s s' → Q v' s') → wpAny (Mo w) A.in1.in1.in1.in1 (call f [v]) Q E s)
    (h : ∀ s' a vs, Grow sb s' → vs.length = items.length → (∀ j v, vs[j]? = some v → P' j v) → s'.heap.get? a = some (tupO vs) → sb.heap.get? a = none → Q (.ref a) s') :
    wpAny (Mo w) A (call (.type "tuple") [.ref (sb.heap.objs.size + 2)]) Q E s := by
  refine call_tuple_map (walks_map (A := A.in1.in1.in1) (hb := sb.heap) ao.handled ht hf) (fun i h m => ⟨_, m.map, rfl⟩) m (fun b hb => by rw [hz]; exact List.mem_range.mp hb) (List.mem_range.mpr (by omega)) hn fun s' acc hm hacc => ?_
  have hJ : sb.heap.get? sb.heap.objs.size = none := size_none _
  have gs := Moved.grow g hJ hm
  have e : (tupO acc.toList) = ({ cls := .type "tuple", data := .seq acc } : PySem.Obj) := by simp [tupO]
  obtain ⟨gp, e2, n2⟩ := push_new s' (tupO acc.toList) rfl
  rw [← e]
  refine h _ _ acc.toList (gs.trans gp) (by simpa using hacc.1) (fun j v hv => hacc.2 j v (by simpa using hv)) e2 ?_
  cases hq : sb.heap.get? s'.heap.objs.size with
  | none => rfl
  | some o => rw [gs.kp _ _ hq] at n2; cases n2
theorem o_max_map {w : World} {A : Around} {E : Value → Shared → Prop} {Q : Value → Shared → Prop} {sb s : Shared} {f : Value} {t : Addr} {items : List Value} (val : Nat → Int) {d u : Nat} (ao : AOk A d u) (ht : sb.heap.get? t = some (tupO items)) (hn : 0 < items.length)
    (g : Grow sb s) (m : MapAt sb.heap f t 0 s.heap) (hz : s.heap.objs.size = sb.heap.objs.size + 3)
    (hf : ∀ i v (s : Shared) (Q : Value → Shared → Prop) (E : Value → Shared → Prop), items[i]? = some v → (∀ b o, sb.heap.get? b = some o → s.heap.get? b = some o) → (∀ v' s', (∃ t, v' = .int (val i) t) → Grow s s' → Q v' s') → wpAny (Mo w) A.in1.in1 (call f [v]) Q E s)
    (h : ∀ s' t, Grow sb s' → Q (.int (val (argBest (fun i j => decide (val i > val j)) (items.length - 1))) t) s') :
    wpAny (Mo w) A (call (.builtin "max") [.ref (sb.heap.objs.size + 2)]) Q E s := by
  have W := walks_map (A := A.in1) (hb := sb.heap) (P' := fun i v => ∃ t, v = .int (val i) t) ao.handled ht hf
  refine call_max_walk (W.self 0 s _ _ m ⟨_, _, _, _, _, _, _, rfl, W, m, (fun b hb => by rw [hz]; exact List.mem_range.mp hb), hn, CmpOf.ints_gt val (fun _ _ h => h), fun v h' tk hP hk => ?_⟩)
  obtain ⟨t', rfl⟩ := hP
  refine h _ t' ⟨fun b o e => hk b o (fun q => by rw [List.mem_singleton] at q; rw [q, size_none] at e; cases e) (g.kp _ _ e), ?_⟩
  show _ = ({ sb with heap := h', toks := tk } : Shared)
  rw [g.same]
def sAt (l : List (PySem.Str × Tok)) (i : Nat) : List Nat := cl ((l[i]?.map (·.1)).getD PySem.Str.empty)
section
variable {w : World} {A : Around} {E : Value → Shared → Prop} {Q : Value → Shared → Prop} {s : Shared} {t : Addr} {l : List (PySem.Str × Tok)} {d u : Nat}
theorem strs_at {i : Nat} {v : Value} (h : (strValues l).toArray[i]? = some v) : ∃ x tx, l[i]? = some (x, tx) ∧ v = .str x tx ∧ sAt l i = cl x := by
  have h' : (strValues l)[i]? = some v := by simpa using h
  unfold strValues at h'
  rw [List.getElem?_map, Option.map_eq_some_iff] at h'
  obtain ⟨p, hp, rfl⟩ := h'
  exact ⟨p.1, p.2, hp, rfl, by unfold sAt; rw [hp]; rfl⟩
theorem o_min_tup (ao : AOk A d u) (ht : s.heap.get? t = some (tupO (strValues l))) (hn : 0 < l.length)
    (h : ∀ s' x tx, Grow s s' → l[argBest (fun i j => decide (sAt l i < sAt l j)) (l.length - 1)]? = some (x, tx) → Q (.str x tx) s') : wpAny (Mo w) A (call (.builtin "min") [.ref t]) Q E s := by
  have hT : s.heap.IsTuple t (strValues l).toArray := ⟨_, ht, rfl, 0, rfl⟩
  have hlt : t < s.heap.objs.size := Heap.lt_size ht
  refine call_min_walk (wpAny_pyIter_tuple hT ⟨_, _, _, _, _, _, (fun i j => decide (sAt l i < sAt l j)), rfl, Walks.tuple (A := A.in1) ao.handled _ t (Nat.ne_of_lt hlt) (strValues l).toArray, ⟨⟨_, Heap.get?_push_size _ rfl, rfl, rfl⟩, IsTuple.keep hT fun _ _ e => Heap.get?_push_of_some _ e⟩, ?_, by simpa [strValues] using hn, ?_, ?_⟩)
  · intro b hb
    show b < (s.heap.push _).objs.size
    rw [Heap.size_push]
    simp only [List.mem_cons, List.not_mem_nil, or_false] at hb
    rcases hb with rfl | rfl
    · exact Nat.lt_succ_self _
    · exact Nat.lt_succ_of_lt hlt
  · intro i j vi vj s Q E hi hj hQ
    obtain ⟨x, tx, _, rfl, ex⟩ := strs_at hi
    obtain ⟨y, ty, _, rfl, ey⟩ := strs_at hj
    refine PyProof.Rows.lt_str ?_
    have e : decide (sAt l i < sAt l j) = decide (x.cps.toList < y.cps.toList) := by rw [ex, ey]
    rw [← e]; exact hQ
  · intro v h' tk hP hk
    have hsz : (strValues l).toArray.size = l.length := by simp [strValues]
    rw [hsz] at hP
    obtain ⟨x, tx, hx, rfl, _⟩ := strs_at hP
    exact h _ x tx ⟨fun b o e => hk b o (fun q => by rw [List.mem_singleton] at q; rw [q, size_none] at e; cases e) (Heap.get?_push_of_some _ e), rfl⟩ hx
theorem o_max_tup (ao : AOk A d u) (ht : s.heap.get? t = some (tupO (strValues l))) (hn : 0 < l.length)
    (h : ∀ s' x tx, Grow s s' → l[argBest (fun i j => decide (sAt l j < sAt l i)) (l.length - 1)]? = some (x, tx) → Q (.str x tx) s') : wpAny (Mo w) A (call (.builtin "max") [.ref t]) Q E s := by
  have hT : s.heap.IsTuple t (strValues l).toArray := ⟨_, ht, rfl, 0, rfl⟩
  have hlt : t < s.heap.objs.size := Heap.lt_size ht
  refine call_max_walk (wpAny_pyIter_tuple hT ⟨_, _, _, _, _, _, (fun i j => decide (sAt l j < sAt l i)), rfl, Walks.tuple (A := A.in1) ao.handled _ t (Nat.ne_of_lt hlt) (strValues l).toArray, ⟨⟨_, Heap.get?_push_size _ rfl, rfl, rfl⟩, IsTuple.keep hT fun _ _ e => Heap.get?_push_of_some _ e⟩, ?_, by simpa [strValues] using hn, ?_, ?_⟩)
  · intro b hb
    show b < (s.heap.push _).objs.size
    rw [Heap.size_push]
    simp only [List.mem_cons, List.not_mem_nil, or_false] at hb
    rcases hb with rfl | rfl
    · exact Nat.lt_succ_self _
    · exact Nat.lt_succ_of_lt hlt
  · intro i j vi vj s Q E hi hj hQ
    obtain ⟨x, tx, _, rfl, ex⟩ := strs_at hi
    obtain ⟨y, ty, _, rfl, ey⟩ := strs_at hj
    refine compareOp_gives (op := .Gt) (typeIs_str _ _ _) (typeIs_str _ _ _) F.slot_str_gt F.entry_str_gt (F.args_str_gt_2 _ _) (gives_str_gt _ _ _ _) (fun e => nomatch e) ?_
    have e : decide (sAt l j < sAt l i) = decide (y.cps.toList < x.cps.toList) := by rw [ex, ey]
    rw [← e]; exact hQ
  · intro v h' tk hP hk
    have hsz : (strValues l).toArray.size = l.length := by simp [strValues]
    rw [hsz] at hP
    obtain ⟨x, tx, hx, rfl, _⟩ := strs_at hP
    exact h _ x tx ⟨fun b o e => hk b o (fun q => by rw [List.mem_singleton] at q; rw [q, size_none] at e; cases e) (Heap.get?_push_of_some _ e), rfl⟩ hx
end
section
variable {w : World} {s₀ s s' : Shared} {L : Addr} {m : PySem.Str → Option Value} {news : List (Addr × PySem.Obj)}
/-- objects of the frame's own making turned -/
theorem Fm.turn (f : Fm w s₀ L m news s) {wr : List Addr} {news' : List (Addr × PySem.Obj)} (hk : ∀ b o, b ∉ wr → s.heap.get? b = some o → s'.heap.get? b = some o) (hwr : ∀ b ∈ wr, b ≠ L ∧ s₀.heap.get? b = none)
    (hn : ∀ p ∈ news', (p.1 ∈ wr ∧ s'.heap.get? p.1 = some p.2) ∨ (p ∈ news ∧ p.1 ∉ wr)) (hs : s' = { s with heap := s'.heap, toks := s'.toks }) : Fm w s₀ L m news' s' := by
  have kz : ∀ b o, s₀.heap.get? b = some o → s'.heap.get? b = some o := fun b o e => hk b o (fun q => by rw [(hwr b q).2] at e; cases e) (f.keep _ _ e)
  obtain ⟨oL, es, ep, hL, r⟩ := f.ns
  refine ⟨⟨oL, es, ep, hk _ _ (fun q => (hwr _ q).1 rfl) hL, r⟩, kz, f.fresh, fun p hp => ?_, ?_, f.low.keeps kz, f.low⟩
  · rcases hn p hp with ⟨h1, h2⟩ | ⟨h1, h2⟩
    · exact ⟨h2, (hwr _ h1).1, (hwr _ h1).2⟩
    · exact ⟨hk _ _ h2 (f.N p h1).1, (f.N p h1).2⟩
  · have := f.same
    rw [hs, this]
theorem Fm.apart (f : Fm w s₀ L m news s) {p : Addr × PySem.Obj} (hp : p ∈ news) : p.1 ≠ L ∧ s₀.heap.get? p.1 = none := (f.N p hp).2
end
abbrev enO (it : Addr) (i : Int) (old : Value) : PySem.Obj := { cls := .type "enumerate", dict := none, data := .fields #[.none, .bool false, .ref it, rawInt i, .none, old], slots := #[] }
theorem o_enum_str {w : World} {A : Around} {E : Value → Shared → Prop} {Q : Value → Shared → Prop} {s : Shared} {x : PySem.Str} {t : Tok} (hx : ∀ c ∈ cl x, c < 128)
    (h : ∀ s' e it oi, Grow s s' → e ≠ it → s.heap.get? e = none → s.heap.get? it = none → s'.heap.get? e = some (enO it 0 .none) → s'.heap.get? it = some oi → oi.cls = .type "str_ascii_iterator" → oi.data = .fields #[.str x t, .int 0 0] → Q (.ref e) s') :
    wpAny (Mo w) A (call (.type "enumerate") [.str x t]) Q E s := by
  refine call_enumerate_str fun h' he hit hsz hk => ?_
  have ht : strIterType x = "str_ascii_iterator" := by
    unfold strIterType
    rw [if_pos]
    rw [Array.all_eq_true_iff_forall_mem]
    intro c hc
    exact decide_eq_true (hx c (by simpa [cl] using hc))
  rw [ht] at hit
  obtain ⟨oi, h1, h2, h3⟩ := hit
  refine h _ _ _ oi (Grow.heap hk s.toks) (by show s.heap.objs.size + 1 ≠ s.heap.objs.size; exact Nat.succ_ne_self _) ?_ (size_none _) he h1 h2 h3
  cases hq : s.heap.get? (s.heap.objs.size + 1) with
  | none => rfl
  | some o => exact absurd (Heap.lt_size hq) (Nat.not_lt.mpr (Nat.le_succ _))
/-- one turn's draw from an enumerated text, unpacked into two names -/
theorem o_enum_next {w : World} {A : Around} {E : Value → Shared → Prop} {s₀ s : Shared} {m : PySem.Str → Option Value} {news : List (Addr × PySem.Obj)} {env : Env} {kd : PySem.Str → Option NameKind} {x : PySem.Str} {t : Tok} {e it : Addr} {i : Nat} {old : Value} {oi : PySem.Obj} {xi xv : PySem.Str} {pi pv pt : Pos} {k1 : Nat} {d u : Nat} {R : Unit → Shared → Prop} {R0 : Shared → Prop}
    (ao : AOk A d u) (en : EnvOk env kd) (f : Fm w s₀ env.locals m ((e, enO it i old) :: (it, oi) :: news) s) (hei : e ≠ it) (hn1 : ∀ p ∈ news, p.1 ≠ e ∧ p.1 ≠ it) (hile : i ≤ x.cps.size) (hc : oi.cls = .type "str_ascii_iterator") (hd : oi.data = .fields #[.str x t, .int i 0])
    (hki : kd xi = some .local) (hkv : kd xv = some .local)
    (hsome : ∀ c s' old' oi' ti tc, x.cps[i]? = some c → oi'.cls = .type "str_ascii_iterator" → oi'.data = .fields #[.str x t, .int (i + 1 : Nat) 0] → Fm w s₀ env.locals (upd (upd m xi (.int i ti)) xv (.str ⟨#[c]⟩ tc)) ((e, enO it (i + 1 : Nat) old') :: (it, oi') :: news) s' → R () s')
    (hnone : x.cps[i]? = none → ∀ s', Fm w s₀ env.locals m news s' → R0 s') :
    wpAny (Mo w) A (pyNext (.ref e)) (fun r s₁ => match r with
      | none => R0 s₁
      | some v => wpAny (Mo w) A (letOwnedTupleGo (.Tuple [.Name xi pi, .Name xv pv] k1 pt) (.ref e) v) (fun _ s₁' => wpAny (Mo w) A (assign (.Tuple [.Name xi pi, .Name xv pv] k1 pt) env v) R E s₁') E s₁) E s := by
  have W := WalksT.enumerateD (w := w) (prog := prog) (A := A) (Draws.strAscii (A := A.in1) ao.handled it x t) e hei (by simpa using hei) (by simp)
  have apE := f.apart (p := (e, enO it i old)) (.head _)
  have apI := f.apart (p := (it, oi)) (.tail _ (.head _))
  have hwr : ∀ b ∈ [e, it], b ≠ env.locals ∧ s₀.heap.get? b = none := fun b hb => by
    simp only [List.mem_cons, List.not_mem_nil, or_false] at hb
    rcases hb with rfl | rfl
    · exact apE
    · exact apI
  have hst : (∃ old, IsEnum s.heap e it i old) ∧ s.heap.IsStrIter it "str_ascii_iterator" x t i := ⟨⟨old, f.get (.head _)⟩, oi, f.get (.tail _ (.head _)), hc, hd⟩
  have hnw : ∀ p ∈ news, p.1 ∉ [e, it] := fun p hp q => by
    simp only [List.mem_cons, List.not_mem_nil, or_false] at q
    rcases q with q | q
    · exact (hn1 p hp).1 q
    · exact (hn1 p hp).2 q
  cases hx : x.cps[i]? with
  | none =>
    have hi : i = x.cps.size := Nat.le_antisymm hile (by simpa using hx)
    subst hi
    refine W.done s _ _ hst fun h' tk hk => hnone hx _ (f.turn hk hwr (fun p hp => .inr ⟨.tail _ (.tail _ hp), hnw p hp⟩) rfl)
  | some c =>
    have hi : i < x.cps.size := (Array.getElem?_eq_some_iff.mp hx).1
    refine W.item i s _ _ hi hst fun T vals h1 tk hPt hT hTup hMid hk1 => ?_
    obtain ⟨ti, v, ⟨c', tc, hc', rfl⟩, rfl⟩ := hPt
    rw [hx] at hc'
    cases hc'
    have hTw := W.apart _ _ _ hMid
    refine W.go _ _ _ i T _ _ _ hMid fun h2 hst2 hk2 => ?_
    obtain ⟨⟨old', he2⟩, oi', hi2, hci, hdi⟩ := hst2
    have hTup2 : h2.IsTuple T #[.int i ti, .str ⟨#[c]⟩ tc] := let ⟨o, ho, r⟩ := hTup; ⟨o, hk2 _ _ hTw ho, r⟩
    refine wpAny_assign_Tuple (s := { s with heap := h2, toks := tk }) ao.handled hTup2 rfl rfl fun h3 hx3 => ?_
    have k3 : ∀ b o, h2.get? b = some o → h3.get? b = some o := fun b o q => hx3 b o (Nat.ne_of_lt (Heap.lt_size q)) q
    have f3 : Fm w s₀ env.locals m ((e, enO it (i + 1 : Nat) old') :: (it, oi') :: news) { s with heap := h3, toks := tk } := f.turn (wr := [e, it]) (fun b o hb q => k3 b o (hk2 b o hb (hk1 b o hb q))) hwr (fun p hp => by
      rcases List.mem_cons.mp hp with rfl | hp
      · exact .inl ⟨List.mem_cons_self .., k3 _ _ he2⟩
      · rcases List.mem_cons.mp hp with rfl | hp
        · exact .inl ⟨List.mem_cons_of_mem _ (List.mem_cons_self ..), k3 _ _ hi2⟩
        · exact .inr ⟨.tail _ (.tail _ hp), hnw p hp⟩) rfl
    refine wpAny_assignInOrder_more (wpAny_assign_Name (r_store en f3 (fun s4 f4 => ?_) hki))
    refine wpAny_assignInOrder_more (wpAny_assign_Name (r_store en f4 (fun s5 f5 => ?_) hkv))
    exact wpAny_assignInOrder_none (hsome c s5 old' oi' ti tc hx hci hdi f5)
theorem o_enum_self {w : World} {A : Around} {E : Value → Shared → Prop} {Q : Value → Shared → Prop} {s : Shared} {x : PySem.Str} {t : Tok} {e it : Addr} {i : Nat} {old : Value} {oi : PySem.Obj} {d u : Nat} (ao : AOk A d u) (he : s.heap.get? e = some (enO it i old)) (hi : s.heap.get? it = some oi) (hei : e ≠ it)
    (hc : oi.cls = .type "str_ascii_iterator") (hd : oi.data = .fields #[.str x t, .int i 0]) (h : Q (.ref e) s) : wpAny (Mo w) A (pyIter (.ref e)) Q E s :=
  (WalksT.enumerateD (w := w) (prog := prog) (A := A) (Draws.strAscii (A := A.in1) ao.handled it x t) e hei (by simpa using hei) (by simp)).self i s Q E ⟨⟨old, he⟩, oi, hi, hc, hd⟩ h
theorem o_item_str {w : World} {A : Around} {E : Value → Shared → Prop} {Q : Value → Shared → Prop} {s : Shared} {value slice : PySem.Expr} {x : PySem.Str} {t : Tok} {i : Int} {j : Nat} {c : Nat} {u : Tok} (hj : seqIndex? i x.length = some j) (hlo : -1000000 ≤ i ∧ i ≤ 1000000) (hc : (cl x)[j]? = some c) (h : ∀ s' t', Grow s s' → Q (.str ⟨#[c]⟩ t') s')
    (hs : subscripted slice false (.str x t) (.int i u) = operate [.str x t, .int i u] (getItem (.str x t) (.int i u)) := by with_unfolding_all rfl) :
    wpAny (Mo w) A (subscriptTail value slice (.str x t) (.int i u)) Q E s :=
  tail_any (typeIs_str s x t) PyProof.Rows.slot_str_getitem.lookup (PyProof.Rows.getItem_str (by rw [decide_eq_false (by omega), decide_eq_false (by omega)]; rfl) (by rw [hj]; simpa [cl] using hc) (h _ _ (Grow.toks ..))) hs
set_option maxHeartbeats 2000000 in
/-- _prefix of a tuple of texts whose least is a and greatest b, which agree up to k and part there (or a ends) -/
theorem c_prefix {w : World} {s : Shared} {A : Around} {E : Value → Shared → Prop} {Q : Value → Shared → Prop} {t : Addr} {l : List (PySem.Str × Tok)} {a b : PySem.Str} {k : Nat} {d u : Nat} (X : Amb w s.heap) (ao : AOk A d u) (hd : d < 1000)
    (ht : s.heap.get? t = some (tupO (strValues l))) (hn : 0 < l.length)
    (hmin : ∀ x tx, l[argBest (fun i j => decide (sAt l i < sAt l j)) (l.length - 1)]? = some (x, tx) → x = a)
    (hmax : ∀ x tx, l[argBest (fun i j => decide (sAt l j < sAt l i)) (l.length - 1)]? = some (x, tx) → x = b)
    (ha : a.length ≤ 1000000) (hb : b.length ≤ 1000000) (hasc : ∀ c ∈ cl a, c < 128) (hka : k ≤ a.length) (hkb : k ≤ b.length) (hsame : ∀ j, j < k → (cl a)[j]? = (cl b)[j]?) (hpart : k = a.length ∨ (k < b.length ∧ (cl a)[k]? ≠ (cl b)[k]?))
    (h : ∀ s' t, Grow s s' → Q (.str (tk a k) t) s') : wpAny (Mo w) A (call (.ref 63) [.ref t]) Q E s := by
  refine enter [(PySem.Str.ofString "m", .ref t)] [] X ao rfl rfl (by kernel_rfl) (by walk_at "bind") (by kernel_rfl) ?_
  intro env s₁ e eF f a1
  walk_at "bnd"
  repeat walk_at "st"
  refine o_min_tup a1 (Grow.kp (Fm.out (by assumption)) _ _ ht) hn ?_
  intro s2 x1 tx1 g h1
  have e1 := hmin _ _ h1
  subst e1
  (with_reducible rename Fm _ _ _ _ _ _ => fF); replace fF := Fm.grow fF g; clear g
  repeat walk_at "st"
  refine o_max_tup a1 (Grow.kp (Fm.out (by assumption)) _ _ ht) hn ?_
  intro s2 x2 tx2 g h2
  have e2 := hmax _ _ h2
  subst e2
  (with_reducible rename Fm _ _ _ _ _ _ => fF); replace fF := Fm.grow fF g; clear g
  repeat walk_at "st"
  refine wpAny_For ?_ (by intro _; with_unfolding_all rfl)
  repeat walk_at "st"
  refine o_enum_str hasc ?_
  intro s3 en it oi g hei hne hni he hi hc hd'
  (with_reducible rename Fm _ _ _ _ _ _ => fF)
  have f1 := (fF.new g hi hni)
  have f2 : Fm w s env.locals _ ((en, enO it 0 .none) :: (it, oi) :: []) s3 := ⟨f1.ns, f1.keep, f1.fresh, fun p hp => by
    rcases List.mem_cons.mp hp with rfl | hp
    · exact (fF.new g he hne).N _ (.head _)
    · exact f1.N p hp, f1.same, f1.amb, f1.low⟩
  clear fF f1 he hi hne hni g
  repeat walk_at "st"
  refine o_enum_self a1 (f2.get (.head _)) (f2.get (.tail _ (.head _))) hei hc hd' ?_
  refine codeAny_forLoop_any (fun n s' => ∃ i m old oi, n = x1.length + 1 - i ∧ i ≤ k ∧ Fm w s env.locals m ((en, enO it (i : Nat) old) :: (it, oi) :: []) s' ∧ m (PySem.Str.ofString "s1") = some (.str x1 tx1) ∧ m (PySem.Str.ofString "s2") = some (.str x2 tx2) ∧
    oi.cls = .type "str_ascii_iterator" ∧ oi.data = .fields #[.str x1 tx1, .int i 0]) ?_ (x1.length + 1) ⟨0, _, _, oi, rfl, Nat.zero_le _, f2, by walk_at "hv", by walk_at "hv", hc, hd'⟩
  clear f2 hc hd' oi
  rintro n s' ⟨i, m, old, oi, rfl, hik, f, hm1, hm2, hc, hd'⟩
  have hL1 : x1.cps.size = x1.length := rfl
  refine o_enum_next a1 e f hei (fun p hp => nomatch hp) (by omega) hc hd' (by kernel_rfl) (by kernel_rfl) ?_ ?_
  · intro c s4 old' oi' ti tc hx hc' hd'' f4
    have hi1 : (cl x1)[i]? = some c := by simpa [cl] using hx
    have hilt : i < x1.length := by rw [length_cl]; exact (List.getElem?_eq_some_iff.mp hi1).1
    have hib : i < x2.length := by
      rcases hpart with hp | hp
      · rcases Nat.lt_or_ge i k with q | q
        · omega
        · omega
      · omega
    obtain ⟨c2, hc2⟩ : ∃ c2, (cl x2)[i]? = some c2 := ⟨_, List.getElem?_eq_getElem (by rw [← length_cl]; exact hib)⟩
    refine wpAny_execs_cons (wpAny_If (wpAny_isTrue_Compare1 ?_ (by with_unfolding_all rfl)))
    clear f
    repeat walk_at "st"
    refine r_local (by assumption) (by assumption) ((upd_ne _ _ (ofs_ne (by decide))).trans ((upd_ne _ _ (ofs_ne (by decide))).trans hm2)) ?_ (by kernel_rfl) (by decide +kernel)
    repeat walk_at "st"
    refine o_item_str (StrLaws.seqIndex_nonneg (by omega) (by omega)) (by omega) (by simpa using hc2) ?_
    walk_at "gr"
    repeat walk_at "st"
    split
    · rename_i hne
      have hcc : c ≠ c2 := fun q => by subst q; simp at hne
      have hik' : i = k := by
        rcases Nat.lt_or_ge i k with q | q
        · have := hsame i q
          rw [hi1, hc2] at this
          exact absurd (Option.some.inj this) hcc
        · omega
      subst hik'
      repeat walk_at "st"
      refine r_local (by assumption) (by assumption) ((upd_ne _ _ (ofs_ne (by decide))).trans ((upd_ne _ _ (ofs_ne (by decide))).trans hm1)) ?_ (by kernel_rfl) (by decide +kernel)
      repeat walk_at "st"
      refine o_slice_ns (by omega) (by walk_at "sz") ?_
      walk_at "gr"
      have := h _ ‹Tok› (Fm.out (by assumption))
      simpa using this
    · rename_i hne
      have hcc : c = c2 := by
        by_cases q : c = c2
        · exact q
        · exfalso; apply hne; simp [q]
      subst hcc
      have hik' : i < k := by
        rcases Nat.lt_or_ge i k with q | q
        · exact q
        · have : i = k := by omega
          subst this
          rcases hpart with hp | hp
          · omega
          · exact absurd (hi1.trans hc2.symm) hp.2
      refine wpAny_execs_nil (wpAny_execs_nil ⟨x1.length + 1 - (i + 1), by omega, i + 1, _, old', oi', rfl, hik', by assumption, (upd_ne _ _ (ofs_ne (by decide))).trans ((upd_ne _ _ (ofs_ne (by decide))).trans hm1), (upd_ne _ _ (ofs_ne (by decide))).trans ((upd_ne _ _ (ofs_ne (by decide))).trans hm2), hc', hd''⟩)
  · intro hx s5 f5
    have hiL : i = x1.length := by
      have : x1.cps.size ≤ i := by simpa using hx
      omega
    refine wpAny_execs_nil ?_
    clear f
    repeat walk_at "st"
    refine r_local (by assumption) (by assumption) hm1 ?_ (by kernel_rfl) (by decide +kernel)
    have hk : k = x1.length := by omega
    have e : tk x1 k = x1 := tk_all (by omega)
    rw [e] at h
    exact h _ _ (Fm.out (by assumption))
abbrev lstE (vs : List Value) (n : Nat) : PySem.Obj := { cls := .type "list", data := .seq vs.toArray n }
theorem interactive_no {env : Env} {kd : PySem.Str → Option NameKind} (e : EnvOk env kd) : interactive env = false := by unfold interactive; rw [e.kind]; rfl
section
variable {w : World} {s : Shared} {A : Around} {E : Value → Shared → Prop} {Q : Value → Shared → Prop}
theorem o_type_str {x : PySem.Str} {t : Tok} (h : Q (.type "str") s) : wpAny (Mo w) A (call (.type "type") [.str x t]) Q E s := call_type_of (typeIs_str s x t) (by decide) h
theorem o_type_tup {a : Addr} {vs : List Value} (ha : s.heap.get? a = some (tupO vs)) (h : Q (.type "tuple") s) : wpAny (Mo w) A (call (.type "type") [.ref a]) Q E s := call_type_of ⟨_, ha, rfl⟩ (by decide) h
theorem o_truthy_str {x : PySem.Str} {t : Tok} {Q : Bool → Shared → Prop} (hx : x.length ≤ 1000000) (h : ∀ s', Grow s s' → Q ((x.length : Int) != 0) s') : wpAny (Mo w) A (truthy (.str x t)) Q E s :=
  PySem.P.truthy_str (by omega) (h _ (Grow.toks ..))
end
/-- the kinds in a comprehension's block inside a def whose kinds are kd -/
def kindC (kd : PySem.Str → Option NameKind) (names : List (PySem.Str × NameKind)) (x : PySem.Str) : Option NameKind :=
  (names.map fun (n, k) => if (k == .free && kd n == some .cell) then (n, .cell) else (n, k)).lookup x
theorem compOk {env : Env} {kd : PySem.Str → Option NameKind} (e : EnvOk env kd) {scope : Scope} (hk : scope.kind = .function) (cl : List (PySem.Str × Addr)) (C : Addr) : EnvOk (compEnvC scope cl C env) (kindC kd scope.names) :=
  ⟨fun x => by
    show ((relabel scope env).names).lookup x = _
    unfold relabel kindC
    simp only [e.kind, e.kindOf, beq_self_eq_true, Bool.and_true], hk, e.globals, e.builtins⟩
/-- a list comprehension with one clause and no test, from sb on -/
theorem o_comp {w : World} {A : Around} {E : Value → Shared → Prop} {Q : Value → Shared → Prop} {s : Shared} {elt iter : PySem.Expr} {x : PySem.Str} {px : Pos} {scope : Scope} {cl : List (PySem.Str × Addr)} {pos : Pos} {env : Env} {kd : PySem.Str → Option NameKind}
    (e : EnvOk env kd) (F : Value → Value → Prop) (hclos : closureFor scope env = pure cl) (hcell : (scope.names.all fun y => y.2 != .cell) = true) (hkind : scope.kind = .function)
    (hnames : (scope.names.all fun y => y.2 != .local || scope.names.lookup y.1 == some .local) = true) (hx : scope.names.lookup x = some .local) (sb : Shared) (Xb : Amb w sb.heap)
    (h : wpAny (Mo w) A (eval iter env) (fun xv s₁ => wpAny (Mo w) A (pyIter xv) (fun it s₂ => ∃ I fp n P St, it = .ref I ∧ Walks prog w A I fp [I] n P St ∧ n ≤ 1000 ∧ St 0 s₂.heap ∧ (∀ b ∈ fp, b < s₂.heap.objs.size) ∧ sb.heap.get? I = none ∧ Grow sb s₂ ∧
      (∀ C i v (s₃ : Shared) m₃ (E' : Value → Shared → Prop) (Q' : Value → Shared → Prop), P i v → m₃ x = some v → EnvOk (compEnvC scope cl C env) (kindC kd scope.names) → Fm w { s₃ with heap := sb.heap } C m₃ [] s₃ → (∀ y s₄, F v y → Grow s₃ s₄ → Q' y s₄) →
        wpAny (Mo w) A (eval elt (compEnvC scope cl C env)) Q' E' s₃) ∧
      (∀ D s' ys vs k, vs.length = n → (∀ j v, vs[j]? = some v → P j v) → Paired F vs ys → Grow sb s' → s'.heap.get? D = some (lstE ys k) → sb.heap.get? D = none → Q (.ref D) s')) E s₁) E s)
    (hs : ∀ x, foldedSetIterable iter env x = pure x := by intro _; with_unfolding_all rfl) :
    wpAny (Mo w) A (eval (.ListComp elt [⟨.Name x px, iter, [], 0⟩] scope pos) env) Q E s := by
  refine wpAny_ListComp_free (fun _ => true) F hclos (fun y hy => by simpa using List.all_eq_true.mp hcell y hy) hkind (fun y hy hl => by
    have := List.all_eq_true.mp hnames y hy
    rw [hl] at this
    simpa using this) hx (wpAny_mono h (fun xv s₁ h₁ => wpAny_mono h₁ (fun it s₂ h₂ => ?_) fun _ _ q => q) fun _ _ q => q) hs
  obtain ⟨I, fp, n, P, St, rfl, W, hn, hst, hfp, hI, g2, helt, hQ⟩ := h₂
  have low : ∀ {h' : Heap}, (∀ b o, b ∉ [I] → s₂.heap.get? b = some o → h'.get? b = some o) → ∀ b o, sb.heap.get? b = some o → h'.get? b = some o := fun hk b o q =>
    hk b o (fun r => by rw [List.mem_singleton] at r; rw [r, hI] at q; cases q) (g2.kp _ _ q)
  refine ⟨I, fp, [I], n, P, St, rfl, W, by rw [sizeLine_val]; omega, hst, hfp, ⟨?_, ?_⟩, ?_⟩
  · intro C i v s₃ m₃ E' hC hP hns hm hk htk
    exact wpAny_pure ⟨rfl, _, _, rfl, fun _ _ q => q⟩
  · intro C i v s₃ m₃ E' hC hP hp hns hm hk htk
    refine helt C i v s₃ m₃ E' _ hP hm (compOk e hkind cl C) ⟨hns, low hk, ?_, fun p hp => (nomatch hp), rfl, Xb.keeps (low hk), Xb⟩ fun y s₄ hF g => ⟨hF, s₄.heap, s₄.toks, g.same, g.kp⟩
    cases hq : sb.heap.get? C with
    | none => rfl
    | some o => exact absurd (Heap.lt_size (g2.kp _ _ hq)) (Nat.not_lt.mpr hC)
  · intro D h' tk ys vs hD hL hpl hlen hP hF hk
    obtain ⟨k, hpl⟩ := hpl
    have e1 : vs.filter (fun _ => true) = vs := List.filter_eq_self.mpr fun _ _ => rfl
    rw [e1] at hF
    refine hQ D _ ys.toList vs k hlen hP hF ⟨low hk, ?_⟩ (by simpa [lstE] using hpl) ?_
    · show ({ s₂ with heap := h', toks := tk } : Shared) = _
      rw [g2.same]
    · cases hq : sb.heap.get? D with
      | none => rfl
      | some o => rw [g2.kp _ _ hq] at hD; cases hD
set_option maxHeartbeats 1000000 in
theorem c_kind {w : World} {s : Shared} {A : Around} {E : Value → Shared → Prop} {Q : Value → Shared → Prop} {n x : PySem.Str} {t1 t : Tok} {d u : Nat} (X : Amb w s.heap) (ao : AOk A d u) (hd : d < 1000)
    (h : ∀ s' t, Grow s s' → Q (.str (PySem.Str.ofString "") t) s') : wpAny (Mo w) A (call (.ref 49) [.str n t1, .str x t]) Q E s := by
  refine enter [(PySem.Str.ofString "name", .str n t1), (PySem.Str.ofString "x", .str x t)] [] X ao rfl rfl (by kernel_rfl) (by walk_at "bind") (by kernel_rfl) ?_
  intro env s₁ e eF f a
  walk_at "bnd"
  repeat walk_at "st"
  refine o_type_str ?_
  repeat walk_at "st"
  exact h _ _ (Fm.out (by assumption))
set_option maxHeartbeats 1000000 in
theorem c_fspath {w : World} {s : Shared} {A : Around} {E : Value → Shared → Prop} {Q : Value → Shared → Prop} {n x : PySem.Str} {t1 t : Tok} {d u : Nat} (X : Amb w s.heap) (ao : AOk A d u) (hd : d < 990)
    (h : ∀ s', Grow s s' → Q (.str x t) s') : wpAny (Mo w) A (call (.ref 56) [.str n t1, .str x t]) Q E s := by
  refine enter [(PySem.Str.ofString "name", .str n t1), (PySem.Str.ofString "x", .str x t)] [] X ao rfl rfl (by kernel_rfl) (by walk_at "bind") (by kernel_rfl) ?_
  intro env s₁ e eF f a
  walk_at "bnd"
  repeat walk_at "st"
  refine o_def (Fm.amb (by assumption)) (by kernel_rfl) ?_
  repeat walk_at "st"
  refine ⟨(Fm.amb (by assumption)).k, c_kind (Fm.amb (by assumption)) a (by omega) ?_⟩
  walk_at "gr"
  repeat walk_at "st"
  refine o_truthy_str (by decide +kernel) ?_
  intro _ g
  (with_reducible rename Fm _ _ _ _ _ _ => fF); replace fF := Fm.grow fF g; clear g
  refine iteF (by decide +kernel) ?_
  repeat walk_at "st"
  exact h _ (Fm.out (by assumption))
section
variable {w : World} {A : Around} {E : Value → Shared → Prop} {s₀ s : Shared} {L : Addr} {m : PySem.Str → Option Value} {news : List (Addr × PySem.Obj)} {d u : Nat}
theorem o_iter_tup {Q : Value → Shared → Prop} {t : Addr} {vs : List Value} (ht : s.heap.get? t = some (tupO vs)) (h : ∀ s' it, Grow s s' → s'.heap.get? it = some (titO t 0) → s.heap.get? it = none → Q (.ref it) s') : wpAny (Mo w) A (pyIter (.ref t)) Q E s :=
  wpAny_pyIter_tuple ⟨_, ht, rfl, 0, rfl⟩ (let ⟨g, e, n⟩ := push_new s (titO t 0) rfl; h _ _ g e n)
abbrev litO (t : Addr) (i : Nat) : PySem.Obj := { cls := .type "list_iterator", data := .fields #[.ref t, .int i 0] }
theorem o_iter_lst {Q : Value → Shared → Prop} {t : Addr} {vs : List Value} {k : Nat} (ht : s.heap.get? t = some (lstE vs k)) (h : ∀ s' it, Grow s s' → s'.heap.get? it = some (litO t 0) → s.heap.get? it = none → Q (.ref it) s') : wpAny (Mo w) A (pyIter (.ref t)) Q E s :=
  wpAny_pyIter_list ⟨_, ht, rfl, k, rfl⟩ (let ⟨g, e, n⟩ := push_new s (litO t 0) rfl; h _ _ g e n)
/-- the next of a tuple's iterator that stands in the ledger -/
theorem o_next_tup {R : Option Value → Shared → Prop} {it t : Addr} {i : Nat} {vs : List Value} {oi : PySem.Obj} (ao : AOk A d u) (f : Fm w s₀ L m ((it, oi) :: news) s) (hn : ∀ p ∈ news, p.1 ≠ it) (ht : s.heap.get? t = some (tupO vs)) (hti : t ≠ it) (hc : oi.cls = .type "tuple_iterator") (hd : oi.data = .fields #[.ref t, .int i 0])
    (hsome : ∀ v s' oi', vs[i]? = some v → oi'.cls = .type "tuple_iterator" → oi'.data = .fields #[.ref t, .int (i + 1 : Nat) 0] → Fm w s₀ L m ((it, oi') :: news) s' → s'.heap.get? t = some (tupO vs) → R (some v) s')
    (hnone : vs[i]? = none → ∀ s', Fm w s₀ L m news s' → R none s') : wpAny (Mo w) A (pyNext (.ref it)) R E s := by
  have ap := f.apart (p := (it, oi)) (.head _)
  have hit : s.heap.IsTupleIter it t i := ⟨oi, f.get (.head _), hc, hd⟩
  have hT : s.heap.IsTuple t vs.toArray := ⟨_, ht, rfl, 0, rfl⟩
  have hwr : ∀ b ∈ [it], b ≠ L ∧ s₀.heap.get? b = none := fun b hb => by rw [List.mem_singleton] at hb; subst hb; exact ap
  cases hx : vs[i]? with
  | none =>
    refine wpAny_pyNext_tuple_end ao.handled hit hT (by simpa using hx) fun h' he => hnone hx _ ?_
    exact f.turn (wr := [it]) (fun b o hb q => he b o (fun r => hb (by rw [r]; exact List.mem_singleton.mpr rfl)) q) hwr (fun p hp => .inr ⟨.tail _ hp, fun q => hn p hp (List.mem_singleton.mp q)⟩) rfl
  | some v =>
    refine wpAny_pyNext_tuple_item hit hT (x := v) (by simpa using hx) fun h' hit' hs' => ?_
    obtain ⟨oi', h1, h2, h3⟩ := hit'
    refine hsome v _ oi' hx h2 h3 (f.turn (wr := [it]) (fun b o hb q => hs'.extBut b o (fun r => hb (by rw [r]; exact List.mem_singleton.mpr rfl)) q) hwr (fun p hp => ?_) rfl) (hs'.extBut _ _ hti ht)
    rcases List.mem_cons.mp hp with rfl | hp
    · exact .inl ⟨List.mem_singleton.mpr rfl, h1⟩
    · exact .inr ⟨.tail _ hp, fun q => hn p hp (List.mem_singleton.mp q)⟩
theorem o_next_lst {R : Option Value → Shared → Prop} {it t : Addr} {i k : Nat} {vs : List Value} {oi : PySem.Obj} (ao : AOk A d u) (f : Fm w s₀ L m ((it, oi) :: news) s) (hn : ∀ p ∈ news, p.1 ≠ it) (ht : s.heap.get? t = some (lstE vs k)) (hti : t ≠ it) (hc : oi.cls = .type "list_iterator") (hd : oi.data = .fields #[.ref t, .int i 0])
    (hsome : ∀ v s' oi', vs[i]? = some v → oi'.cls = .type "list_iterator" → oi'.data = .fields #[.ref t, .int (i + 1 : Nat) 0] → Fm w s₀ L m ((it, oi') :: news) s' → s'.heap.get? t = some (lstE vs k) → R (some v) s')
    (hnone : vs[i]? = none → ∀ s', Fm w s₀ L m news s' → R none s') : wpAny (Mo w) A (pyNext (.ref it)) R E s := by
  have ap := f.apart (p := (it, oi)) (.head _)
  have hit : s.heap.IsListIter it t i := ⟨oi, f.get (.head _), hc, hd⟩
  have hT : s.heap.IsList t vs.toArray := ⟨_, ht, rfl, k, rfl⟩
  have hwr : ∀ b ∈ [it], b ≠ L ∧ s₀.heap.get? b = none := fun b hb => by rw [List.mem_singleton] at hb; subst hb; exact ap
  cases hx : vs[i]? with
  | none =>
    refine wpAny_pyNext_list_end ao.handled hit hT (by simpa using hx) fun h' he => hnone hx _ ?_
    exact f.turn (wr := [it]) (fun b o hb q => he b o (fun r => hb (by rw [r]; exact List.mem_singleton.mpr rfl)) q) hwr (fun p hp => .inr ⟨.tail _ hp, fun q => hn p hp (List.mem_singleton.mp q)⟩) rfl
  | some v =>
    refine wpAny_pyNext_list_item hit hT (x := v) (by simpa using hx) fun h' hit' hs' => ?_
    obtain ⟨oi', h1, h2, h3⟩ := hit'
    refine hsome v _ oi' hx h2 h3 (f.turn (wr := [it]) (fun b o hb q => hs'.extBut b o (fun r => hb (by rw [r]; exact List.mem_singleton.mpr rfl)) q) hwr (fun p hp => ?_) rfl) (hs'.extBut _ _ hti ht)
    rcases List.mem_cons.mp hp with rfl | hp
    · exact .inl ⟨List.mem_singleton.mpr rfl, h1⟩
    · exact .inr ⟨.tail _ hp, fun q => hn p hp (List.mem_singleton.mp q)⟩
theorem o_tuple_lst {Q : Value → Shared → Prop} {t : Addr} {vs : List Value} {k : Nat} (ht : s.heap.get? t = some (lstE vs k)) (hsz : vs.length ≤ 1000) (h : ∀ s' a, Grow s s' → s'.heap.get? a = some (tupO vs) → s.heap.get? a = none → Q (.ref a) s') : wpAny (Mo w) A (call (.type "tuple") [.ref t]) Q E s := by
  refine call_tuple_list ⟨_, ht, rfl, k, rfl⟩ (fun h' hk => ?_) (by rw [List.size_toArray, sizeLine_val]; omega)
  have g0 : Grow s { s with heap := h' } := ⟨hk, rfl⟩
  obtain ⟨g, e, n⟩ := push_new { s with heap := h' } (tupO vs) rfl
  refine h _ _ (g0.trans g) e ?_
  show s.heap.get? h'.objs.size = none
  cases hq : s.heap.get? h'.objs.size with
  | none => rfl
  | some o => have := hk _ _ hq; have := Heap.lt_size this; exact absurd this (Nat.lt_irrefl _)
end
theorem paired_eq {vs ys : List Value} (h : Paired (fun v y => y = v) vs ys) : ys = vs := by
  induction h with
  | nil => rfl
  | cons h _ ih => rw [h, ih]
set_option maxHeartbeats 4000000 in
theorem c_common {w : World} {s : Shared} {A : Around} {E : Value → Shared → Prop} {Q : Value → Shared → Prop} {t : Addr} {l : List (PySem.Str × Tok)} {a b : PySem.Str} {k : Nat} {d u : Nat} (X : Amb w s.heap) (ao : AOk A d u) (hd : d < 900)
    (ht : s.heap.get? t = some (tupO (strValues l))) (hn : 0 < l.length) (hl8 : l.length ≤ 100)
    (hmin : ∀ x tx, l[argBest (fun i j => decide (sAt l i < sAt l j)) (l.length - 1)]? = some (x, tx) → x = a)
    (hmax : ∀ x tx, l[argBest (fun i j => decide (sAt l j < sAt l i)) (l.length - 1)]? = some (x, tx) → x = b)
    (ha : a.length ≤ 1000000) (hb : b.length ≤ 1000000) (hasc : ∀ c ∈ cl a, c < 128) (hka : k ≤ a.length) (hkb : k ≤ b.length) (hsame : ∀ j, j < k → (cl a)[j]? = (cl b)[j]?) (hpart : k = a.length ∨ (k < b.length ∧ (cl a)[k]? ≠ (cl b)[k]?))
    (h : ∀ s' t, Grow s s' → Q (.str (tk a k) t) s') : wpAny (Mo w) A (call (.ref 68) [.ref t]) Q E s := by
  obtain ⟨x0, tx0, hx0⟩ : ∃ x tx, l[0]? = some (x, tx) := by
    cases l with
    | nil => simp at hn
    | cons p r => exact ⟨p.1, p.2, rfl⟩
  have hv0 : (strValues l)[0]? = some (Value.str x0 tx0) := by unfold strValues; rw [List.getElem?_map, hx0]; rfl
  have hlen : (strValues l).length = l.length := by simp [strValues]
  have hstrs : ∀ i v, (strValues l)[i]? = some v → ∃ x tx, v = Value.str x tx := fun i v hv => by
    unfold strValues at hv
    rw [List.getElem?_map, Option.map_eq_some_iff] at hv
    obtain ⟨p, _, rfl⟩ := hv
    exact ⟨_, _, rfl⟩
  refine enter [(PySem.Str.ofString "m", .ref t)] [] X ao rfl rfl (by kernel_rfl) (by walk_at "bind") (by kernel_rfl) ?_
  intro env s₁ e eF f a1
  walk_at "bnd"

  repeat walk_at "st"
  refine o_type_tup (Grow.kp (Fm.out (by assumption)) _ _ ht) ?_
  repeat walk_at "st"
  refine o_type_tup (Grow.kp (Fm.out (by assumption)) _ _ ht) ?_
  repeat walk_at "st"
  refine o_truthy_tup (Grow.kp (Fm.out (by assumption)) _ _ ht) (by omega) ?_
  intro _ g
  (with_reducible rename Fm _ _ _ _ _ _ => fF); replace fF := Fm.grow fF g; clear g
  have hne : (strValues l).isEmpty = false := by
    cases hq : strValues l with
    | nil => rw [hq] at hv0; cases hv0
    | cons _ _ => rfl
  rw [hne]
  repeat walk_at "st"
  refine o_item_tup (Grow.kp (Fm.out (by assumption)) _ _ ht) (j := 0) (by rw [hlen]; exact StrLaws.seqIndex_nonneg (by decide) (by omega)) (by decide) hv0 ?_
  repeat walk_at "st"
  refine o_type_str ?_
  repeat walk_at "st"
  refine wpAny_For ?_ (by intro _; with_unfolding_all rfl)
  repeat walk_at "st"
  refine o_iter_tup (Grow.kp (Fm.out (by assumption)) _ _ ht) ?_
  intro s5 it g hi hni
  (with_reducible rename Fm _ _ _ _ _ _ => fF)
  have hti : t ≠ it := fun q => by rw [← q, (Grow.kp (Fm.out fF) _ _ ht)] at hni; cases hni
  have f5 := fF.new g hi hni
  clear fF hi hni g
  refine codeAny_forLoop_any (fun n s' => ∃ i m oi, n = l.length + 1 - i ∧ i ≤ l.length ∧ Fm w s env.locals m ((it, oi) :: []) s' ∧ m (PySem.Str.ofString "m") = some (.ref t) ∧ oi.cls = .type "tuple_iterator" ∧ oi.data = .fields #[.ref t, .int i 0]) ?_ (l.length + 1)
    ⟨0, _, _, rfl, Nat.zero_le _, f5, by walk_at "hv", rfl, rfl⟩
  clear f5
  rintro n s' ⟨i, m, oi, rfl, hik, f, hm1, hc, hd'⟩
  refine o_next_tup a1 f (fun p hp => nomatch hp) (Grow.kp f.out _ _ ht) hti hc hd' ?_ ?_
  · intro v s6 oi' hv hc' hd'' f6 _
    obtain ⟨x, tx, rfl⟩ := hstrs i v hv
    have hilt : i < l.length := by rw [← hlen]; exact (List.getElem?_eq_some_iff.mp hv).1
    clear f
    refine wpAny_of_eq (a := ()) rfl (wpAny_assign_Name ?_)
    repeat walk_at "st"
    refine wpAny_Expr ?_ (interactive_no e) (by with_unfolding_all rfl)
    repeat walk_at "st"
    refine o_def (Fm.amb (by assumption)) (by kernel_rfl) ?_
    repeat walk_at "st"
    refine ⟨(Fm.amb (by assumption)).k, c_kind (Fm.amb (by assumption)) a1 (by omega) ?_⟩
    walk_at "gr"
    repeat walk_at "st"
    exact ⟨l.length + 1 - (i + 1), by omega, i + 1, _, oi', rfl, by omega, by assumption, (upd_ne _ _ (ofs_ne (by decide))).trans hm1, hc', hd''⟩
  · intro hv s6 f6
    clear f
    repeat walk_at "st"
    refine o_def (Fm.amb (by assumption)) (by kernel_rfl) ?_
    repeat walk_at "st"
    (with_reducible rename Fm _ _ _ _ _ _ => fF)
    refine o_comp (sb := s6) e (fun v y => y = v) (closureFor_none (fun x hx => by simp only [List.mem_cons, List.not_mem_nil, or_false] at hx; rcases hx with rfl | rfl | rfl <;> decide)) (by rfl) rfl (by kernel_rfl) (by kernel_rfl) fF.amb ?_ (by intro _; with_unfolding_all rfl)
    refine r_local (by assumption) (by assumption) hm1 ?_ (by kernel_rfl) (by decide +kernel)
    have ht6 := Grow.kp fF.out _ _ ht
    refine o_iter_tup ht6 ?_
    intro s7 it7 g7 hi7 hni7
    have hlt : t ≠ it7 := fun q => by rw [← q, ht6] at hni7; cases hni7
    have ht7 := g7.kp _ _ ht6
    refine ⟨it7, _, _, _, _, rfl, Walks.tuple a1.handled it7 t hlt (strValues l).toArray, by rw [List.size_toArray, hlen]; omega, ⟨⟨_, hi7, rfl, rfl⟩, ⟨_, ht7, rfl, 0, rfl⟩⟩, ?_, hni7, g7, ?_, ?_⟩
    · intro b hb
      simp only [List.mem_cons, List.not_mem_nil, or_false] at hb
      rcases hb with rfl | rfl
      · exact Heap.lt_size hi7
      · exact Heap.lt_size ht7
    · intro C i v s8 m8 E' Q' hP hm8 e8 f8 hq
      obtain ⟨x, tx, rfl⟩ := hstrs i v (by simpa using hP)
      clear fF
      have gg : Grow s8 s8 := Grow.refl _
      repeat walk_at "st"
      refine o_def (Fm.amb (by assumption)) (by kernel_rfl) ?_
      repeat walk_at "st"
      (with_reducible rename Fm _ _ _ _ _ _ => f9)
      (with_reducible rename Grow _ _ => g9)
      refine r_local e8 (show Fm w _ (compEnvC _ _ C env).locals _ _ _ from f9) hm8 ?_ (by kernel_rfl) (by decide +kernel)
      refine args_nil ⟨f9.amb.k, c_fspath f9.amb a1 (by omega) fun s10 g10 => hq _ _ rfl (g9.trans g10)⟩
    · intro D s8 ys vs k8 hvl hvP hpr g8 hD hnD
      have hys := paired_eq hpr
      have hvs : vs = strValues l := by
        refine List.ext_getElem? fun j => ?_
        cases hq : vs[j]? with
        | some v => have := hvP j v hq; simpa using this.symm
        | none =>
          have : vs.length ≤ j := by simpa using hq
          rw [hvl, List.size_toArray] at this
          rw [List.getElem?_eq_none this]
      rw [hvs] at hys
      subst hys
      have f8 := fF.new g8 hD hnD
      clear fF
      repeat walk_at "st"
      refine o_tuple_lst (f8.get (.head _)) (by omega) ?_
      walk_at "nw"
      repeat walk_at "st"
      (with_reducible rename Fm _ _ _ _ _ _ => f9)
      refine ⟨f9.amb.k, c_prefix f9.amb a1 (by omega) (f9.get (.head _)) hn hmin hmax ha hb hasc hka hkb hsame hpart ?_⟩
      walk_at "gr"
      exact h _ _ (Fm.out (by assumption))
section
variable {w : World} {s₀ s : Shared} {m : PySem.Str → Option Value} {news : List (Addr × PySem.Obj)} {A : Around} {E : Value → Shared → Prop} {env : Env} {x : PySem.Str} {pos : Pos} {v : Value} {kd : PySem.Str → Option NameKind}
theorem r_cell {Q : Value → Shared → Prop} {c : Addr} {o : PySem.Obj} (e : EnvOk env kd) (hc : env.cells.lookup x = some c) (ho : s.heap.get? c = some o) (hd : o.data = .cell (some v)) (h : Q v s) (hk : kd x = some .cell := by kernel_rfl) (hdb : (x == ("__debug__" : PySem.Str)) = false := by decide) :
    wpAny (Mo w) A (eval (.Name x pos) env) Q E s := wpAny_Name (wpAny_loadName_cell e.kind ((e.kindOf x).trans hk) hc ⟨o, ho, hd⟩ h) hdb
theorem r_free {Q : Value → Shared → Prop} {c : Addr} {o : PySem.Obj} (e : EnvOk env kd) (hc : env.cells.lookup x = some c) (ho : s.heap.get? c = some o) (hd : o.data = .cell (some v)) (h : Q v s) (hk : kd x = some .free := by kernel_rfl) (hdb : (x == ("__debug__" : PySem.Str)) = false := by decide) (hcd : (x == ("__classdict__" : PySem.Str)) = false := by decide) :
    wpAny (Mo w) A (eval (.Name x pos) env) Q E s := wpAny_Name (wpAny_loadName_free e.kind ((e.kindOf x).trans hk) hc ⟨o, ho, hd⟩ h hcd) hdb
/-- storing a cell's name: its object is at the ledger's head -/
theorem r_storeC {Q : Unit → Shared → Prop} {c : Addr} {o : PySem.Obj} {v₀ : Option Value} (e : EnvOk env kd) (f : Fm w s₀ env.locals m ((c, o) :: news) s) (hc : env.cells.lookup x = some c) (hd : o.data = .cell v₀) (hne : ∀ p ∈ news, p.1 ≠ c)
    (h : ∀ s' o', o'.data = .cell (some v) → Fm w s₀ env.locals m ((c, o') :: news) s' → Q () s') (hk : kd x = some .cell := by kernel_rfl) : wpAny (Mo w) A (storeName env x v) Q E s := by
  refine wpAny_storeName_cell e.kind ((e.kindOf x).trans hk) hc ⟨o, f.get (.head _), hd⟩ fun h' hc' hs' => ?_
  obtain ⟨o', h1, h2⟩ := hc'
  have ap := f.apart (p := (c, o)) (.head _)
  refine h _ o' h2 (f.turn (wr := [c]) (fun b o hb q => hs'.extBut b o (fun r => hb (by rw [r]; exact List.mem_singleton.mpr rfl)) q) (fun b hb => by rw [List.mem_singleton] at hb; subst hb; exact ap) (fun p hp => ?_) rfl)
  rcases List.mem_cons.mp hp with rfl | hp
  · exact .inl ⟨List.mem_singleton.mpr rfl, h1⟩
  · exact .inr ⟨.tail _ hp, fun q => hne p hp (List.mem_singleton.mp q)⟩
/-- entering a def with cells -/
theorem enterC {Q : Value → Shared → Prop} {f : Addr} {oc : Value} {od : Option Addr} {osl : Array (Option Value)} {fd : FuncData} {args : List Value} {body : List Stmt} (binds : List (PySem.Str × Value)) (nw : List (Addr × PySem.Obj)) (X : Amb w s.heap) {d u : Nat} (a : AOk A d u)
    (ho : (KK w).lookup f = some ⟨oc, od, .func fd, osl⟩) (hb : fd.body = .stmts body) (hcd : codeIn (KK w) fd.code fd.qualname = true)
    (hbind : ∀ (A : Around) (E : Value → Shared → Prop) (Q : List (PySem.Str × Value) → Shared → Prop), (∀ s', Grow s s' → (∀ p ∈ nw, s'.heap.get? p.1 = some p.2 ∧ s.heap.get? p.1 = none) → Q binds s') → wpAny (Mo w) A (bindArgs fd ⟨args, []⟩) Q E s)
    (hkind : (binds.all fun x => fd.scope.names.lookup x.1 == some .local || (fd.scope.names.lookup x.1 == some .cell && ((cellsFrom 0 fd.scope.names []).lookup x.1).isSome)) = true)
    (h : ∀ env s₁ sx, EnvOk env (kindIn f) → EnvF env f → env.cells = cellsFrom (env.locals + 1) fd.scope.names [] → Grow s sx → env.locals = sx.heap.objs.size → (∀ p ∈ nw, sx.heap.get? p.1 = some p.2 ∧ s.heap.get? p.1 = none) →
      InCallC sx env.locals (bindL env.kindOf binds fun _ => none) env.cells (bindC env.kindOf binds fun _ => none) s₁ → AOk (A.deeper env) (d + 1) (u + 3) →
      wpAny (Mo w) (A.deeper env) (execs body env) (fun fl s' => Q (match fl with | .ret v => v | _ => .none) s') (fun _ _ => False) s₁)
    (hfd : fd = fdOf f := by kernel_rfl) (hg : fd.globals = mainGlobals := by rfl) (hcl : fd.closure = [] := by rfl) (hbu : fd.builtins = builtinsNs := by rfl)
    (hco : fd.scope.isCoroutine = false := by rfl) (hgen : fd.scope.isGenerator = false := by rfl) (hk : fd.scope.kind = .function := by rfl) (hd : d < 1000 := by first | assumption | omega) : wpAny (Mo w) A (call (.ref f) args) Q E s := by
  have some_any : ∀ (names : List (PySem.Str × NameKind)) (x : PySem.Str) (n n' : Nat) (acc acc' : List (PySem.Str × Addr)), (acc.lookup x).isSome = (acc'.lookup x).isSome → ((cellsFrom n names acc).lookup x).isSome = ((cellsFrom n' names acc').lookup x).isSome := by
    intro names
    induction names with
    | nil => intro x n n' acc acc' q; exact q
    | cons p r ih =>
      obtain ⟨y, k⟩ := p
      intro x n n' acc acc' q
      unfold cellsFrom
      split
      · refine ih x _ _ _ _ ?_
        rw [List.lookup_cons, List.lookup_cons]
        cases x == y
        · exact q
        · rfl
      · exact ih x _ _ _ _ q
  refine wpAny_call (codeAny_call_function (Nat.lt_of_le_of_lt a.depth hd) (X.k _ _ ho) rfl hco hgen hb (codeRec_of X.k hcd) ?_)
  refine hbind _ _ _ fun s₁ g₁ hnw => ?_
  have X₁ := X.grow g₁
  rw [hcl]
  refine wpAny_newFunctionEnv_cells hk (fun x hx => ?_) fun env henv s' hi => ⟨?_, ?_⟩
  · have := List.all_eq_true.mp hkind x hx
    rcases Bool.or_eq_true_iff.mp this with q | q
    · exact .inl (by simpa using q)
    · obtain ⟨q1, q2⟩ := Bool.and_eq_true_iff.mp q
      exact .inr ⟨by simpa using q1, by rw [some_any _ _ _ 0 [] [] rfl]; exact q2⟩
  · exact X₁.nolimit.keeps hi.toInCall.keep
  · refine codeAny_func ?_
    subst henv
    exact wpAny_mono (h _ s' s₁ ⟨fun x => by unfold kindIn; rw [← hfd]; rfl, hk, hg, hbu⟩ ⟨by rw [← hfd]; rfl, by rw [← hfd]; rfl, by rw [← hfd]; rfl, rfl⟩ rfl g₁ rfl hnw hi (a.deeper _)) (fun _ _ x => x) (fun _ _ x => x.elim)
end
structure Tb (ps : Array Value) (h : Heap) : Prop where
  code : h.IsCode 74 70 ps
  tab : h.TableAt 74 70 ps
theorem Tb.keeps {ps : Array Value} {h h' : Heap} (x : Tb ps h) (k : ∀ b o, h.get? b = some o → h'.get? b = some o) : Tb ps h' := ⟨x.code.keeps k, x.tab.keeps k⟩
structure GrowG (ps : Array Value) (s s' : Shared) : Prop where
  kp : ∀ b o, b ≠ 70 → s.heap.get? b = some o → s'.heap.get? b = some o
  tb : ∃ more, Tb (ps ++ more) s'.heap
  gens : AllBare s.gens → AllBare s'.gens
  os : s'.os = s.os
theorem GrowG.of {ps : Array Value} {s s' : Shared} (tb : Tb ps s.heap) (g : Grow s s') : GrowG ps s s' :=
  ⟨fun b o _ q => g.kp _ _ q, ⟨#[], by simpa using tb.keeps g.kp⟩, fun x => by rw [g.gens]; exact x, g.os⟩
theorem strs_of {vs : List Value} {texts : List PySem.Str} (hl : vs.length = texts.length) (h : ∀ (j : Nat) (v : Value), vs[j]? = some v → ∃ t x, texts[j]? = some x ∧ v = Value.str x t) : ∃ l : List (PySem.Str × Tok), vs = strValues l ∧ l.map (·.1) = texts := by
  induction vs generalizing texts with
  | nil => exact ⟨[], rfl, by cases texts with | nil => rfl | cons _ _ => simp at hl⟩
  | cons v r ih =>
    cases texts with
    | nil => simp at hl
    | cons x xs =>
      obtain ⟨t, x', e1, e2⟩ := h 0 v rfl
      simp at e1
      subst e1
      obtain ⟨l, h1, h2⟩ := ih (texts := xs) (by simpa using hl) (fun j v hv => by simpa using h (j + 1) v (by simpa using hv))
      exact ⟨(x, t) :: l, by rw [e2, h1]; rfl, by simp [h2]⟩
theorem o_builtinsFor {w : World} {s : Shared} {A : Around} {E : Value → Shared → Prop} {Q : Addr → Shared → Prop} {env : Env} {kd : PySem.Str → Option NameKind} (e : EnvOk env kd) (X : Amb w s.heap) (h : Q builtinsNs s) : wpAny (Mo w) A (builtinsFor env.globals env.builtins) Q E s := by
  obtain ⟨mg, G, hm⟩ := ns_of_K X.k
  obtain ⟨ob, h1, h2, h3, h4⟩ := X.bm
  have hb : mg "__builtins__" = some (.ref 4) := hm _ _ (by kernel_rfl)
  rw [e.globals]
  exact wpAny_builtinsFor G hb (by decide) h1 h2 h3 h4 h
theorem closure_two {env : Env} {scope : Scope} {x y : PySem.Str} {a b : Addr} (hn : scope.names.filter (fun p => p.2 == .free) = [(x, .free), (y, .free)]) (hx : env.cells.lookup x = some a) (hy : env.cells.lookup y = some b) : closureFor scope env = pure [(y, b), (x, a)] := by
  have key : ∀ (names : List (PySem.Str × NameKind)) (acc : List (PySem.Str × Addr)), (forIn names acc fun x r => (if (x.2 == NameKind.free) = true then do let c ← cellOf env x.1; pure (ForInStep.yield ((x.1, c) :: r)) else pure (ForInStep.yield r) : Sem (ForInStep (List (PySem.Str × Addr))))) =
      (forIn (names.filter fun p => p.2 == .free) acc fun x r => (do let c ← cellOf env x.1; pure (ForInStep.yield ((x.1, c) :: r)) : Sem (ForInStep (List (PySem.Str × Addr))))) := by
    intro names
    induction names with
    | nil => intro acc; rfl
    | cons p r ih =>
      intro acc
      rw [List.forIn_cons, List.filter_cons]
      cases hp : p.2 == NameKind.free with
      | true =>
        simp only [if_true, List.forIn_cons]
        simp only [bind_assoc, pure_bind]
        congr 1
        funext c
        exact ih _
      | false =>
        simp only [Bool.false_eq_true, if_false, pure_bind]
        exact ih _
  have hxo : cellOf env x = pure a := by unfold cellOf; rw [hx]
  have hyo : cellOf env y = pure b := by unfold cellOf; rw [hy]
  unfold closureFor
  have := key scope.names []
  simp only [hn, List.forIn_cons, List.forIn_nil, hxo, hyo, pure_bind] at this
  show ((forIn scope.names ([] : List (PySem.Str × Addr)) fun x r => (if (x.2 == NameKind.free) = true then do let c ← cellOf env x.1; pure (ForInStep.yield ((x.1, c) :: r)) else pure (ForInStep.yield r) : Sem (ForInStep (List (PySem.Str × Addr))))) >>= fun cs => pure cs) = _
  rw [this]
  rfl
theorem K_no70 (w : World) : (KK w).lookup 70 = none := by kernel_rfl
theorem Amb.but {w : World} {h h' : Heap} (x : Amb w h) (k : ∀ b o, b ≠ 70 → h.get? b = some o → h'.get? b = some o) : Amb w h' := by
  refine ⟨fun a o e => k _ _ (fun q => by rw [q, K_no70] at e; cases e) (x.k a o e), ?_, ?_⟩
  · obtain ⟨mb, ⟨o, es, ep, a, r⟩, c⟩ := x.b
    exact ⟨mb, ⟨o, es, ep, k _ _ (by decide) a, r⟩, c⟩
  · obtain ⟨ob, a, c⟩ := x.bm
    exact ⟨ob, k _ _ (by decide) a, c⟩
theorem Tb.extBut {ps : Array Value} {h h' : Heap} {J : Addr} (x : Tb ps h) (hx : Heap.ExtBut J h h') (h1 : 74 ≠ J) (h2 : 70 ≠ J) : Tb ps h' := ⟨x.code.extBut hx h1 h2, x.tab.extBut hx h1 h2⟩
theorem passing_len (n : Nat) : passing (fun _ => true) n 0 = List.range n := by unfold passing; simp
set_option maxHeartbeats 1000000 in
/-- tuple(elt for x in t), t a tuple, in the def whose code is 74 -/
theorem o_tuple_gen {w : World} {s : Shared} {A : Around} {E : Value → Shared → Prop} {Q : Value → Shared → Prop} {elt iter : PySem.Expr} {x : PySem.Str} {px : Pos} {scope : Scope} {cl : List (PySem.Str × Addr)} {pos : Pos} {env : Env} {kd : PySem.Str → Option NameKind} {ps : Array Value} {t : Addr} {vs : List Value} {d u : Nat}
    (e : EnvOk env kd) (hcode : env.code = .ref 74) (tb : Tb ps s.heap) (X : Amb w s.heap) (ao : AOk A d u) (hd : d < 1000) (F : Nat → Value → Prop)
    (hco : scope.isCoroutine = false) (hclos : closureFor scope env = pure cl) (hcell : (scope.names.all fun y => y.2 != .cell) = true) (h0 : scope.names.lookup (".0" : PySem.Str) = some NameKind.local)
    (hx : scope.names.lookup x = some .local) (hkind : scope.kind = .function) (ht : s.heap.get? t = some (tupO vs)) (hn : vs.length ≤ 1000)
    (hiter : ∀ (Q' : Value → Shared → Prop), Q' (.ref t) s → wpAny (Mo w) A (eval iter env) Q' E s)
    (helt : ∀ code C (A' : Around) (E' : Value → Shared → Prop) i v (s₂ : Shared) m₂, A'.handled = none → vs[i]? = some v → s₂.heap.Ns C m₂ → m₂ x = some v → (∀ b o, b ≠ 70 → s.heap.get? b = some o → s₂.heap.get? b = some o) →
      wpAny (Mo w) A' (eval elt (genEnv scope cl C code builtinsNs env)) (fun y s₃ => F i y ∧ Keeps s₂ s₃) E' s₂)
    (h : ∀ s' a ys, GrowG ps s s' → ys.length = vs.length → (∀ j y, ys[j]? = some y → F j y) → s'.heap.get? a = some (tupO ys) → s.heap.get? a = none → Q (.ref a) s')
    (hs : ∀ x, genFold iter env x = pure x) :
    wpAny (Mo w) A (eval (.GeneratorExp elt [⟨.Name x px, iter, [], 0⟩] scope pos) env) (fun v s₁ => wpAny (Mo w) A (call (.type "tuple") [v]) Q E s₁) E s := by
  have hT : s.heap.IsTuple t vs.toArray := ⟨_, ht, rfl, 0, rfl⟩
  have hlt : t < s.heap.objs.size := Heap.lt_size ht
  have h74 : 74 < s.heap.objs.size := tb.code.lt.1
  have h70 : 70 < s.heap.objs.size := tb.code.lt.2
  refine wpAny_GeneratorExp_walksQ ao.handled hco hclos (fun y hy => by simpa using List.all_eq_true.mp hcell y hy) h0 hx hkind (Nat.lt_of_le_of_lt ao.depth (Nat.lt_of_lt_of_le hd (by decide))) (hiter _ (wpAny_pyIter_tuple hT ?_)) hs
  generalize hI : s.heap.objs.size = I at *
  have g2 : Grow s { s with heap := s.heap.push { cls := .type "tuple_iterator", data := .fields #[.ref t, .int 0 0] } } := (push_new s (titO t 0) rfl).1
  have hI2 : (s.heap.push { cls := .type "tuple_iterator", data := .fields #[.ref t, .int 0 0] }).get? I = some (titO t 0) := hI ▸ (push_new s (titO t 0) rfl).2.1
  have hz2 : (s.heap.push { cls := .type "tuple_iterator", data := .fields #[.ref t, .int 0 0] }).objs.size = I + 1 := by rw [Heap.size_push, hI]
  have hI0 : s.heap.get? I = none := hI ▸ size_none _
  generalize hS2 : ({ s with heap := s.heap.push { cls := .type "tuple_iterator", data := .fields #[.ref t, .int 0 0] } } : Shared) = s2 at *
  have hh2 : s2.heap = s.heap.push { cls := .type "tuple_iterator", data := .fields #[.ref t, .int 0 0] } := by rw [← hS2]
  rw [← hh2] at hI2 hz2
  have tb2 := tb.keeps g2.kp
  refine ⟨(X.grow g2).nolimit, ?_⟩
  -- the code, found or made; then the generator
  have tail : ∀ (code : Value) (s₃ : Shared) (ps' : Array Value), (∃ more, ps' = ps ++ more) → Tb ps' s₃.heap → Heap.ExtBut 70 s2.heap s₃.heap → I + 1 ≤ s₃.heap.objs.size → s₃.gens = s2.gens → s₃.os = s2.os →
      wpAny (Mo w) A (builtinsFor env.globals env.builtins) (fun bi s₄ =>
        ∃ I' fp wr n₀ P St₀ pz F, Value.ref I = .ref I' ∧ (∀ A' : Around, A'.handled = none → Walks prog w A' I' fp wr n₀ P St₀) ∧ St₀ 0 s₄.heap ∧ (∀ b ∈ fp, b < s₄.heap.objs.size) ∧ s₄.heap.NoLimit ∧ cStatics ∉ wr ∧
          (∀ href : Heap, (∀ b o, s₄.heap.get? b = some o → href.get? b = some o) →
            QuietGen prog w (genEnv scope cl s₄.heap.objs.size code bi env) x [] elt (List.range s₄.heap.objs.size) wr P pz F href) ∧
          (∀ a h₅ tk gs, gs.bare = true → s₄.heap.objs.size < a → h₅.objs.size = a + 1 → (∀ b o, s₄.heap.get? b = some o → h₅.get? b = some o) →
            WalksS prog w A.in4 a (a :: s₄.heap.objs.size :: List.range s₄.heap.objs.size) (s₄.heap.objs.size :: wr) (GenOnlyQ s₄.gens.size) (passing pz n₀ 0).length
              (fun j y => ∃ i, (passing pz n₀ 0)[j]? = some i ∧ F i y) (GenAt prog w A.in4 a s₄.gens.size s₄.heap.objs.size (List.range s₄.heap.objs.size) wr pz n₀ F) →
            GenAt prog w A.in4 a s₄.gens.size s₄.heap.objs.size (List.range s₄.heap.objs.size) wr pz n₀ F 0 { s₄ with gens := s₄.gens.push gs, toks := tk, heap := h₅ } →
            wpAny (Mo w) A (call (.type "tuple") [.ref a]) Q E { s₄ with gens := s₄.gens.push gs, toks := tk, heap := h₅ })) E s₃ := by
    intro code s₃ ps' ⟨more, hps⟩ tb3 hx3 hz3 hg3 ho3
    have X3 : Amb w s₃.heap := (X.grow g2).but fun b o hb q => hx3 b o hb q
    have hne70 : ∀ b, b < I → b ≠ I := fun b hb => Nat.ne_of_lt hb
    have k3 : ∀ b o, b ≠ 70 → s.heap.get? b = some o → s₃.heap.get? b = some o := fun b o hb q => hx3 b o hb (g2.kp _ _ q)
    have ht70 : t ≠ 70 := fun q => by
      have := tb.tab.2
      rw [← q, ht] at this
      cases this
    have hI70 : I ≠ 70 := Nat.ne_of_gt h70
    have hst3 : s₃.heap.IsTupleIter I t 0 ∧ s₃.heap.IsTuple t vs.toArray := ⟨⟨_, hx3 _ _ hI70 hI2, rfl, rfl⟩, ⟨_, k3 _ _ ht70 ht, rfl, 0, rfl⟩⟩
    refine o_builtinsFor e X3 ⟨I, [I, t], [I], vs.toArray.size, _, _, (fun _ => true), F, rfl, fun A' hA => Walks.tuple hA I t (Nat.ne_of_lt hlt) vs.toArray, hst3, ?_, X3.nolimit, ?_, ?_, ?_⟩
    · intro b hb
      simp only [List.mem_cons, List.not_mem_nil, or_false] at hb
      rcases hb with rfl | rfl
      · exact hz3
      · exact Nat.lt_of_lt_of_le (Nat.lt_succ_of_lt hlt) hz3
    · intro q
      rw [List.mem_singleton] at q
      exact absurd (show I = 2 from q.symm) (Nat.ne_of_gt (Nat.lt_trans (by decide) h70))
    · intro href hk
      have low : ∀ {s₂ : Shared}, (∀ b ∈ List.range s₃.heap.objs.size, b ∉ [I] → ∀ o, href.get? b = some o → s₂.heap.get? b = some o) → ∀ b o, b ≠ 70 → s.heap.get? b = some o → s₂.heap.get? b = some o := fun hq b o hb q =>
        hq b (List.mem_range.mpr (Heap.lt_size (k3 _ _ hb q))) (fun r => by rw [List.mem_singleton] at r; rw [r, hI0] at q; cases q) o (hk _ _ (k3 _ _ hb q))
      refine ⟨?_, ?_⟩
      · intro A' E' i v s₂ m₂ hA hP hns hm hq
        exact wpAny_pure ⟨rfl, _, _, rfl, fun _ _ q => q⟩
      · intro A' E' i v s₂ m₂ hA hP hp hns hm hq
        exact helt code _ A' E' i v s₂ m₂ hA (by simpa using hP) hns hm (low hq)
    · intro a h₅ tk gs hb ha hz5 hk5 W hat
      refine call_tuple_gen (WalksS.in4_3 W) (fun i s' st => st.1.typeIs) hat ?_ (List.mem_cons_self ..) ?_ (by rw [passing_len, List.length_range, sizeLine_val]; simp; omega)
      · intro b hb
        show b < h₅.objs.size
        rw [hz5]
        rcases List.mem_cons.mp hb with rfl | hb
        · exact Nat.lt_succ_self _
        · rcases List.mem_cons.mp hb with rfl | hb
          · exact Nat.lt_succ_of_lt ha
          · exact Nat.lt_succ_of_lt (Nat.lt_trans (List.mem_range.mp hb) ha)
      · intro s' acc hm hacc
        have hC : s.heap.get? s₃.heap.objs.size = none := by
          cases hq : s.heap.get? s₃.heap.objs.size with
          | none => rfl
          | some o => exact absurd (Heap.lt_size hq) (Nat.not_lt.mpr (by rw [hI]; exact Nat.le_trans (Nat.le_succ _) hz3))
        have wr5 : ∀ b o, b ∉ [s₃.heap.objs.size, I] → s₃.heap.get? b = some o → s'.heap.get? b = some o := fun b o hb q => hm.heap b o hb (hk5 _ _ q)
        have k5 : ∀ b o, b ≠ 70 → s.heap.get? b = some o → s'.heap.get? b = some o := fun b o hb q => wr5 b o (fun r => by
          simp only [List.mem_cons, List.not_mem_nil, or_false] at r
          rcases r with r | r
          · rw [r, hC] at q; cases q
          · rw [r, hI0] at q; cases q) (k3 _ _ hb q)
        have tb5 : Tb ps' s'.heap := by
          have hnC : ∀ b, b < I → b ∉ [s₃.heap.objs.size, I] := fun b hb r => by
            simp only [List.mem_cons, List.not_mem_nil, or_false] at r
            rcases r with r | r
            · rw [r] at hb; exact absurd hb (Nat.not_lt.mpr (Nat.le_trans (Nat.le_succ _) hz3))
            · rw [r] at hb; exact Nat.lt_irrefl _ hb
          obtain ⟨o, vs, file, tf, flags, tg, inF, text, tt, op, a1, r1, r2, r3, r4, r5, r6, b1, r7⟩ := tb3.code
          obtain ⟨⟨o', vs', q1, q2⟩, q3⟩ := tb3.tab
          exact ⟨⟨o, vs, file, tf, flags, tg, inF, text, tt, op, wr5 _ _ (hnC _ h74) a1, r1, r2, r3, r4, r5, r6, wr5 _ _ (hnC _ h70) b1, r7⟩, ⟨o', vs', wr5 _ _ (hnC _ h74) q1, q2⟩, wr5 _ _ (hnC _ h70) q3⟩
        obtain ⟨gp, e2, n2⟩ := push_new s' (tupO acc.toList) rfl
        have e : (tupO acc.toList) = ({ cls := .type "tuple", data := .seq acc } : PySem.Obj) := by simp [tupO]
        rw [← e]
        refine h _ _ acc.toList ⟨fun b o hb q => gp.kp _ _ (k5 _ _ hb q), ⟨more, hps ▸ tb5.keeps gp.kp⟩, fun hA => ?_, ?_⟩ ?_ ?_ e2 ?_
        · have h1 : AllBare s₃.gens := by rw [hg3, ← hS2]; exact hA
          exact (h1.push hb).moved hm.gens
        · show s'.os = s.os
          rw [hm.os]
          show s₃.os = s.os
          rw [ho3, ← hS2]
        · have := hacc.1
          rw [passing_len, List.length_range] at this
          simpa using this
        · intro j y hj
          obtain ⟨i, h1, h2⟩ := hacc.2 j y (by simpa using hj)
          rw [passing_len] at h1
          obtain ⟨h3, h4⟩ := List.getElem?_eq_some_iff.mp h1
          rw [List.getElem_range] at h4
          subst h4
          exact h2
        · cases hq : s.heap.get? s'.heap.objs.size with
          | none => rfl
          | some o =>
            by_cases h7 : s'.heap.objs.size = 70
            · exact absurd (tb5.code.lt.2) (by rw [h7]; exact Nat.lt_irrefl _)
            · rw [k5 _ _ h7 hq] at n2; cases n2
  cases hq : codeAmong pos ps.toList with
  | some c' => exact wpAny_genexprCode_hit hcode tb2.code hq (tail c' s2 ps ⟨#[], by simp⟩ tb2 (fun b o _ q => q) (Nat.le_of_eq hz2.symm) rfl rfl)
  | none =>
    refine wpAny_genexprCodeX hcode tb2.code tb2.tab hq fun c' h' tk hx3 hge hl hc3 _ ht3 _ => tail _ _ _ ⟨_, rfl⟩ ⟨hc3, ht3⟩ hx3 ?_ rfl rfl
    show I + 1 ≤ h'.objs.size
    rw [← hz2]
    exact Nat.le_trans hge (Nat.le_of_lt hl)
theorem genOk {env : Env} {kd : PySem.Str → Option NameKind} (e : EnvOk env kd) {scope : Scope} (hk : scope.kind = .function) (cl : List (PySem.Str × Addr)) (C : Addr) (code : Value) : EnvOk (genEnv scope cl C code builtinsNs env) (fun x => scope.names.lookup x) :=
  ⟨fun x => rfl, hk, e.globals, rfl⟩
theorem dr_append (x z : PySem.Str) : dr (x ++ z) (x.length : Int).toNat = z := by
  apply cl_inj
  rw [cl_dr, cl_append, Int.toNat_natCast]
  rw [length_cl, List.drop_left]
theorem Shows.keeps {h h' : Heap} {v : Value} {x : PySem.Str} (r : Shows h v x) (k : ∀ b o, h.get? b = some o → h'.get? b = some o) : Shows h' v x :=
  ⟨r.ref, let ⟨d, as, h, q⟩ := r.reads; ⟨d, as, Reads.keeps k h, q⟩, r.len⟩
theorem lookup_two {a b : PySem.Str} {c d : Addr} (h : b ≠ a) : ([(b, d), (a, c)] : List (PySem.Str × Addr)).lookup a = some c ∧ ([(b, d), (a, c)] : List (PySem.Str × Addr)).lookup b = some d := by
  constructor
  · rw [List.lookup_cons]
    have : (a == b) = false := beq_eq_false_iff_ne.mpr (Ne.symm h)
    rw [this]
    simp
  · simp
set_option maxHeartbeats 8000000 in
theorem c_csr {w : World} {s : Shared} {A : Around} {E : Value → Shared → Prop} {Q : Value → Shared → Prop} {args : List Value} {texts ys : List PySem.Str} {Xp a b : PySem.Str} {c k : Nat} {ps : Array Value} {d u : Nat} (X : Amb w s.heap) (ao : AOk A d u) (hd : d < 800) (hu : u ≤ 7000) (tb : Tb ps s.heap)
    (hbind : ∀ (A : Around) (E : Value → Shared → Prop) (Q : List (PySem.Str × Value) → Shared → Prop), (∀ s', Grow s s' → (∀ p ∈ [(s.heap.objs.size, tupO args)], s'.heap.get? p.1 = some p.2 ∧ s.heap.get? p.1 = none) → Q [(PySem.Str.ofString "args", .ref s.heap.objs.size)] s') → wpAny (Mo w) A (bindArgs (fdOf 75) ⟨args, []⟩) Q E s)
    (hshow : ∀ (i : Nat) (v : Value), args[i]? = some v → ∃ x, texts[i]? = some x ∧ Shows s.heap v x) (hlen : texts.length = args.length) (hn : 0 < args.length) (hn8 : args.length ≤ 8)
    (htx : texts = ys.map (Xp ++ ·)) (hc : c ≤ 50) (hXl : Xp.length ≤ 900000) (hyl : ∀ y ∈ ys, y.length ≤ 50)
    (hmaxl : ∀ val : Nat → Int, (∀ (i : Nat) x, texts[i]? = some x → val i = x.length) → val (argBest (fun i j => decide (val i > val j)) (args.length - 1)) = Xp.length + c)
    (hmin : ∀ l : List (PySem.Str × Tok), l.map (·.1) = texts → ∀ x tx, l[argBest (fun i j => decide (sAt l i < sAt l j)) (l.length - 1)]? = some (x, tx) → x = a)
    (hmax : ∀ l : List (PySem.Str × Tok), l.map (·.1) = texts → ∀ x tx, l[argBest (fun i j => decide (sAt l j < sAt l i)) (l.length - 1)]? = some (x, tx) → x = b)
    (ha : a.length ≤ 1000000) (hb : b.length ≤ 1000000) (hasc : ∀ c ∈ cl a, c < 128) (hka : k ≤ a.length) (hkb : k ≤ b.length) (hsame : ∀ j, j < k → (cl a)[j]? = (cl b)[j]?) (hpart : k = a.length ∨ (k < b.length ∧ (cl a)[k]? ≠ (cl b)[k]?)) (hpre : tk a k = Xp)
    (h : ∀ s' t l, GrowG ps s s' → l.map (·.1) = ys.map (shortOf Xp 5 (63 - c) ++ ·) → s'.heap.get? t = some (tupO (strValues l)) → s.heap.get? t = none → Q (.ref t) s') : wpAny (Mo w) A (call (.ref 75) args) Q E s := by
  have hyn : ys.length = args.length := by rw [← hlen, htx]; simp
  refine enterC [(PySem.Str.ofString "args", .ref s.heap.objs.size)] [(s.heap.objs.size, tupO args)] X ao rfl rfl (by kernel_rfl) hbind (by kernel_rfl) ?_
  intro env s₁ sx e eF hcells gx hLx hnw hi a1
  -- the two cells
  have hcl : env.cells = [(PySem.Str.ofString "prefixlen", env.locals + 1 + 1), (PySem.Str.ofString "prefix", env.locals + 1)] := by rw [hcells]; rfl
  obtain ⟨hcP, hcL⟩ : env.cells.lookup (PySem.Str.ofString "prefix") = some (env.locals + 1) ∧ env.cells.lookup (PySem.Str.ofString "prefixlen") = some (env.locals + 1 + 1) := by rw [hcl]; exact lookup_two (ofs_ne (by decide))
  have hkA : env.kindOf (PySem.Str.ofString "args") = some .local := (e.kindOf _).trans (by kernel_rfl)
  obtain ⟨o1, ho1, hd1⟩ := hi.cell _ _ hcP
  obtain ⟨o2, ho2, hd2⟩ := hi.cell _ _ hcL
  have hb1 : bindC env.kindOf [(PySem.Str.ofString "args", Value.ref s.heap.objs.size)] (fun _ => none) = fun _ => none := by unfold bindC bindC; rw [if_pos hkA]
  have hb2 : bindL env.kindOf [(PySem.Str.ofString "args", Value.ref s.heap.objs.size)] (fun _ => none) = upd (fun _ => none) (PySem.Str.ofString "args") (.ref s.heap.objs.size) := by unfold bindL bindL; rw [if_pos hkA]; rfl
  rw [hb1] at hd1 hd2
  have fresh : ∀ b, sx.heap.objs.size ≤ b → s.heap.get? b = none := fun b hb => by
    cases hq : s.heap.get? b with
    | none => rfl
    | some o => exact absurd (Heap.lt_size (gx.kp _ _ hq)) (Nat.not_lt.mpr hb)
  have f : Fm w s env.locals (upd (fun _ => none) (PySem.Str.ofString "args") (.ref s.heap.objs.size)) [(env.locals + 1, o1), (env.locals + 1 + 1, o2), (s.heap.objs.size, tupO args)] s₁ := by
    refine ⟨hb2 ▸ hi.toInCall.ns, fun b o q => hi.toInCall.keep _ _ (gx.kp _ _ q), fresh _ (Nat.le_of_eq hLx.symm), fun p hp => ?_, ?_, X.keeps fun b o q => hi.toInCall.keep _ _ (gx.kp _ _ q), X⟩
    · simp only [List.mem_cons, List.not_mem_nil, or_false] at hp
      rcases hp with rfl | rfl | rfl
      · exact ⟨ho1, Nat.succ_ne_self _, fresh _ (by rw [hLx]; exact Nat.le_succ _)⟩
      · exact ⟨ho2, Nat.ne_of_gt (Nat.lt_succ_of_lt (Nat.lt_succ_self _)), fresh _ (by rw [hLx]; exact Nat.le_succ_of_le (Nat.le_succ _))⟩
      · have := (hnw (s.heap.objs.size, tupO args) (List.mem_singleton.mpr rfl)).1
        refine ⟨hi.toInCall.keep _ _ this, ?_, size_none _⟩
        show s.heap.objs.size ≠ env.locals
        rw [hLx]
        exact Nat.ne_of_lt (Heap.lt_size this)
    · obtain ⟨h', tk', q⟩ := hi.toInCall.same
      rw [q, gx.same]
  generalize hL1 : env.locals + 1 = cP at *
  generalize hL2 : cP + 1 = cL at *
  have hPL : cP ≠ cL := by rw [← hL2]; exact (Nat.succ_ne_self _).symm
  generalize s.heap.objs.size = D at *
  clear hi ho1 ho2 hcells hb1 hb2 hnw hbind hcl fresh
  repeat walk_at "st"
  refine o_map (f.get (by walk_at "mem")) ?_
  intro s1 g1 m1 hz1
  repeat walk_at "st"
  refine o_tuple_map (P' := fun i v => ∃ t x, texts[i]? = some x ∧ v = .str x t) a1 (f.get (by walk_at "mem")) (by omega) g1 m1 hz1 ?_ ?_
  · intro i v s2 Q2 E2 hv hk hQ
    obtain ⟨x, hx1, hx2⟩ := hshow i v hv
    refine c_safe (f.amb.keeps hk) a1.in1.in1.in1.in1 (by omega) (by omega) (hx2.keeps fun b o q => hk _ _ (f.keep _ _ q)) ?_
    intro s3 t g3
    exact hQ _ _ ⟨t, x, hx1, rfl⟩ g3
  intro s2 T vs g2 hvl hP hT hTn
  obtain ⟨l, rfl, hlt⟩ := strs_of (texts := texts) (by rw [hvl, hlen]) hP
  have hll : l.length = args.length := by simpa [strValues] using hvl
  have hTP : T ≠ cP := fun q => by rw [q, f.get (by walk_at "mem")] at hTn; cases hTn
  have hTL : T ≠ cL := fun q => by rw [q, f.get (by walk_at "mem")] at hTn; cases hTn
  replace f := Fm.new f g2 hT hTn
  clear g1 m1 hz1 g2 hT hTn hP hvl
  repeat walk_at "st"
  rename Fm _ _ _ _ _ _ => f
  refine o_map (f.get (by walk_at "mem")) ?_
  intro s3 g3 m3 hz3
  repeat walk_at "st"
  have hval : ∀ (i : Nat) x, texts[i]? = some x → (fun i => ((texts[i]?.getD PySem.Str.empty).length : Int)) i = x.length := fun i x hx => by simp only [hx, Option.getD_some]
  have hmx := hmaxl _ hval
  refine o_max_map (fun i => ((texts[i]?.getD PySem.Str.empty).length : Int)) a1 (f.get (by walk_at "mem")) (by simpa [strValues, hll] using hn) g3 m3 hz3 ?_ ?_
  · intro i v s2 Q2 E2 hv hk hQ
    obtain ⟨x, tx, h1, rfl, _⟩ := strs_at (l := l) (i := i) (v := v) (by simpa using hv)
    have h2 : texts[i]? = some x := by rw [← hlt, List.getElem?_map, h1]; rfl
    have h3 : x.length ≤ 1000000 := by
      have : x ∈ texts := List.mem_of_getElem? h2
      rw [htx, List.mem_map] at this
      obtain ⟨y, hy, rfl⟩ := this
      have := hyl y hy
      rw [PySem.Str.length_append]
      omega
    refine o_len_str (by rw [sizeLine_val]; omega) ?_
    intro s4 t4 g4
    exact hQ _ _ ⟨t4, by have := hval i x h2; simp only at this; rw [this]⟩ g4
  have hsl : (strValues l).length = args.length := by simp [strValues, hll]
  rw [hsl, hmx]
  intro s4 t4 g4
  replace f := Fm.grow f g4
  clear g3 m3 hz3 g4 hmx hval
  repeat walk_at "st"
  have hA' : ∀ p ∈ texts, p.length ≤ 1000000 := fun p hp => by
    rw [htx, List.mem_map] at hp
    obtain ⟨y, hy, rfl⟩ := hp
    have := hyl y hy
    rw [PySem.Str.length_append]
    omega
  split
  · rename_i hcond
    have hcond := of_decide_eq_true hcond
    repeat walk_at "st"
    rename Fm _ _ _ _ _ _ => f
    refine h _ _ l (GrowG.of tb f.out) ?_ (f.get (by walk_at "mem")) (f.N (T, tupO (strValues l)) (by walk_at "mem")).2.2
    have : shortOf Xp 5 (63 - c) = Xp := if_neg (by omega)
    rw [this, hlt, htx]
  · rename_i hcond
    have hcond : ¬ ((Xp.length : Int) + c ≤ 80) := fun q => hcond (decide_eq_true q)
    refine wpAny_execs_nil ?_
    repeat walk_at "st"
    refine o_def (Fm.amb (by assumption)) (by kernel_rfl) ?_
    repeat walk_at "st"
    refine ⟨(Fm.amb (by assumption)).k, c_common (Fm.amb (by assumption)) a1 (by omega) (Fm.get (by assumption) (by walk_at "mem")) (by omega) (by omega) (hmin l hlt) (hmax l hlt) ha hb hasc hka hkb hsame hpart ?_⟩
    rw [hpre]
    walk_at "gr"
    rename Fm _ _ _ _ _ _ => f
    have f := f.sub (news' := [(cP, o1), (cL, o2), (T, tupO (strValues l))]) (fun p hp => by
      simp only [List.mem_cons, List.not_mem_nil, or_false] at hp
      rcases hp with rfl | rfl | rfl <;> walk_at "mem")
    refine r_storeC e f hcP hd1 (fun p hp => by
      simp only [List.mem_cons, List.not_mem_nil, or_false] at hp
      rcases hp with rfl | rfl
      · exact hPL.symm
      · exact hTP) ?_ (by kernel_rfl)
    clear f
    intro s5 o1' hd1' f
    repeat walk_at "st"
    refine r_cell e hcP (f.get (by walk_at "mem")) hd1' ?_ (by kernel_rfl) (by decide +kernel)
    repeat walk_at "st"
    rename Fm _ _ _ _ _ _ => f
    have f := f.sub (news' := [(cL, o2), (cP, o1'), (T, tupO (strValues l))]) (fun p hp => by
      simp only [List.mem_cons, List.not_mem_nil, or_false] at hp
      rcases hp with rfl | rfl | rfl <;> walk_at "mem")
    refine r_storeC e f hcL hd2 (fun p hp => by
      simp only [List.mem_cons, List.not_mem_nil, or_false] at hp
      rcases hp with rfl | rfl
      · exact hPL
      · exact hTL) ?_ (by kernel_rfl)
    clear f
    intro s6 o2' hd2' f
    repeat walk_at "st"
    refine r_cell e hcL (Fm.get (by assumption) (by walk_at "mem")) hd2' ?_ (by kernel_rfl) (by decide +kernel)
    repeat walk_at "st"
    have e5 : (80 - ((Xp.length : Int) + c - Xp.length + 5 + 12)) = 63 - c := by omega
    rw [e5]
    refine iteT (decide_eq_true (by omega)) ?_
    repeat walk_at "st"
    refine wpAny_Assert_holds ?_
    repeat walk_at "st"
    refine r_cell e hcL (Fm.get (by assumption) (by walk_at "mem")) hd2' ?_ (by kernel_rfl) (by decide +kernel)
    repeat walk_at "st"
    refine ⟨decide_eq_true (by omega), ?_⟩
    repeat walk_at "st"
    refine o_def (Fm.amb (by assumption)) (by kernel_rfl) ?_
    repeat walk_at "st"
    refine r_cell e hcP (Fm.get (by assumption) (by walk_at "mem")) hd1' ?_ (by kernel_rfl) (by decide +kernel)
    repeat walk_at "st"
    rw [e5]
    refine ⟨(Fm.amb (by assumption)).k, c_shorten (Fm.amb (by assumption)) a1 (by omega) (by omega) (by omega) (by omega) ?_⟩
    walk_at "gr"
    rename Fm _ _ _ _ _ _ => f
    have f := f.sub (news' := [(cP, o1'), (cL, o2'), (T, tupO (strValues l))]) (fun p hp => by
      simp only [List.mem_cons, List.not_mem_nil, or_false] at hp
      rcases hp with rfl | rfl | rfl <;> walk_at "mem")
    refine r_storeC e f hcP hd1' (fun p hp => by
      simp only [List.mem_cons, List.not_mem_nil, or_false] at hp
      rcases hp with rfl | rfl
      · exact hPL.symm
      · exact hTP) ?_ (by kernel_rfl)
    clear f
    intro s7 o1'' hd1'' f
    repeat walk_at "st"
    refine wpAny_mono (o_tuple_gen (Q := Q) (E := fun _ _ => False) (ps := ps) (cl := [(PySem.Str.ofString "prefixlen", cL), (PySem.Str.ofString "prefix", cP)]) (t := T) (vs := strValues l) e ?_ (tb.keeps f.keep) f.amb a1 (by omega) (fun i y => ∃ z t, ys[i]? = some z ∧ y = .str (shortOf Xp 5 (63 - c) ++ z) t) ?_ ?_ ?_ ?_ ?_ ?_ (f.get (by walk_at "mem")) (by omega) ?_ ?_ ?_ ?_) (fun v s₁ h₁ => ?_) (fun _ _ q => q)
    · exact eF.code.trans (by kernel_rfl)
    · rfl
    · exact closure_two (by rfl) hcP hcL
    · rfl
    · rfl
    · rfl
    · rfl
    · intro Q' hQ'
      refine r_local (by assumption) (by assumption) (by walk_at "hv") hQ' (by kernel_rfl) (by decide +kernel)
    · intro code C A' E' i v s₂ m₂ hA hv hns hm hk
      obtain ⟨x, tx, h1, rfl, _⟩ := strs_at (l := l) (i := i) (v := v) (by simpa using hv)
      have h2 : texts[i]? = some x := by rw [← hlt, List.getElem?_map, h1]; rfl
      have h3 : x.length ≤ 1000000 := hA' _ (List.mem_of_getElem? h2)
      obtain ⟨z, hz, rfl⟩ : ∃ z, ys[i]? = some z ∧ Xp ++ z = x := by
        rw [htx, List.getElem?_map, Option.map_eq_some_iff] at h2
        exact h2
      have tb7 := tb.keeps f.keep
      have h70 : ∀ b o, o.cls ≠ .none ∨ (∃ q, o.data = .cell q) → s7.heap.get? b = some o → b ≠ 70 := fun b o ho hb q => by
        rw [q, tb7.tab.2] at hb
        cases hb
        rcases ho with ho | ⟨q, ho⟩
        · exact ho rfl
        · cases ho
      have kP := hk cP _ (h70 _ _ (.inr ⟨_, hd1''⟩) (f.get (by walk_at "mem"))) (f.get (by walk_at "mem"))
      have kL := hk cL _ (h70 _ _ (.inr ⟨_, hd2'⟩) (f.get (by walk_at "mem"))) (f.get (by walk_at "mem"))
      have hlk := lookup_two (a := PySem.Str.ofString "prefix") (b := PySem.Str.ofString "prefixlen") (c := cP) (d := cL) (ofs_ne (by decide))
      have hzl := hyl z (List.mem_of_getElem? hz)
      have hsl := PySem.Str.length_append Xp z
      have hso : (shortOf Xp 5 (63 - c)).length ≤ 1000000 := by
        unfold shortOf
        split
        · have := dec_len (n := (Xp.length : Int) - 5 - (63 - c)) (by omega)
          walk_at "sz"
        · omega
      refine wpAny_BinOp ?_
      refine r_free (genOk e rfl _ _ _) hlk.1 kP hd1'' ?_ (by with_unfolding_all rfl)
      refine Subscript_ ?_
      refine wpAny_Name (wpAny_loadName_local rfl (by with_unfolding_all rfl) hns hm ?_) (by decide +kernel)
      refine wpAny_Slice ?_
      refine evalPart_some_step ?_
      refine r_free (genOk e rfl _ _ _) hlk.2 kL hd2' ?_ (by with_unfolding_all rfl)
      repeat walk_at "st"
      refine o_slice_sn (by omega) (by rw [sizeLine_val]; omega) ?_
      intro s8 t8 g8
      have e9 : dr (Xp ++ z) (Xp.length : Int).toNat = z := dr_append Xp z
      rw [e9]
      refine o_add_str (by rw [sizeLine_val]; omega) ?_
      intro s9 t9 g9
      have g := g8.trans g9
      exact ⟨⟨z, t9, hz, rfl⟩, _, _, g.same, g.kp⟩
    · intro s' a' ys' gG hyl' hF ha' hn'
      obtain ⟨l', rfl, hl'⟩ := strs_of (vs := ys') (texts := ys.map (shortOf Xp 5 (63 - c) ++ ·)) (by rw [hyl', hsl, List.length_map, hyn]) (fun j v hv => by
        obtain ⟨z, t, h1, h2⟩ := hF j v hv
        exact ⟨t, _, by rw [List.getElem?_map, h1]; rfl, h2⟩)
      refine h _ _ l' ⟨fun b o hb q => gG.kp _ _ hb (f.keep _ _ q), gG.tb, fun q => gG.gens (by rw [f.out.gens]; exact q), gG.os.trans f.out.os⟩ hl' ha' ?_
      cases hq : s.heap.get? a' with
      | none => rfl
      | some o => rw [f.keep _ _ hq] at hn'; cases hn'
    · intro x; rfl
    · exact args_nil h₁
/-- h without the objects at H -/
def hide (h : Heap) (H : List Addr) : Heap := ⟨h.objs.mapIdx fun i o => if i ∈ H then { o with data := .freed } else o, h.life⟩
theorem get_hide (h : Heap) (H : List Addr) (b : Addr) : (hide h H).get? b = if b ∈ H then none else h.get? b := by
  unfold hide Heap.get?
  simp only [Array.getElem?_mapIdx]
  by_cases hb : b ∈ H
  · rw [if_pos hb]
    cases h.objs[b]? with
    | none => rfl
    | some o => simp [hb]
  · rw [if_neg hb]
    cases h.objs[b]? with
    | none => rfl
    | some o => simp [hb]
section
variable {w : World} {s₀ s s' : Shared} {L : Addr} {m : PySem.Str → Option Value} {news : List (Addr × PySem.Obj)} {ps : Array Value}
theorem hide_keeps (k : ∀ b o, b ≠ 70 → s₀.heap.get? b = some o → s.heap.get? b = some o) {H : List Addr} (hK : ∀ b ∈ H, b = 70 ∨ s₀.heap.get? b = none) : ∀ b o, b ≠ 70 → s₀.heap.get? b = some o → (hide s.heap H).get? b = some o := by
  intro b o hb q
  rw [get_hide, if_neg (fun hm => by
    rcases hK b hm with r | r
    · exact hb r
    · rw [r] at q; cases q)]
  exact k _ _ hb q
theorem Fm.rebase (f : Fm w s₀ L m news s) (H : List Addr) (hL : L ∈ H) (hN : ∀ p ∈ news, p.1 ∈ H) (hK : ∀ b ∈ H, b = 70 ∨ s₀.heap.get? b = none) : Fm w { s with heap := hide s.heap H } L m news s :=
  ⟨f.ns, fun b o q => by
    have q : (hide s.heap H).get? b = some o := q
    rw [get_hide] at q
    split at q
    · cases q
    · exact q, by show (hide s.heap H).get? L = none; rw [get_hide, if_pos hL], fun p hp => ⟨(f.N p hp).1, (f.N p hp).2.1, by show (hide s.heap H).get? p.1 = none; rw [get_hide, if_pos (hN p hp)]⟩, rfl, f.amb,
    f.low.but (hide_keeps (fun b o _ q => f.keep b o q) hK)⟩
theorem Fm.growG (f : Fm w s₀ L m news s) (h70 : s₀.heap.get? 70 = none) (hL : L ≠ 70) (hn : ∀ p ∈ news, p.1 ≠ 70) (g : GrowG ps s s') : Fm w { s' with heap := s₀.heap } L m news s' := by
  have kz : ∀ b o, s₀.heap.get? b = some o → s'.heap.get? b = some o := fun b o q => g.kp b o (fun r => by rw [r, h70] at q; cases q) (f.keep _ _ q)
  obtain ⟨oL, es, ep, hL', r⟩ := f.ns
  exact ⟨⟨oL, es, ep, g.kp _ _ hL hL', r⟩, kz, f.fresh, fun p hp => ⟨g.kp _ _ (hn p hp) (f.N p hp).1, (f.N p hp).2⟩, rfl, f.amb.but g.kp, f.low⟩
end
-- texts as lists of signs
theorem cl_ofs (x : String) : cl (PySem.Str.ofString x) = x.toList.map Char.toNat := by rw [PySem.Str.ofString_eq_toList]
def Fine (x : PySem.Str) : Prop := ∀ c ∈ cl x, c < 128 ∧ c ≠ 46 ∧ c ≠ 104 ∧ c ≠ 100
theorem Fine.append {x y : PySem.Str} (hx : Fine x) (hy : Fine y) : Fine (x ++ y) := fun c hc => by
  rw [cl_append, List.mem_append] at hc
  exact hc.elim (hx c) (hy c)
theorem repr_abc {x : PySem.Str} (hx : ∀ c ∈ cl x, c = 97 ∨ c = 98 ∨ c = 99) : reprText x = PySem.Str.ofString "'" ++ x ++ PySem.Str.ofString "'" := by
  have hq : reprQuote x = 39 := by
    unfold reprQuote
    have : x.cps.contains 39 = false := by
      rw [Bool.eq_false_iff]
      intro h
      have := Array.contains_iff_mem.mp h
      have := hx 39 (by unfold cl; exact Array.mem_toList_iff.mpr this)
      omega
    rw [this]; rfl
  have hc : ∀ c ∈ cl x, Builtin.Str.reprChar 39 c = [c] := fun c hm => by
    rcases hx c hm with rfl | rfl | rfl <;> decide +kernel
  have key : ∀ (l : List Nat) (acc : Array Nat), (∀ c ∈ l, Builtin.Str.reprChar 39 c = [c]) → (l.foldl (fun out c => out ++ (Builtin.Str.reprChar 39 c).toArray) acc).toList = acc.toList ++ l := by
    intro l
    induction l with
    | nil => intro acc _; simp
    | cons c r ih =>
      intro acc h
      rw [List.foldl_cons, ih _ fun c hc => h c (.tail _ hc), h c (.head _)]
      simp
  apply cl_inj
  rw [cl_append, cl_append, cl_ofs]
  unfold reprText
  rw [hq]
  show (Array.push _ 39).toList = _
  rw [Array.toList_push, ← Array.foldl_toList, key _ _ hc]
  rfl
theorem int_fine (n : Int) : Fine (PySem.Str.ofString (toString n)) := fun c hc => by
  rw [cl_ofs, List.mem_map] at hc
  obtain ⟨ch, hm, rfl⟩ := hc
  rcases int_sign n ch hm with h | rfl
  · have := digit_range h; omega
  · decide
theorem fine_ofs (x : String) (h : (x.toList.map Char.toNat).all (fun c => decide (c < 128 ∧ c ≠ 46 ∧ c ≠ 104 ∧ c ≠ 100)) = true) : Fine (PySem.Str.ofString x) := fun c hc => by
  rw [cl_ofs] at hc
  simpa using List.all_eq_true.mp h c hc
/-- v's writing at h is x -/
structure Th (h : Heap) (v : Value) (x : PySem.Str) (k : Nat) : Prop where
  reads : ∃ d as, Reads h v d as ∧ sysModules ∉ as ∧ d.showable = true ∧ d.depth ≤ k ∧ d.shown = x
  fine : Fine x
  len : x.length ≤ 100
theorem Th.keeps {h h' : Heap} {v : Value} {x : PySem.Str} {k : Nat} (t : Th h v x k) (kp : ∀ b o, h.get? b = some o → h'.get? b = some o) : Th h' v x k :=
  ⟨let ⟨d, as, r, q⟩ := t.reads; ⟨d, as, Reads.keeps kp r, q⟩, t.fine, t.len⟩
theorem Th.mono {h : Heap} {v : Value} {x : PySem.Str} {k k' : Nat} (t : Th h v x k) (hk : k ≤ k') : Th h v x k' :=
  ⟨let ⟨d, as, r, q1, q2, q3, q4⟩ := t.reads; ⟨d, as, r, q1, q2, Nat.le_trans q3 hk, q4⟩, t.fine, t.len⟩
section
variable {h : Heap} {k : Nat}
theorem Th.int {n : Int} {t : Tok} (hn : -1000000000 < n ∧ n < 1000000000) : Th h (.int n t) (PySem.Str.ofString (toString n)) k :=
  ⟨⟨_, [], .int n t, List.not_mem_nil, by simpa [PyData.showable] using log2_small hn, Nat.zero_le _, PyData.shown_int n⟩, int_fine n, by have := dec_len hn; omega⟩
theorem Th.str {x : PySem.Str} {t : Tok} (hx : ∀ c ∈ cl x, c = 97 ∨ c = 98 ∨ c = 99) (hl : x.length ≤ 98) : Th h (.str x t) (PySem.Str.ofString "'" ++ x ++ PySem.Str.ofString "'") k :=
  ⟨⟨_, [], .str x t, List.not_mem_nil, by simp [PyData.showable], Nat.zero_le _, by rw [PyData.shown_str, repr_abc hx]⟩,
    (Fine.append (fine_ofs _ (by decide)) fun c hc => by rcases hx c hc with rfl | rfl | rfl <;> decide).append (fine_ofs _ (by decide)),
    by simp only [PySem.Str.length_append, lens]; omega⟩
theorem Th.none : Th h .none (PySem.Str.ofString "None") k := ⟨⟨_, [], .none, List.not_mem_nil, by simp [PyData.showable], Nat.zero_le _, PyData.shown_none⟩, by unfold Fine; rw [cl_ofs]; decide, by decide⟩
theorem Th.tru : Th h (.bool true) (PySem.Str.ofString "True") k := ⟨⟨_, [], .bool true, List.not_mem_nil, by simp [PyData.showable], Nat.zero_le _, PyData.shown_bool true⟩, by unfold Fine; rw [cl_ofs]; decide, by decide⟩
theorem Th.empty {t : Tok} : Th h (.str (PySem.Str.ofString "") t) (PySem.Str.ofString "''") k :=
  ⟨⟨_, [], .str _ t, List.not_mem_nil, by simp [PyData.showable], Nat.zero_le _, by rw [PyData.shown_str]; decide +kernel⟩, by unfold Fine; rw [cl_ofs]; decide, by decide⟩
theorem Th.dict0 {a : Addr} (ha : h.get? a = some { cls := .type "dict", data := .dict #[] }) (hs : a ≠ sysModules) : Th h (.ref a) (PySem.Str.ofString "{}") (k + 1) :=
  ⟨⟨.dict [], a :: [] ++ [], .dict ha rfl rfl .nil .nil, by simpa using hs.symm, by simp [PyData.showable, PyData.showableKv], by simp [PyData.depth, PyData.depthKv], by decide +kernel⟩, by unfold Fine; rw [cl_ofs]; decide, by decide⟩
theorem Th.list1 {a : Addr} {n : Int} {t : Tok} (ha : h.get? a = some (lstO [.int n t])) (hs : a ≠ sysModules) (hn : -1000000000 < n ∧ n < 1000000000) : Th h (.ref a) (PySem.Str.ofString "[" ++ PySem.Str.ofString (toString n) ++ PySem.Str.ofString "]") (k + 1) :=
  ⟨⟨.list [.int n], [a], .list ha rfl rfl (.cons (.int n t) .nil), by simpa using hs.symm, by simpa [PyData.showable, PyData.showableAll] using log2_small hn, by simp [PyData.depth, PyData.depthAll],
    by simp only [PyData.shown, PyData.shownAll, listText_eq_join]; rfl⟩, ((by unfold Fine; rw [cl_ofs]; decide : Fine _).append (int_fine n)).append (by unfold Fine; rw [cl_ofs]; decide), by have := dec_len hn; simp only [PySem.Str.length_append, lens]; omega⟩
theorem Th.pair {a : Addr} {v : Value} {x : PySem.Str} {n : Int} {t : Tok} (ha : h.get? a = some (tupO [v, .int n t])) (th : Th h v x k) (hx : x.length ≤ 20) (hn : -1000000000 < n ∧ n < 1000000000) :
    Th h (.ref a) (PySem.Str.ofString "(" ++ x ++ PySem.Str.ofString ", " ++ PySem.Str.ofString (toString n) ++ PySem.Str.ofString ")") (k + 1) := by
  obtain ⟨d, as, r, q1, q2, q3, q4⟩ := th.reads
  refine ⟨⟨.tuple [d, .int n], as ++ ([] ++ []), .tuple ha rfl rfl (.cons r (.cons (.int n t) .nil)), by simpa using q1, by simpa [PyData.showable, PyData.showableAll, q2] using log2_small hn, by simp [PyData.depth, PyData.depthAll]; omega, ?_⟩,
    ((((by unfold Fine; rw [cl_ofs]; decide : Fine _).append th.fine).append (by unfold Fine; rw [cl_ofs]; decide)).append (int_fine n)).append (by unfold Fine; rw [cl_ofs]; decide), by have := dec_len hn; simp only [PySem.Str.length_append, lens]; omega⟩
  simp only [PyData.shown, PyData.shownAll, q4]
  simp only [tupleText, PySem.Str.join, PySem.Str.append_assoc]
  rfl
theorem Th.dict1 {a : Addr} {o : PySem.Obj} {es : Array DictEntry} {ep : Nat} {v : Value} {x : PySem.Str} {n : Int} {t : Tok} (ha : h.get? a = some o) (hc : o.cls = .type "dict") (hd : o.data = .dict es ep) (hk : es.toList.map (·.key) = [.int n t]) (hv : es.toList.map (·.val) = [v]) (hs : a ≠ sysModules)
    (th : Th h v x k) (hx : x.length ≤ 20) (hn : -1000000000 < n ∧ n < 1000000000) :
    Th h (.ref a) (PySem.Str.ofString "{" ++ PySem.Str.ofString (toString n) ++ PySem.Str.ofString ": " ++ x ++ PySem.Str.ofString "}") (k + 1) := by
  obtain ⟨d, as, r, q1, q2, q3, q4⟩ := th.reads
  refine ⟨⟨.dict [(.int n, d)], a :: ([] ++ []) ++ (as ++ []), .dict ha hc hd (by rw [hk]; exact .cons (.int n t) .nil) (by rw [hv]; exact .cons r .nil), by simpa [q1] using hs.symm, by simpa [PyData.showable, PyData.showableKv, q2] using log2_small hn, by simp [PyData.depth, PyData.depthKv]; omega, ?_⟩,
    ((((by unfold Fine; rw [cl_ofs]; decide : Fine _).append (int_fine n)).append (by unfold Fine; rw [cl_ofs]; decide)).append th.fine).append (by unfold Fine; rw [cl_ofs]; decide), by have := dec_len hn; simp only [PySem.Str.length_append, lens]; omega⟩
  simp only [PyData.shown, PyData.shownKv, q4]
  simp only [dictText, PySem.Str.join, PySem.Str.append_assoc]
end
/-- x written n times -/
def rep (x : PySem.Str) (n : Nat) : PySem.Str := mkS (List.replicate n (cl x)).flatten
theorem cl_rep (x : PySem.Str) (n : Nat) : cl (rep x n) = (List.replicate n (cl x)).flatten := cl_mkS _
theorem length_rep (x : PySem.Str) (n : Nat) : (rep x n).length = n * x.length := by rw [length_cl, cl_rep, length_cl]; simp
theorem mem_rep {x : PySem.Str} {n c : Nat} (h : c ∈ cl (rep x n)) : c ∈ cl x := by
  rw [cl_rep, List.mem_flatten] at h
  obtain ⟨l, h1, h2⟩ := h
  rw [(List.mem_replicate.mp h1).2] at h2
  exact h2
theorem rep_fold (x : PySem.Str) (n : Nat) : (⟨(List.replicate n x.cps).foldl (· ++ ·) #[]⟩ : PySem.Str) = rep x n := by
  apply cl_inj
  rw [cl_rep]
  have key : ∀ (k : Nat) (acc : Array Nat), ((List.replicate k x.cps).foldl (· ++ ·) acc).toList = acc.toList ++ (List.replicate k (cl x)).flatten := by
    intro k
    induction k with
    | zero => intro acc; simp
    | succ k ih => intro acc; rw [List.replicate_succ, List.foldl_cons, ih, List.replicate_succ, List.flatten_cons]; simp [cl]
  show Array.toList _ = _
  rw [key]
  simp
section
variable {w : World} {s : Shared} {A : Around} {E : Value → Shared → Prop} {Q : Value → Shared → Prop} {env : Env} {pos : Pos}
theorem o_mul_str {x : PySem.Str} {n : Int} {t u : Tok} (hn : 0 ≤ n) (hn2 : n ≤ 100) (hx : x.length ≤ 100) (h : ∀ s' t', Grow s s' → Q (.str (rep x n.toNat) t') s') : wpAny (Mo w) A (binaryOp .Mult (.str x t) (.int n u)) Q E s := by
  have hlen : x.length * n.toNat ≤ 100 * 100 := Nat.mul_le_mul hx (by omega)
  refine PySem.P.mul_str (by simp; omega) (fun _ _ => ?_) (fun _ _ => ?_) ?_
  · have h1 : (92233720368547758 : Int) ≤ (2 ^ 63 - 1) / n := by
      rename_i hn1 _
      rw [Int.le_ediv_iff_mul_le (by omega)]
      omega
    omega
  · exact decide_eq_false (by rw [sizeLine_val]; omega)
  · split
    · rename_i hz
      have : n = 0 := by omega
      subst this
      refine ⟨by decide, ?_⟩
      have := h _ s.toks (Grow.toks s (s.toks + 1))
      exact this
    · split
      · rename_i hz hz2
        have e : rep x n.toNat = x := by
          apply cl_inj
          rw [cl_rep]
          rw [Bool.or_eq_true] at hz2
          rcases hz2 with q | q
          · have : n = 1 := by simpa using q
            subst this
            simp
          · have : (cl x) = [] := by
              have q : x.length = 0 := by simpa using q
              rw [length_cl] at q
              exact List.length_eq_zero_iff.mp q
            rw [this]
            simp
        have := h s t (Grow.refl s)
        rw [e] at this
        exact this
      · refine ⟨?_, ?_⟩
        · rw [rep_fold, length_rep, sizeLine_val, Nat.mul_comm]; omega
        · rw [rep_fold]; exact h _ _ (Grow.toks ..)
theorem o_neg {n : Int} {t : Tok} (h : ∀ s' t', Grow s s' → Q (.int (-n) t') s') : wpAny (Mo w) A (unaryOp .USub (.int n t)) Q E s := PyProof.Rows.neg_int (h _ _ (Grow.toks ..))
theorem o_item_lst {value slice : PySem.Expr} {a : Addr} {l : List Value} {n : Nat} {k : Int} {u : Tok} {v : Value} (ha : s.heap.get? a = some (lstE l n)) (h0 : 0 ≤ k) (hk : k ≤ 1000) (hx : l[k.toNat]? = some v) (h : Q v s)
    (hs : subscripted slice false (.ref a) (.int k u) = operate [.ref a, .int k u] (getItem (.ref a) (.int k u)) := by with_unfolding_all rfl) :
    wpAny (Mo w) A (subscriptTail value slice (.ref a) (.int k u)) Q E s :=
  tail_any (T := "list") ⟨_, ha, rfl⟩ slot_list_getitem.lookup (wpAny_getItem_list ⟨_, ha, rfl, n, rfl⟩ h0 (by omega) (by simpa using hx) h) hs
theorem o_item_lst_neg {value slice : PySem.Expr} {a : Addr} {l : List Value} {n : Nat} {u : Tok} {v : Value} (ha : s.heap.get? a = some (lstE l n)) (hx : l.getLast? = some v) (h : Q v s)
    (hs : subscripted slice false (.ref a) (.int (-1) u) = operate [.ref a, .int (-1) u] (getItem (.ref a) (.int (-1) u)) := by with_unfolding_all rfl) :
    wpAny (Mo w) A (subscriptTail value slice (.ref a) (.int (-1) u)) Q E s := by
  have h1 : 0 < l.length := by cases l with | nil => simp at hx | cons => simp
  refine tail_any (T := "list") ⟨_, ha, rfl⟩ slot_list_getitem.lookup (wpAny_getItem_list_neg ⟨_, ha, rfl, n, rfl⟩ (by decide) (by simp; omega) (by decide) ?_ h) hs
  rw [List.getLast?_eq_getElem?] at hx
  rw [List.getElem?_toArray, ← hx]
  congr 1
  simp
  omega
abbrev dct0 : PySem.Obj := { cls := .type "dict", data := .dict #[] }
theorem Amb.big {h : Heap} (X : Amb w h) : 102 < h.objs.size := by
  have : ((KK w).lookup 102).isSome = true := by kernel_rfl
  cases hq : (KK w).lookup 102 with
  | none => rw [hq] at this; cases this
  | some o => exact Heap.lt_size (X.k _ _ hq)
theorem o_listA {vs : List Value} (X : Amb w s.heap) (hsz : vs.length ≤ 1000) (h : ∀ s' a, Grow s s' → s'.heap.get? a = some (lstO vs) → s.heap.get? a = none → 102 < a → Q (.ref a) s') : wpAny (Mo w) A (newList vs) Q E s :=
  wpAny_newObj_type (let ⟨g, e, n⟩ := push_new s (lstO vs) rfl; h _ _ g e n X.big) (by show vs.toArray.size ≤ sizeLine; rw [List.size_toArray, sizeLine_val]; omega)
theorem o_dict0 (X : Amb w s.heap) (h : ∀ s' D, Grow s s' → s'.heap.get? D = some dct0 → s.heap.get? D = none → 102 < D → Q (.ref D) s') : wpAny (Mo w) A (eval (.Dict [] [] pos) env) Q E s :=
  wpAny_Dict_empty (let ⟨g, e, n⟩ := push_new s dct0 rfl; h _ _ g e n X.big)
theorem o_dict1 {k v : PySem.Expr} (X : Amb w s.heap)
    (h : ∀ s' D, Grow s s' → s'.heap.get? D = some dct0 → s.heap.get? D = none → 102 < D → wpAny (Mo w) A (eval k env) (fun kv s₁ => wpAny (Mo w) A (eval v env) (fun vv s₂ => ∃ n t, kv = .int n t ∧ s₂.heap.get? D = some dct0 ∧
      ∀ h' tk o es ep t', h'.get? D = some o → o.cls = .type "dict" → o.data = .dict es ep → es.toList.map (·.key) = [.int n t'] → es.toList.map (·.val) = [vv] → Heap.SameBut D s₂.heap h' → Q (.ref D) { s₂ with heap := h', toks := tk }) E s₁) E s') :
    wpAny (Mo w) A (eval (.Dict [some k] [v] pos) env) Q E s := by
  obtain ⟨g, e, hn⟩ := push_new s dct0 rfl
  refine wpAny_Dict_walk (knd := intKind prog w) rfl rfl (by simp) (Nat.le_of_ble_eq_true rfl) (pairTrees_cons_walk (wpAny_mono (h _ _ g e hn X.big) (fun kv s₁ h₁ => wpAny_mono h₁ (fun vv s₂ h₂ => pairTrees_nil_walk ?_) fun _ _ q => q) fun _ _ q => q))
  obtain ⟨n, t, rfl, hD, hQ⟩ := h₂
  refine ⟨[(n, vv)], ⟨by show (n == n) = true; simp, rfl, trivial⟩, ⟨_, #[], 0, hD, ⟨rfl, rfl, rfl⟩, rfl, fun e he => by simp at he, .nil, by simp⟩, fun h' hd hs => ?_⟩
  obtain ⟨o, es, ep, h1, h2, h3, h4, h5, h6⟩ := hd
  have e5 : merged [] [(n, vv)] = [(n, vv)] := rfl
  rw [e5] at h5
  generalize hes : es.toList = l at h5
  cases h5 with
  | cons q1 q2 q3 =>
    cases q3
    rename_i en
    have : ∃ t', en.key = .int n t' := by
      cases hk : en.key with
      | int i t' => rw [hk] at q1; have : (i == n) = true := q1; exact ⟨t', by rw [beq_iff_eq.mp this]⟩
      | _ => rw [hk] at q1; exact absurd q1 Bool.false_ne_true
    obtain ⟨t', ht'⟩ := this
    exact hQ h' _ o es ep t' h1 h2.1 h3 (by rw [hes]; simp [ht']) (by rw [hes]; simpa using q2) hs
end
local macro_rules | `(tactic| walk_at "nwl") => `(tactic| ((try (with_reducible rename Grow _ _ => gA)); intro _ _ gG hA hN hB; (with_reducible rename Fm _ _ _ _ _ _ => fF); replace fF := Fm.new fF gG hA hN; (try (replace gA := Grow.trans gA gG)); clear gG hA hN))
local macro_rules | `(tactic| walk_at "st") => `(tactic| first
  | (with_reducible refine o_listA (Fm.amb (by assumption)) (by with_unfolding_all exact Nat.le_of_ble_eq_true rfl) ?_; walk_at "nwl")
  | (with_reducible refine o_dict0 (Fm.amb (by assumption)) ?_; walk_at "nwl")
  | with_reducible refine wpAny_UnaryOp ?_
  | (with_reducible refine o_neg ?_; walk_at "gr"))
local macro_rules | `(tactic| walk_at "hv") => `(tactic| (repeat (first | with_reducible exact upd_eq _ _ _ | with_reducible assumption | with_reducible refine (upd_ne _ _ (ofs_ne (by decide))).trans ?_)))
theorem Fm.newL {w : World} {s₀ s s' : Shared} {L : Addr} {m : PySem.Str → Option Value} {news : List (Addr × PySem.Obj)} (f : Fm w s₀ L m news s) (g : Grow s s') : ∀ {objs : List (Addr × PySem.Obj)}, (∀ p ∈ objs, s'.heap.get? p.1 = some p.2 ∧ s.heap.get? p.1 = none) → Fm w s₀ L m (objs ++ news) s' := fun {objs} ho => by
  have f' := f.grow g
  refine ⟨f'.ns, f'.keep, f'.fresh, fun p hp => ?_, f'.same, f'.amb, f'.low⟩
  rcases List.mem_append.mp hp with hp | hp
  · exact (f.new g (a := p.1) (o := p.2) (ho p hp).1 (ho p hp).2).N p (.head _)
  · exact f'.N p hp
theorem Fm.turn1 {w : World} {s₀ s : Shared} {L D : Addr} {m : PySem.Str → Option Value} {news : List (Addr × PySem.Obj)} {oD o : PySem.Obj} {h' : Heap} {tk : Nat} (f : Fm w s₀ L m ((D, oD) :: news) s) (h1 : h'.get? D = some o) (hs : Heap.SameBut D s.heap h') (hn : ∀ p ∈ news, p.1 ≠ D) :
    Fm w s₀ L m ((D, o) :: news) { s with heap := h', toks := tk } := by
  have ap := f.apart (List.Mem.head _)
  refine f.turn (wr := [D]) (fun b o hb q => hs.extBut b o (fun r => hb (by rw [r]; exact List.mem_singleton.mpr rfl)) q) (fun b hb => by rw [List.mem_singleton] at hb; subst hb; exact ap) (fun p hp => ?_) rfl
  rcases List.mem_cons.mp hp with rfl | hp
  · exact .inl ⟨List.mem_singleton.mpr rfl, h1⟩
  · exact .inr ⟨.tail _ hp, fun q => hn p hp (List.mem_singleton.mp q)⟩
set_option maxHeartbeats 4000000 in
theorem c_pair {w : World} {s : Shared} {A : Around} {E : Value → Shared → Prop} {Q : Value → Shared → Prop} {n : Int} {t tx : Tok} {p : Addr} {v : Value} {x : PySem.Str} {k : Nat} {d u : Nat} {hb : Heap} (X : Amb w s.heap) (ao : AOk A d u) (hd : d < 900)
    (hn : 0 ≤ n) (hn2 : n < 1000000) (hp : s.heap.get? p = some (tupO [v, .str x tx])) (th : Th hb v x k)
    (h : ∀ s' q v' x' tx' (objs : List (Addr × PySem.Obj)), Grow s s' → s'.heap.get? q = some (tupO [v', .str x' tx']) → s.heap.get? q = none → (∀ p ∈ objs, s'.heap.get? p.1 = some p.2 ∧ s.heap.get? p.1 = none) →
      (∀ h', (∀ b o, hb.get? b = some o → h'.get? b = some o) → (∀ p ∈ objs, h'.get? p.1 = some p.2) → Th h' v' x' (k + 1)) → Q (.ref q) s') : wpAny (Mo w) A (call (.ref 90) [.int n t, .ref p]) Q E s := by
  have hxl := th.len
  have hf : n.fdiv 5 = n / 5 := Int.fdiv_eq_ediv_of_nonneg _ (by decide)
  have hf2 : n.fmod 5 = n % 5 := Int.fmod_eq_emod_of_nonneg _ (by decide)
  have hr : 0 ≤ n.fdiv 5 ∧ n.fdiv 5 < 200000 := by omega
  have hr10 : 0 ≤ (n.fdiv 5).fmod 10 ∧ (n.fdiv 5).fmod 10 < 10 := by
    have := Int.fmod_eq_emod_of_nonneg (n.fdiv 5) (b := 10) (by decide)
    omega
  have hr4 : 0 ≤ (n.fdiv 5).fmod 4 ∧ (n.fdiv 5).fmod 4 < 4 := by
    have := Int.fmod_eq_emod_of_nonneg (n.fdiv 5) (b := 4) (by decide)
    omega
  refine enter [(PySem.Str.ofString "number", .int n t), (PySem.Str.ofString "last", .ref p)] [] X ao rfl rfl (by kernel_rfl) (by walk_at "bind") (by kernel_rfl) ?_
  intro env s₁ e eF f a
  walk_at "bnd"
  repeat walk_at "st"
  refine o_str_int (log2_small (by omega)) ?_; walk_at "gr"
  have hfig := dec_len (n := (n.fdiv 5).fmod 10) (by omega)
  repeat walk_at "st"
  split
  · repeat walk_at "st"
    refine o_str_int (log2_small (by omega)) ?_; walk_at "gr"
    repeat walk_at "st"
    rename Fm _ _ _ _ _ _ => f
    exact h _ _ _ _ _ _ f.out (f.get (by walk_at "mem")) (f.N _ (List.Mem.head _)).2.2 (fun p hp => ⟨(f.N p hp).1, (f.N p hp).2.2⟩) (fun h' kb ko => Th.int (by omega))
  refine wpAny_execs_nil ?_
  repeat walk_at "st"
  split
  · repeat walk_at "st"
    refine o_mul_str hr10.1 (by omega) (by decide) ?_; walk_at "gr"
    have hl1 := length_rep (PySem.Str.ofString "ab") ((n.fdiv 5).fmod 10).toNat
    have hl2 : ((n.fdiv 5).fmod 10).toNat * 2 ≤ 20 := by omega
    rw [lens.2.2.2.2.2.2.2.2.1] at hl1
    repeat walk_at "st"
    refine o_mul_str hr10.1 (by omega) (by decide) ?_; walk_at "gr"
    repeat walk_at "st"
    rename Fm _ _ _ _ _ _ => f
    have e1 : PySem.Str.ofString "'" ++ rep (PySem.Str.ofString "ab") ((n.fdiv 5).fmod 10).toNat ++ PySem.Str.ofString "c'" = PySem.Str.ofString "'" ++ (rep (PySem.Str.ofString "ab") ((n.fdiv 5).fmod 10).toNat ++ PySem.Str.ofString "c") ++ PySem.Str.ofString "'" := by
      rw [show PySem.Str.ofString "c'" = PySem.Str.ofString "c" ++ PySem.Str.ofString "'" by decide +kernel]
      simp only [PySem.Str.append_assoc]
    refine h _ _ _ _ _ _ f.out (f.get (by walk_at "mem")) (f.N _ (List.Mem.head _)).2.2 (fun p hp => ⟨(f.N p hp).1, (f.N p hp).2.2⟩) (fun h' kb ko => ?_)
    rw [e1]
    refine Th.str (fun c hc => ?_) (by simp only [PySem.Str.length_append, lens]; omega)
    rw [cl_append, List.mem_append] at hc
    rcases hc with hc | hc
    · have := mem_rep hc
      rw [cl_ofs] at this
      simp at this
      omega
    · rw [cl_ofs] at hc
      simp at hc
      omega
  refine wpAny_execs_nil ?_
  repeat walk_at "st"
  split
  · repeat walk_at "st"
    rename Fm _ _ _ _ _ _ => f
    obtain e4 | e4 | e4 | e4 : (n.fdiv 5).fmod 4 = 0 ∨ (n.fdiv 5).fmod 4 = 1 ∨ (n.fdiv 5).fmod 4 = 2 ∨ (n.fdiv 5).fmod 4 = 3 := by omega
    all_goals rw [e4]
    · refine o_item_lst (n := 0) (f.get (by walk_at "mem")) (by decide) (by decide) rfl ?_
      exact h _ _ _ _ _ _ f.out (f.get (by walk_at "mem")) (f.N (_, tupO [Value.none, _]) (by walk_at "mem")).2.2 (fun p hp => ⟨(f.N p hp).1, (f.N p hp).2.2⟩) (fun h' kb ko => Th.none)
    · refine o_item_lst (n := 0) (f.get (by walk_at "mem")) (by decide) (by decide) rfl ?_
      exact h _ _ _ _ _ _ f.out (f.get (by walk_at "mem")) (f.N (_, tupO [Value.bool true, _]) (by walk_at "mem")).2.2 (fun p hp => ⟨(f.N p hp).1, (f.N p hp).2.2⟩) (fun h' kb ko => Th.tru)
    · refine o_item_lst (n := 0) (f.get (by walk_at "mem")) (by decide) (by decide) rfl ?_
      exact h _ _ _ _ _ _ f.out (f.get (by walk_at "mem")) (f.N (_, tupO [Value.str (PySem.Str.ofString "") _, _]) (by walk_at "mem")).2.2 (fun p hp => ⟨(f.N p hp).1, (f.N p hp).2.2⟩) (fun h' kb ko => Th.empty)
    · refine o_item_lst (n := 0) (f.get (by walk_at "mem")) (by decide) (by decide) rfl ?_
      refine h _ _ _ _ _ _ f.out (f.get (by walk_at "mem")) (f.N (_, tupO [Value.ref _, Value.str (PySem.Str.ofString "{}") _]) (by walk_at "mem")).2.2 (fun p hp => ⟨(f.N p hp).1, (f.N p hp).2.2⟩) (fun h' kb ko => Th.dict0 (ko (_, _) (by walk_at "mem")) ?_)
      exact Nat.ne_of_gt (Nat.lt_trans (by decide : sysModules < 102) (by assumption))
  refine wpAny_execs_nil ?_
  repeat walk_at "st"
  refine o_item_tup (Grow.kp (Fm.out (by assumption)) _ _ hp) (j := 1) rfl (by decide) rfl ?_
  repeat walk_at "st"
  split
  · repeat walk_at "st"
    rename Fm _ _ _ _ _ _ => f
    exact h _ _ _ _ _ _ f.out (f.get (by walk_at "mem")) (f.N _ (List.Mem.head _)).2.2 (fun p hp => ⟨(f.N p hp).1, (f.N p hp).2.2⟩) (fun h' kb ko => Th.list1 (ko (_, _) (by walk_at "mem")) (Nat.ne_of_gt (Nat.lt_trans (by decide : sysModules < 102) (by assumption))) (by omega))
  · rename_i hlen
    have hlen : x.length ≤ 20 := by
      have : ¬ (20 : Int) < x.length := fun q => hlen (decide_eq_true q)
      omega
    refine wpAny_execs_nil ?_
    repeat walk_at "st"
    split
    · repeat walk_at "st"
      refine o_item_tup (Grow.kp (Fm.out (by assumption)) _ _ hp) (j := 0) rfl (by decide) rfl ?_
      repeat walk_at "st"
      refine o_item_tup (Grow.kp (Fm.out (by assumption)) _ _ hp) (j := 1) rfl (by decide) rfl ?_
      repeat walk_at "st"
      rename Fm _ _ _ _ _ _ => f
      refine h _ _ _ _ _ _ f.out (f.get (by walk_at "mem")) (f.N _ (List.Mem.head _)).2.2 (fun p hp => ⟨(f.N p hp).1, (f.N p hp).2.2⟩) (fun h' kb ko => ?_)
      exact Th.pair (ko (_, _) (by walk_at "mem")) (th.keeps kb) hlen (by omega)
    · refine wpAny_execs_nil ?_
      repeat walk_at "st"
      refine o_dict1 (Fm.amb (by assumption)) ?_
      intro s2 D gG hA hN hB
      (with_reducible rename Fm _ _ _ _ _ _ => fF)
      replace fF := Fm.new fF gG hA hN
      clear gG hA hN
      repeat walk_at "st"
      refine o_item_tup (Grow.kp (Fm.out (by assumption)) _ _ hp) (j := 0) rfl (by decide) rfl ?_
      refine ⟨_, _, rfl, Fm.get (by assumption) (by walk_at "mem"), ?_⟩
      intro h' tk o es ep t' h1 h2 h3 h4 h5 hs
      rename Fm _ _ _ _ _ _ => f
      have f2 := f.turn1 (tk := tk) h1 hs (fun p hp => nomatch hp)
      clear f
      repeat walk_at "st"
      refine o_item_tup (Grow.kp (Fm.out (by assumption)) _ _ hp) (j := 1) rfl (by decide) rfl ?_
      repeat walk_at "st"
      rename Fm _ _ _ _ _ _ => f
      exact h _ _ _ _ _ _ f.out (f.get (by walk_at "mem")) (f.N _ (List.Mem.head _)).2.2 (fun p hp => ⟨(f.N p hp).1, (f.N p hp).2.2⟩) (fun h' kb ko => Th.dict1 (ko (_, _) (by walk_at "mem")) h2 h3 h4 h5 (Nat.ne_of_gt (Nat.lt_trans (by decide : sysModules < 102) hB)) (th.keeps kb) hlen (by omega))
section
variable {w : World} {s₀ s s' : Shared} {L : Addr} {m : PySem.Str → Option Value} {news : List (Addr × PySem.Obj)} {ps : Array Value}
/-- the heap that a frame holds as its base, when its own things are hidden -/
def baseOf (s : Shared) (L : Addr) (news : List (Addr × PySem.Obj)) : Shared := { s with heap := hide s.heap (70 :: L :: news.map (·.1)) }
theorem base70 : (baseOf s L news).heap.get? 70 = none := by show (hide _ _).get? 70 = none; rw [get_hide, if_pos (List.mem_cons_self ..)]
/-- the things made lately become part of the base -/
theorem Fm.promote (f : Fm w s₀ L m (more ++ news) s) : Fm w (baseOf s L news) L m news s := by
  refine Fm.rebase (f.sub fun p hp => List.mem_append_right _ hp) _ (.tail _ (.head _)) (fun p hp => .tail _ (.tail _ (List.mem_map_of_mem hp))) fun b hb => ?_
  rcases List.mem_cons.mp hb with rfl | hb
  · exact .inl rfl
  · rcases List.mem_cons.mp hb with rfl | hb
    · exact .inr f.fresh
    · obtain ⟨p, hp, rfl⟩ := List.mem_map.mp hb
      exact .inr (f.N p (List.mem_append_right _ hp)).2.2
theorem Fm.promote_keeps (f : Fm w s₀ L m (more ++ news) s) (h70 : s₀.heap.get? 70 = none) : ∀ b o, s₀.heap.get? b = some o → (baseOf s L news).heap.get? b = some o := by
  intro b o q
  show (hide _ _).get? b = _
  rw [get_hide, if_neg (fun hb => ?_)]
  · exact f.keep _ _ q
  · rcases List.mem_cons.mp hb with rfl | hb
    · rw [h70] at q; cases q
    · rcases List.mem_cons.mp hb with rfl | hb
      · rw [f.fresh] at q; cases q
      · obtain ⟨p, hp, rfl⟩ := List.mem_map.mp hb
        rw [(f.N p (List.mem_append_right _ hp)).2.2] at q; cases q
theorem Fm.promote_get (f : Fm w s₀ L m (more ++ news) s) {a : Addr} {o : PySem.Obj} (hm : (a, o) ∈ more) (h70 : a ≠ 70) (hn : ∀ p ∈ news, p.1 ≠ a) : (baseOf s L news).heap.get? a = some o := by
  have := f.N (a, o) (List.mem_append_left _ hm)
  show (hide _ _).get? a = _
  rw [get_hide, if_neg (fun hb => ?_)]
  · exact this.1
  · rcases List.mem_cons.mp hb with rfl | hb
    · exact h70 rfl
    · rcases List.mem_cons.mp hb with rfl | hb
      · exact this.2.1 rfl
      · obtain ⟨p, hp, e⟩ := List.mem_map.mp hb
        exact hn p hp e
end
theorem swaps_true {env : Env} {kd : PySem.Str → Option NameKind} {elt : PySem.Expr} {gens : List Comprehension} {scope : Scope} {p : Pos} {t : PySem.Str} {pt : Pos} {line : Nat} (e : EnvOk env kd) (hb : env.blockKind = .function) (hk : kd t = some .local) (hl : (pt.line == p.line) = true)
    (hn : (scope.names.any fun x => x.1 == t && (x.2 == .local || x.2 == .cell)) = false) : swapsWith (.ListComp elt gens scope p) (some (.Name t pt)) line env = pure true := by
  show (pure (env.blockKind == .function && env.kindOf t == some .local && pt.line == p.line && !(scope.names.any fun x => x.1 == t && (x.2 == .local || x.2 == .cell))) : Sem Bool) = _
  rw [hb, e.kindOf, hk, hl, hn]
  rfl
theorem o_acomp {w : World} {A : Around} {E : Value → Shared → Prop} {Q : Flow → Shared → Prop} {s s₀ : Shared} {elt iter : PySem.Expr} {x y : PySem.Str} {px py spos : Pos} {scope : Scope} {cl : List (PySem.Str × Addr)} {pos : Pos} {env : Env} {kd : PySem.Str → Option NameKind}
    (e : EnvOk env kd) (hb : env.blockKind = .function) (hy : kd y = some .local) (hline : (py.line == (PySem.Expr.ListComp elt [⟨.Name x px, iter, [], 0⟩] scope pos).pos.line) = true) (hsw : (scope.names.any fun z => z.1 == y && (z.2 == .local || z.2 == .cell)) = false)
    (F : Value → Value → Prop) (hclos : closureFor scope env = pure cl) (hcell : (scope.names.all fun y => y.2 != .cell) = true) (hkind : scope.kind = .function)
    (hnames : (scope.names.all fun y => y.2 != .local || scope.names.lookup y.1 == some .local) = true) (hx : scope.names.lookup x = some .local)
    (h : wpAny (Mo w) A (eval iter env) (fun xv s₁ => wpAny (Mo w) A (pyIter xv) (fun it s₂ => ∃ I fp n P St m news oI, it = .ref I ∧ Walks prog w A I fp [I] n P St ∧ n ≤ 1000 ∧ St 0 s₂.heap ∧ (∀ b ∈ fp, b < s₂.heap.objs.size) ∧ Fm w s₀ env.locals m ((I, oI) :: news) s₂ ∧ (∀ p ∈ news, p.1 ≠ I) ∧
      (∀ C i v (s₃ : Shared) m₃ (E' : Value → Shared → Prop) (Q' : Value → Shared → Prop), P i v → m₃ x = some v → EnvOk (compEnvC scope cl C env) (kindC kd scope.names) → Fm w { s₃ with heap := s₀.heap } C m₃ [] s₃ → (∀ y s₄, F v y → Grow s₃ s₄ → Q' y s₄) →
        wpAny (Mo w) A (eval elt (compEnvC scope cl C env)) Q' E' s₃) ∧
      (∀ D s' ys vs k, vs.length = n → (∀ j v, vs[j]? = some v → P j v) → Paired F vs ys → Fm w s₀ env.locals (upd m y (.ref D)) ((D, lstE ys k) :: news) s' → (∀ p ∈ news, p.1 ≠ D) → Q .next s')) E s₁) E s)
    (hs : ∀ x, foldedSetIterable iter env x = pure x := by intro _; with_unfolding_all rfl) :
    wpAny (Mo w) A (exec (.Assign [.Name y py] (.ListComp elt [⟨.Name x px, iter, [], 0⟩] scope pos) spos) env) Q E s := by
  refine wpAny_Assign_ListComp_free (fun _ => true) F (swaps_true e hb hy hline hsw) hclos (fun y hy => by simpa using List.all_eq_true.mp hcell y hy) hkind (fun y hy hl => by
    have := List.all_eq_true.mp hnames y hy
    rw [hl] at this
    simpa using this) hx ((e.kindOf y).trans hy) (by rw [e.kind]; rfl) (wpAny_mono h (fun xv s₁ h₁ => wpAny_mono h₁ (fun it s₂ h₂ => ?_) fun _ _ q => q) fun _ _ q => q) hs
  obtain ⟨I, fp, n, P, St, m, news, oI, rfl, W, hn, hst, hfp, f, hnI, helt, hQ⟩ := h₂
  have hI := (f.N _ (.head _)).2
  have low : ∀ {h' : Heap}, (∀ b o, b ∉ [I] → s₂.heap.get? b = some o → h'.get? b = some o) → ∀ b o, s₀.heap.get? b = some o → h'.get? b = some o := fun hk b o q =>
    hk b o (fun r => by rw [List.mem_singleton] at r; rw [r, hI.2] at q; cases q) (f.keep _ _ q)
  refine ⟨I, fp, [I], n, P, St, m, rfl, W, by rw [sizeLine_val]; omega, hst, hfp, fun r => hI.1 (List.mem_singleton.mp r).symm, f.ns, ⟨?_, ?_⟩, ?_⟩
  · intro C i v s₃ m₃ E' hC hP hns hm hk htk
    exact wpAny_pure ⟨rfl, _, _, rfl, fun _ _ q => q⟩
  · intro C i v s₃ m₃ E' hC hP hp hns hm hk htk
    refine helt C i v s₃ m₃ E' _ hP hm (compOk e hkind cl C) ⟨hns, low hk, ?_, fun p hp => (nomatch hp), rfl, f.low.keeps (low hk), f.low⟩ fun y s₄ hF g => ⟨hF, s₄.heap, s₄.toks, g.same, g.kp⟩
    cases hq : s₀.heap.get? C with
    | none => rfl
    | some o => exact absurd (Heap.lt_size (f.keep _ _ hq)) (Nat.not_lt.mpr hC)
  · intro D h' tk ys vs hD hL hpl hlen hP hF hns hk
    obtain ⟨k, hpl⟩ := hpl
    have e1 : vs.filter (fun _ => true) = vs := List.filter_eq_self.mpr fun _ _ => rfl
    rw [e1] at hF
    have hDL : D ≠ env.locals := fun r => by
      obtain ⟨oL, _, _, hL, _⟩ := f.ns
      rw [r, hL] at hD; cases hD
    have hD0 : s₀.heap.get? D = none := by
      cases hq : s₀.heap.get? D with
      | none => rfl
      | some o => rw [f.keep _ _ hq] at hD; cases hD
    have hDn : ∀ p ∈ news, p.1 ≠ D := fun p hp r => by rw [← r, (f.N p (.tail _ hp)).1] at hD; cases hD
    have kz : ∀ b o, s₀.heap.get? b = some o → h'.get? b = some o := fun b o q => hk b o (fun r => by rw [r, f.fresh] at q; cases q) (fun r => by rw [List.mem_singleton] at r; rw [r, hI.2] at q; cases q) (f.keep _ _ q)
    refine hQ D _ ys.toList vs k hlen hP hF ⟨hns, kz, f.fresh, fun p hp => ?_, ?_, f.low.keeps kz, f.low⟩ hDn
    · rcases List.mem_cons.mp hp with rfl | hp
      · exact ⟨by simpa [lstE] using hpl, hDL, hD0⟩
      · have := f.N p (.tail _ hp)
        exact ⟨hk _ _ this.2.1 (fun r => hnI p hp (List.mem_singleton.mp r)) this.1, this.2⟩
    · show ({ s₂ with heap := h', toks := tk } : Shared) = _
      rw [f.same]
noncomputable def lawB : { b : List PySem.Stmt // (fdOf 102).body = .stmts b } := ⟨_, rfl⟩
noncomputable def lawT (k : Nat) : List PySem.Stmt := lawB.1.drop k
theorem lawT_end : lawT 21 = [] := rfl
def IntV (v : Value) : Prop := ∃ n t, v = Value.int n t ∧ 0 ≤ n ∧ n < 1000000
theorem o_sum {w : World} {s : Shared} {A : Around} {E : Value → Shared → Prop} {Q : Value → Shared → Prop} {d u : Nat} {N : Addr} {vs : List Value} {k : Nat} (ao : AOk A d u) (hN : s.heap.get? N = some (lstE vs k)) (hi : ∀ v ∈ vs, ∃ n t, v = Value.int n t)
    (h : ∀ s' n t, Grow s s' → Q (.int n t) s') : wpAny (Mo w) A (call (.builtin "sum") [.ref N]) Q E s := by
  have : ∃ xs : Array (Int × Tok), vs.toArray = intItems xs := by
    have key : ∃ l : List (Int × Tok), vs = l.map fun p => Value.int p.1 p.2 := by
      clear hN
      induction vs with
      | nil => exact ⟨[], rfl⟩
      | cons v r ih =>
        obtain ⟨l, hl⟩ := ih fun v hv => hi v (.tail _ hv)
        obtain ⟨n, t, rfl⟩ := hi _ (.head _)
        exact ⟨(n, t) :: l, by rw [hl]; rfl⟩
    obtain ⟨l, rfl⟩ := key
    exact ⟨l.toArray, by simp [intItems]⟩
  obtain ⟨xs, hx⟩ := this
  exact sum_intListG ao.handled (l := N) (xs := xs) ⟨_, hN, rfl, k, by rw [← hx]⟩ fun h' tk t' hk => h _ _ t' (Grow.heap hk tk)
section
variable {w : World} {s₀ s : Shared} {A : Around} {E : Value → Shared → Prop} {Q : Flow → Shared → Prop} {env : Env} {m : PySem.Str → Option Value} {news : List (Addr × PySem.Obj)} {d u : Nat}
set_option maxHeartbeats 1000000 in
theorem law_1 (e : EnvOk env (kindIn 102)) (eF : EnvF env 102) (a : AOk A d u) (f : Fm w s₀ env.locals m news s) {N : Addr} {ns : List Value} {kN : Nat} (hN : s₀.heap.get? N = some (lstE ns kN)) (hns : ∀ v ∈ ns, IntV v) (hm : m (PySem.Str.ofString "numbers") = some (.ref N))
    (next : ∀ s' n t, n < 30 → Fm w s₀ env.locals (upd m (PySem.Str.ofString "word") (.str (rep (PySem.Str.ofString "abc") n) t)) news s' → wpAny (Mo w) A (execs (lawT 2) env) Q E s') : wpAny (Mo w) A (execs (lawT 1) env) Q E s := by
  show wpAny _ _ (execs (_ :: lawT 2) env) _ _ _
  repeat walk_at "st"
  refine o_sum a (Grow.kp (Fm.out (by assumption)) _ _ hN) (fun v hv => let ⟨n, t, h, _⟩ := hns v hv; ⟨n, t, h⟩) ?_
  intro s2 n t g
  (with_reducible rename Fm _ _ _ _ _ _ => fF)
  replace fF := fF.grow g
  repeat walk_at "st"
  have h30 : 0 ≤ n.fmod 30 ∧ n.fmod 30 < 30 := by
    have := Int.fmod_eq_emod_of_nonneg n (b := 30) (by decide)
    omega
  refine o_mul_str h30.1 (by omega) (by decide) ?_; walk_at "gr"
  repeat walk_at "st"
  exact next _ (n.fmod 30).toNat _ (by omega) (by assumption)
set_option maxHeartbeats 1000000 in
theorem law_2 (e : EnvOk env (kindIn 102)) (eF : EnvF env 102) (a : AOk A d u) (f : Fm w s₀ env.locals m news s) {n : Nat} {t : Tok} (hn : n < 30) (hm : m (PySem.Str.ofString "word") = some (.str (rep (PySem.Str.ofString "abc") n) t))
    (next : ∀ s' P0 PL t', Fm w s₀ env.locals (upd m (PySem.Str.ofString "pairs") (.ref PL)) ((PL, lstO [.ref P0]) :: (P0, tupO [.str (rep (PySem.Str.ofString "abc") n) t, .str (PySem.Str.ofString "'" ++ rep (PySem.Str.ofString "abc") n ++ PySem.Str.ofString "'") t']) :: news) s' → wpAny (Mo w) A (execs (lawT 3) env) Q E s') : wpAny (Mo w) A (execs (lawT 2) env) Q E s := by
  have hl := length_rep (PySem.Str.ofString "abc") n
  rw [lens.2.2.2.2.2.2.2.1] at hl
  show wpAny _ _ (execs (_ :: lawT 3) env) _ _ _
  repeat walk_at "st"
  exact next _ _ _ _ (by assumption)
end
theorem Fm.new_ne {w : World} {s₀ s : Shared} {L : Addr} {m : PySem.Str → Option Value} {news : List (Addr × PySem.Obj)} (f : Fm w s₀ L m news s) {a : Addr} (hn : s.heap.get? a = none) : ∀ p ∈ news, p.1 ≠ a := fun p hp r => by rw [← r, (f.N p hp).1] at hn; cases hn
theorem o_append {w : World} {s : Shared} {A : Around} {E : Value → Shared → Prop} {Q : Value → Shared → Prop} {l : Addr} {vs : List Value} {k : Nat} {x : Value} (hl : s.heap.get? l = some (lstE vs k)) (hsz : vs.length ≤ 1000)
    (h : ∀ h' k', h'.get? l = some (lstE (vs ++ [x]) k') → Heap.SameBut l s.heap h' → Q .none { s with heap := h', toks := s.toks }) : wpAny (Mo w) A (call (.builtin "list.append") [.ref l, x]) Q E s := by
  have hL : s.heap.IsList l vs.toArray := ⟨_, hl, rfl, k, rfl⟩
  refine wpAny_call_entry slot_list_append hL.typeIs entry_list_append ?_ (args_list_append _ _)
  show wpAny _ _ (updateSeq l (·.push x) >>= fun _ => ret .none) _ _ s
  refine wpAny_bind ?_
  refine wpAny_updateSeq hl rfl (wpAny_pure ⟨.none, rfl, ?_⟩)
  obtain ⟨k', hk'⟩ : ∃ k', (PySem.Obj.mapSeq (·.push x) (lstE vs k)) = lstE (vs ++ [x]) k' := by
    obtain ⟨n', hd'⟩ := Obj.data_mapSeq (o := lstE vs k) rfl (·.push x)
    refine ⟨n', ?_⟩
    have h1 : (PySem.Obj.mapSeq (·.push x) (lstE vs k)).cls = .type "list" := Obj.cls_mapSeq ..
    have h2 : (PySem.Obj.mapSeq (·.push x) (lstE vs k)).dict = none := rfl
    have h3 : (PySem.Obj.mapSeq (·.push x) (lstE vs k)).slots = #[] := rfl
    cases hq : PySem.Obj.mapSeq (·.push x) (lstE vs k) with
    | mk c dd dt sl =>
      rw [hq] at h1 h2 h3 hd'
      simp only at h1 h2 h3 hd'
      subst h1 h2 h3 hd'
      simp [lstE]
  exact h _ k' (by rw [Heap.get?_update_self _ hl (by rw [hk']; rfl), hk']) (Heap.SameBut.update ..)
/-- the pairs: their tuples and writings at h -/
noncomputable def PR (h : Heap) : List Value → List (Value × PySem.Str) → Prop
  | [], [] => True
  | pv :: r, (v, x) :: r' => (∃ q tx, pv = .ref q ∧ h.get? q = some (tupO [v, .str x tx])) ∧ Th h v x 10 ∧ PR h r r'
  | _, _ => False
theorem PR.keeps {h h' : Heap} (k : ∀ b o, h.get? b = some o → h'.get? b = some o) : ∀ {ps : List Value} {vx : List (Value × PySem.Str)}, PR h ps vx → PR h' ps vx
  | [], [], _ => trivial
  | _ :: _, (_, _) :: _, ⟨⟨q, tx, e, g⟩, t, r⟩ => ⟨⟨q, tx, e, k _ _ g⟩, t.keeps k, PR.keeps k r⟩
  | [], _ :: _, x => x.elim
  | _ :: _, [], x => x.elim
theorem PR.snoc {h : Heap} {pv v : Value} {x : PySem.Str} (hp : ∃ q tx, pv = .ref q ∧ h.get? q = some (tupO [v, .str x tx])) (t : Th h v x 10) : ∀ {ps : List Value} {vx : List (Value × PySem.Str)}, PR h ps vx → PR h (ps ++ [pv]) (vx ++ [(v, x)])
  | [], [], _ => ⟨hp, t, trivial⟩
  | _ :: _, (_, _) :: _, ⟨a, b, r⟩ => ⟨a, b, PR.snoc hp t r⟩
  | [], _ :: _, x => x.elim
  | _ :: _, [], x => x.elim
theorem PR.length {h : Heap} : ∀ {ps : List Value} {vx : List (Value × PySem.Str)}, PR h ps vx → ps.length = vx.length
  | [], [], _ => rfl
  | _ :: _, (_, _) :: _, ⟨_, _, r⟩ => by rw [List.length_cons, List.length_cons, PR.length r]
  | [], _ :: _, x => x.elim
  | _ :: _, [], x => x.elim
section
variable {w : World} {s₀ s : Shared} {A : Around} {E : Value → Shared → Prop} {Q : Flow → Shared → Prop} {env : Env} {m : PySem.Str → Option Value} {d u : Nat}
set_option maxHeartbeats 4000000 in
theorem law_3 {rest : List (Addr × PySem.Obj)} {ot : PySem.Obj} (e : EnvOk env (kindIn 102)) (eF : EnvF env 102) (a : AOk A d u) (hd : d < 800) {N PL : Addr} {ns ps : List Value} {kN kP : Nat} {vx : List (Value × PySem.Str)} (f : Fm w s₀ env.locals m ((PL, lstE ps kP) :: rest) s) (h70 : (70, ot) ∈ rest) (hPLr : ∀ p ∈ rest, p.1 ≠ PL)
    (h0 : s₀.heap.get? 70 = none) (hN : s₀.heap.get? N = some (lstE ns kN)) (hns : ∀ v ∈ ns, IntV v) (hn6 : ns.length ≤ 6) (hm : m (PySem.Str.ofString "numbers") = some (.ref N)) (hmP : m (PySem.Str.ofString "pairs") = some (.ref PL))
    (hps : PR s₀.heap ps vx) {q0 : Addr} {v0 : Value} {x0 : PySem.Str} {t0 : Tok} (hq0 : ps.getLast? = some (.ref q0)) (hg0 : s₀.heap.get? q0 = some (tupO [v0, .str x0 t0])) (hth : Th s₀.heap v0 x0 0) (hpl : ps.length = 1)
    (next : ∀ s' s₀' m' ps' kP' vx', Fm w s₀' env.locals m' ((PL, lstE ps' kP') :: rest) s' → s₀'.heap.get? 70 = none → (∀ b o, s₀.heap.get? b = some o → s₀'.heap.get? b = some o) → m' (PySem.Str.ofString "numbers") = some (.ref N) → m' (PySem.Str.ofString "pairs") = some (.ref PL) →
      PR s₀'.heap ps' vx' → ps'.length ≤ 7 → 0 < ps'.length → s₀'.gens = s₀.gens → s₀'.os = s₀.os → wpAny (Mo w) A (execs (lawT 4) env) Q E s') : wpAny (Mo w) A (execs (lawT 3) env) Q E s := by
  show wpAny _ _ (execs (_ :: lawT 4) env) _ _ _
  walk_at "st"
  refine wpAny_For ?_ (by intro _; with_unfolding_all rfl)
  repeat walk_at "st"
  refine o_iter_lst (f.keep _ _ hN) ?_
  intro s5 it g hi hni
  have hNi : N ≠ it := fun q => by rw [← q, f.keep _ _ hN] at hni; cases hni
  have hne : ∀ {ps : List Value} {k : Nat} (p : Addr × PySem.Obj), p ∈ (PL, lstE ps k) :: rest → p.1 ≠ it := fun p hp => by
    rcases List.mem_cons.mp hp with rfl | hp
    · exact f.new_ne hni (PL, lstE _ kP) (.head _)
    · exact f.new_ne hni _ (.tail _ hp)
  have f5 := f.new g hi hni
  clear f hi hni g
  refine codeAny_forLoop_any (fun n s' => ∃ i m oi s₁ ps kP vx q v x tq, n = ns.length + 1 - i ∧ i ≤ ns.length ∧ Fm w s₁ env.locals m ((it, oi) :: (PL, lstE ps kP) :: rest) s' ∧ s₁.heap.get? 70 = none ∧ (∀ b o, s₀.heap.get? b = some o → s₁.heap.get? b = some o) ∧
      m (PySem.Str.ofString "numbers") = some (.ref N) ∧ m (PySem.Str.ofString "pairs") = some (.ref PL) ∧ oi.cls = .type "list_iterator" ∧ oi.data = .fields #[.ref N, .int i 0] ∧ PR s₁.heap ps vx ∧ ps.length = i + 1 ∧
      ps.getLast? = some (.ref q) ∧ s₁.heap.get? q = some (tupO [v, .str x tq]) ∧ Th s₁.heap v x i ∧ s₁.gens = s₀.gens ∧ s₁.os = s₀.os) ?_ (ns.length + 1)
    ⟨0, _, _, _, _, _, _, _, _, _, _, rfl, Nat.zero_le _, f5, h0, fun _ _ q => q, hm, hmP, rfl, rfl, hps, hpl, hq0, hg0, hth, rfl, rfl⟩
  clear f5
  rintro n s' ⟨i, m1, oi, s₁, ps1, kP1, vx1, q, v, x, tq, rfl, hik, f, h01, hb, hm1, hm2, hc, hdt, hpr, hpl1, hq, hgq, ht, hgen, hos⟩
  refine o_next_lst a f hne (f.keep _ _ (hb _ _ hN)) hNi hc hdt ?_ ?_
  · intro nv s6 oi' hv hc' hd'' f6 _
    obtain ⟨n, tn, rfl, hn0, hn1⟩ := hns nv (List.mem_of_getElem? hv)
    have hilt : i < ns.length := (List.getElem?_eq_some_iff.mp hv).1
    clear f
    refine wpAny_of_eq (a := ()) rfl (wpAny_assign_Name ?_)
    repeat walk_at "st"
    refine wpAny_Expr ?_ (interactive_no e) (by with_unfolding_all rfl)
    repeat walk_at "st"
    refine Calls.getMethod_list_append (Fm.get (by assumption) (by walk_at "mem")) rfl rfl ?_
    repeat walk_at "st"
    refine o_def (Fm.amb (by assumption)) (by kernel_rfl) ?_
    repeat walk_at "st"
    refine o_item_lst_neg (Fm.get (by assumption) (by walk_at "mem")) hq ?_
    repeat walk_at "st"
    (with_reducible rename Fm _ _ _ _ _ _ => fF)
    refine ⟨fF.amb.k, c_pair (hb := s₁.heap) fF.amb a (by omega) hn0 hn1 (fF.keep _ _ hgq) ht ?_⟩
    intro s7 q' v' x' tx' objs g7 hq7 hn7 ho7 ht7
    have hall : ∀ p ∈ ((q', tupO [v', Value.str x' tx']) :: objs), s7.heap.get? p.1 = some p.2 ∧ (_ : Shared).heap.get? p.1 = none := fun p hp => by
      rcases List.mem_cons.mp hp with rfl | hp
      · exact ⟨hq7, hn7⟩
      · exact ho7 p hp
    have hdis : ∀ p ∈ ((q', tupO [v', Value.str x' tx']) :: objs), ∀ r ∈ ((it, oi') :: (PL, lstE ps1 kP1) :: rest), r.1 ≠ p.1 := fun p hp => fF.new_ne (hall p hp).2
    have f7 := fF.newL g7 hall
    clear fF g7
    have hb7 := f7.promote_keeps h01
    have hg7 := f7.out.gens
    have ho7' := f7.out.os
    have hget : ∀ p ∈ ((q', tupO [v', Value.str x' tx']) :: objs), (baseOf s7 env.locals ((it, oi') :: (PL, lstE ps1 kP1) :: rest)).heap.get? p.1 = some p.2 := fun p hp => f7.promote_get hp (fun r => hdis p hp (70, ot) (.tail _ (.tail _ h70)) r.symm) (hdis p hp)
    have f8 := f7.promote
    have ht8 := ht7 _ hb7 (fun p hp => hget p (.tail _ hp))
    clear f7 ht7 hall hdis
    repeat walk_at "st"
    refine o_append (Fm.get f8 (by walk_at "mem")) (by omega) ?_
    intro h9 k9 hg9 hs9
    have f9 := (f8.sub (news' := (PL, lstE ps1 kP1) :: (it, oi') :: rest) (fun p hp => by
      rcases List.mem_cons.mp hp with rfl | hp
      · exact .tail _ (.head _)
      · rcases List.mem_cons.mp hp with rfl | hp
        · exact .head _
        · exact .tail _ (.tail _ hp))).turn1 (tk := s7.toks) hg9 hs9 (fun p hp => by
      rcases List.mem_cons.mp hp with rfl | hp
      · exact (hne (ps := ps1) (k := kP1) (PL, _) (.head _)).symm
      · exact hPLr p hp)
    refine wpAny_execs_nil ⟨ns.length + 1 - (i + 1), by omega, i + 1, _, oi', _, ps1 ++ [.ref q'], k9, vx1 ++ [(v', x')], q', v', x', tx', rfl, by omega, f9.sub (fun p hp => by
      rcases List.mem_cons.mp hp with rfl | hp
      · exact .tail _ (.head _)
      · rcases List.mem_cons.mp hp with rfl | hp
        · exact .head _
        · exact .tail _ (.tail _ hp)), base70, fun b o r => hb7 _ _ (hb _ _ r), by walk_at "hv", by walk_at "hv", hc', hd'', PR.snoc ⟨q', tx', rfl, hget _ (.head _)⟩ (ht8.mono (by omega)) (hpr.keeps hb7), by simp [hpl1], by simp, hget _ (.head _), ht8, hg7.trans hgen, ho7'.trans hos⟩
  · intro hv s6 f6
    refine wpAny_execs_nil ?_
    exact next _ _ _ _ _ _ f6 h01 hb hm1 hm2 hpr (by omega) (by omega) hgen hos
end
abbrev TR : PySem.Str := PySem.Str.ofString " [truncated]..."
abbrev DOTS : PySem.Str := PySem.Str.ofString "..."
theorem tk_left (a b : PySem.Str) : tk (a ++ b) a.length = a := by
  apply cl_inj
  rw [cl_tk, cl_append, length_cl, List.take_left]
theorem dr_left (a b : PySem.Str) : dr (a ++ b) a.length = b := by
  apply cl_inj
  rw [cl_dr, cl_append, length_cl, List.drop_left]
theorem split_mid {a b y : PySem.Str} {c k : Nat} {y1 y2 : List Nat} (hy : cl y = y1 ++ List.replicate (k + 1) c ++ y2) (ha : c ∉ cl a) (hb : c ∉ cl b) (h1 : c ∉ y1) (h2 : c ∉ y2) (la : ∀ c ∈ cl a, c < 256) (lb : ∀ c ∈ cl b, c < 256) (ly : ∀ c ∈ cl y, c < 256) :
    Txt.split (a ++ y ++ b) y = [a, b] := by
  have hx : cl (a ++ y ++ b) = cl a ++ (y1 ++ List.replicate (k + 1) c ++ y2) ++ cl b := by rw [cl_append, cl_append, hy]
  have hp : StrLaws.At (a ++ y ++ b) y (a ++ y ++ b).length a.length := by
    refine at_of ?_ ?_
    · rw [cl_append, cl_append, length_cl a, List.append_assoc, List.drop_left, List.take_left]
    · rw [cl_append, cl_append, length_cl a]; simp only [List.length_append]; omega
  have hlen : 0 < y.length := by rw [length_cl, hy]; simp; omega
  rw [split_at (p := a.length) (fun c hc => by
    rw [cl_append, cl_append, List.mem_append, List.mem_append] at hc
    rcases hc with (q | q) | q
    · exact la c q
    · exact ly c q
    · exact lb c q) ly hlen hp fun i hi => by
      have := at_unique hx hy ha hb h1 h2 hi
      rw [this, length_cl]]
  have e1 : tk (a ++ y ++ b) a.length = a := by rw [PySem.Str.append_assoc]; exact tk_left ..
  have e2 : dr (a ++ y ++ b) (a.length + y.length) = b := by rw [← PySem.Str.length_append]; exact dr_left ..
  rw [e1, e2]
theorem fine256 {x : PySem.Str} (h : Fine x) : ∀ c ∈ cl x, c < 256 := fun c hc => by have := h c hc; omega
theorem Fine.tk {x : PySem.Str} (h : Fine x) (n : Nat) : Fine (tk x n) := fun c hc => by rw [cl_tk] at hc; exact h c (List.mem_of_mem_take hc)
theorem Fine.dr {x : PySem.Str} (h : Fine x) (n : Nat) : Fine (dr x n) := fun c hc => by rw [cl_dr] at hc; exact h c (List.mem_of_mem_drop hc)
theorem join_two (z a b : PySem.Str) : PySem.Str.join z [a, b] = a ++ z ++ b := by simp only [PySem.Str.join, PySem.Str.append_assoc]
theorem join_one (z a : PySem.Str) : PySem.Str.join z [a] = a := rfl
theorem split_dots {a b : PySem.Str} (ha : Fine a) (hb : Fine b) : Txt.split (a ++ DOTS ++ b) DOTS = [a, b] :=
  split_mid (c := 46) (k := 2) (y1 := []) (y2 := []) (by rw [cl_ofs]; rfl) (fun h => (ha _ h).2.1 rfl) (fun h => (hb _ h).2.1 rfl) (by simp) (by simp) (fine256 ha) (fine256 hb) (by rw [cl_ofs]; decide)
theorem split_tr {a b : PySem.Str} (ha : Fine a) (hb : Fine b) : Txt.split (a ++ TR ++ b) TR = [a, b] :=
  split_mid (c := 100) (k := 0) (y1 := [32, 91, 116, 114, 117, 110, 99, 97, 116, 101]) (y2 := [93, 46, 46, 46]) (by rw [cl_ofs]; rfl) (fun h => (ha _ h).2.2.2 rfl) (fun h => (hb _ h).2.2.2 rfl) (by decide) (by decide) (fine256 ha) (fine256 hb) (by rw [cl_ofs]; decide)
theorem split_mark {a b : PySem.Str} (n : Int) (ha : Fine a) (hb : Fine b) : Txt.split (a ++ markOf n ++ b) (markOf n) = [a, b] := by
  have hf := int_fine n
  refine split_mid (c := 104) (k := 0) (y1 := [91] ++ cl (PySem.Str.ofString (toString n)) ++ [32, 99]) (y2 := [97, 114, 115, 93]) ?_ (fun h => (ha _ h).2.2.1 rfl) (fun h => (hb _ h).2.2.1 rfl) ?_ (by decide) (fine256 ha) (fine256 hb) ?_
  · unfold markOf
    rw [cl_append, cl_append, cl_ofs "[", cl_ofs " chars]"]
    simp
  · intro h
    simp only [List.mem_append, List.mem_cons, List.not_mem_nil, or_false] at h
    rcases h with (h | h) | h | h
    · cases h
    · exact (hf _ h).2.2.1 rfl
    · cases h
    · cases h
  · intro c hc
    unfold markOf at hc
    rw [cl_append, cl_append, List.mem_append, List.mem_append] at hc
    rcases hc with (h | h) | h
    · rw [cl_ofs] at h; revert c; decide
    · exact fine256 hf c h
    · rw [cl_ofs] at h; revert c; decide
theorem mark_h (n : Int) : 104 ∈ cl (markOf n) := by
  unfold markOf
  rw [cl_append, List.mem_append]
  exact .inr (by rw [cl_ofs]; decide)
theorem split_no_mark {x : PySem.Str} (n : Int) (hx : Fine x) : Txt.split x (markOf n) = [x] := split_no fun i => no_at (mark_h n) (fun h => (hx _ h).2.2.1 rfl) _ i
theorem split_no_tr {x : PySem.Str} (hx : Fine x) : Txt.split x TR = [x] := split_no fun i => no_at (c := 46) (by rw [cl_ofs]; decide) (fun h => (hx _ h).2.1 rfl) _ i
theorem append_tk_dr (x : PySem.Str) (n : Nat) : tk x n ++ dr x n = x := cl_inj (by rw [cl_append, cl_tk, cl_dr, List.take_append_drop])
theorem append_mid (x : PySem.Str) {i j : Nat} (h : i ≤ j) : tk x i ++ tk (dr x i) (j - i) ++ dr x j = x := by
  apply cl_inj
  simp only [cl_append, cl_tk, cl_dr]
  have : (cl x).drop j = ((cl x).drop i).drop (j - i) := by rw [List.drop_drop]; congr 1; omega
  rw [this, List.append_assoc, List.take_append_drop, List.take_append_drop]
-- brief
theorem brief_len (x : PySem.Str) : (briefOf x).length = if x.length < 80 then x.length else 95 := by
  unfold briefOf
  split
  · rfl
  · rw [PySem.Str.length_append, length_tk, lens.2.2.2.2.2.2.1]; omega
theorem brief_split {x : PySem.Str} (hx : Fine x) : Txt.split (briefOf x) TR = if x.length < 80 then [x] else [tk x 80, PySem.Str.ofString ""] := by
  unfold briefOf
  split
  · exact split_no_tr hx
  · have := split_tr (hx.tk 80) (b := PySem.Str.ofString "") (by unfold Fine; rw [cl_ofs]; decide)
    have e : tk x 80 ++ TR ++ PySem.Str.ofString "" = tk x 80 ++ TR := by apply cl_inj; rw [cl_append, cl_ofs ""]; simp
    rw [e] at this
    exact this
theorem brief_repl {x : PySem.Str} (hx : Fine x) : replOf (briefOf x) TR (dr x 80) = x := by
  unfold replOf
  rw [brief_split hx]
  split
  · rfl
  · rw [join_two, append_tk_dr]
    apply cl_inj; rw [cl_append, cl_ofs ""]; simp
-- cram
theorem cram_at {x : PySem.Str} {k : Int} (hk : k < x.length) : cramOf x k = tk x ((max 0 (k - 3)).fdiv 2).toNat ++ DOTS ++ dr x (x.length - max 0 (k - 3) + (max 0 (k - 3)).fdiv 2).toNat := by
  unfold cramOf
  rw [if_pos hk]
  have e1 : (k - 3).fdiv 2 = (k - 3) / 2 := Int.fdiv_eq_ediv_of_nonneg _ (by decide)
  have e2 : (max 0 (k - 3)).fdiv 2 = (max 0 (k - 3)) / 2 := Int.fdiv_eq_ediv_of_nonneg _ (by decide)
  rw [e1, e2]
  have h1 : max 0 ((k - 3) / 2) = (max 0 (k - 3)) / 2 := by omega
  have h2 : (x.length : Int) - max 0 (k - 3 - max 0 ((k - 3) / 2)) = x.length - max 0 (k - 3) + (max 0 (k - 3)) / 2 := by omega
  rw [h2, h1]
theorem cram_no {x : PySem.Str} {k : Int} (hk : ¬ k < x.length) : cramOf x k = x := if_neg hk
theorem repl_dots {a b z : PySem.Str} (ha : Fine a) (hb : Fine b) : replOf (a ++ DOTS ++ b) DOTS z = a ++ z ++ b := by unfold replOf; rw [split_dots ha hb, join_two]
theorem repl_mark {a b z : PySem.Str} {n : Int} (ha : Fine a) (hb : Fine b) : replOf (a ++ markOf n ++ b) (markOf n) z = a ++ z ++ b := by unfold replOf; rw [split_mark n ha hb, join_two]
theorem repl_no_mark {x z : PySem.Str} {n : Int} (hx : Fine x) : replOf x (markOf n) z = x := by unfold replOf; rw [split_no_mark n hx]; rfl
-- the told ones
theorem short_repl {X y z : PySem.Str} {q : Int} (hX : Fine X) (hy : Fine y) (hq : 0 ≤ q) (hz : 12 < (X.length : Int) - 5 - q → z = tk (dr X 5) ((X.length - q).toNat - 5)) : replOf (shortOf X 5 q ++ y) (markOf (X.length - 5 - q)) z = X ++ y := by
  unfold shortOf
  split
  · rename_i hc
    rw [PySem.Str.append_assoc, repl_mark (hX.tk _) ((hX.dr _).append hy), hz hc, ← PySem.Str.append_assoc]
    congr 1
    exact append_mid X (by omega)
  · exact repl_no_mark (hX.append hy)
theorem short_split {X y : PySem.Str} {q : Int} (hX : Fine X) (hy : Fine y) : Txt.split (shortOf X 5 q ++ y) (markOf (X.length - 5 - q)) = if 12 < (X.length : Int) - 5 - q then [tk X 5, dr X (X.length - q).toNat ++ y] else [X ++ y] := by
  unfold shortOf
  split
  · rename_i hc
    rw [PySem.Str.append_assoc, split_mark _ (hX.tk _) ((hX.dr _).append hy)]
    rfl
  · exact split_no_mark _ (hX.append hy)
theorem short_eq {X y x : PySem.Str} {q : Int} (hx : Fine x) (e : X ++ y = x) : (shortOf X 5 q ++ y == x) = decide ((X.length : Int) - 5 - q ≤ 12) := by
  unfold shortOf
  split
  · rename_i hc
    rw [decide_eq_false (by omega), beq_eq_false_iff_ne]
    intro h
    have h1 : 104 ∈ cl x := by
      rw [← h]
      simp only [cl_append, List.mem_append]
      exact .inl (.inl (.inr (mark_h _)))
    exact (hx _ h1).2.2.1 rfl
  · rw [e, decide_eq_true (by omega)]; simp
theorem turn_facts {x : PySem.Str} {k K a b : Int} (hx : Fine x) (hl : x.length ≤ 1000) (hk : k < x.length) (hK : K = max 0 (k - 3)) (ha : a = K.fdiv 2) (hb : b = x.length - K + a) :
    (0 ≤ a ∧ 0 ≤ K - a ∧ a ≤ b ∧ b ≤ x.length) ∧ ((tk (dr x a.toNat) (b - a).toNat).length : Int) = x.length - K ∧ (cramOf x k).length ≤ 2000 ∧ Txt.split (cramOf x k) DOTS = [tk x a.toNat, dr x b.toNat] ∧
    replOf (cramOf x k) DOTS (tk (dr x a.toNat) (b - a).toNat) = x ∧ (shortOf x a (K - a)).length ≤ 2000 ∧ (¬ 12 < (x.length : Int) - K → shortOf x a (K - a) = x) ∧
    (12 < (x.length : Int) - K → Txt.split (shortOf x a (K - a)) (markOf (x.length - K)) = [tk x a.toNat, dr x b.toNat] ∧ replOf (shortOf x a (K - a)) (markOf (x.length - K)) DOTS = cramOf x k ∧ replOf (shortOf x a (K - a)) (markOf (x.length - K)) (tk (dr x a.toNat) (b - a).toNat) = x) := by
  have hc := cram_at (x := x) (k := k) hk
  rw [← hK, ← ha, ← hb] at hc
  have h2 : a = K / 2 := by rw [ha]; exact Int.fdiv_eq_ediv_of_nonneg _ (by decide)
  have hbd : 0 ≤ a ∧ 0 ≤ K - a ∧ a ≤ b ∧ b ≤ x.length := by omega
  have hmid : tk x a.toNat ++ tk (dr x a.toNat) (b - a).toNat ++ dr x b.toNat = x := by
    have := append_mid x (i := a.toNat) (j := b.toNat) (by omega)
    rwa [show b.toNat - a.toNat = (b - a).toNat by omega] at this
  have hfa := hx.tk a.toNat
  have hfb := hx.dr b.toNat
  have hse : 12 < (x.length : Int) - K → shortOf x a (K - a) = tk x a.toNat ++ markOf (x.length - K) ++ dr x b.toNat := fun h => by
    unfold shortOf
    rw [if_pos (by omega), show (x.length : Int) - a - (K - a) = x.length - K by omega, show (x.length : Int) - (K - a) = b by omega]
  have hsn : ¬ 12 < (x.length : Int) - K → shortOf x a (K - a) = x := fun h => by
    unfold shortOf
    rw [if_neg (by omega)]
  refine ⟨hbd, ?_, ?_, ?_, ?_, ?_, hsn, fun h => ⟨?_, ?_, ?_⟩⟩
  · rw [length_tk, length_dr]; omega
  · rw [hc]
    simp only [PySem.Str.length_append, length_tk, length_dr, lens]
    omega
  · rw [hc]; exact split_dots hfa hfb
  · rw [hc, repl_dots hfa hfb, hmid]
  · by_cases h : 12 < (x.length : Int) - K
    · rw [hse h]
      have := dec_len (n := (x.length : Int) - K) (by omega)
      simp only [PySem.Str.length_append, length_tk, length_dr, lens, markOf]
      omega
    · rw [hsn h]; omega
  · rw [hse h]; exact split_mark _ hfa hfb
  · rw [hse h, repl_mark hfa hfb, hc]
  · rw [hse h, repl_mark hfa hfb, hmid]
theorem mark_pos (n : Int) : 0 < (markOf n).length := by unfold markOf; simp only [PySem.Str.length_append, lens]; omega
theorem block_fn {env : Env} {kd : PySem.Str → Option NameKind} (e : EnvOk env kd) : env.blockKind = .function := by unfold Env.blockKind; rw [e.kind]; rfl
theorem acl_none {scope : Scope} {env : Env} (h : (scope.names.all fun x => x.2 != .free) = true) : closureFor scope env = pure [] := closureFor_none fun x hx => by simpa using List.all_eq_true.mp h x hx
theorem PR.at {h : Heap} : ∀ {ps : List Value} {vx : List (Value × PySem.Str)}, PR h ps vx → ∀ (i : Nat) (pv : Value), ps[i]? = some pv → ∃ q v x tx, pv = .ref q ∧ h.get? q = some (tupO [v, .str x tx])
  | [], [], _, _, _, hi => by simp at hi
  | _ :: _, (v, x) :: _, ⟨⟨q, tx, e, g⟩, t, r⟩, i, pv, hi => by
    cases i with
    | zero => simp at hi; subst hi; exact ⟨q, v, x, tx, e, g⟩
    | succ i => exact PR.at r i pv (by simpa using hi)
  | [], _ :: _, x, _, _, _ => x.elim
  | _ :: _, [], x, _, _, _ => x.elim
theorem PR.fst {h : Heap} : ∀ {ps ys : List Value} {vx : List (Value × PySem.Str)}, PR h ps vx → Paired (fun pv y => ∃ q v x tx, pv = Value.ref q ∧ h.get? q = some (tupO [v, .str x tx]) ∧ y = v) ps ys → ys = vx.map (·.1)
  | [], _, [], _, p => by cases p; rfl
  | _ :: _, _, (v, x) :: _, ⟨⟨q, tx, e, g⟩, t, r⟩, p => by
    cases p with
    | cons hF hr =>
      obtain ⟨q', v', x', tx', e', g', rfl⟩ := hF
      rw [e] at e'; cases e'
      rw [g] at g'; cases g'
      rw [PR.fst r hr]; rfl
  | [], _, _ :: _, x, _ => x.elim
  | _ :: _, _, [], x, _ => x.elim
theorem PR.snd {h : Heap} : ∀ {ps ys : List Value} {vx : List (Value × PySem.Str)}, PR h ps vx → Paired (fun pv y => ∃ q v x tx, pv = Value.ref q ∧ h.get? q = some (tupO [v, .str x tx]) ∧ y = .str x tx) ps ys → ∃ l : List (PySem.Str × Tok), ys = strValues l ∧ l.map (·.1) = vx.map (·.2)
  | [], _, [], _, p => by cases p; exact ⟨[], rfl, rfl⟩
  | _ :: _, _, (v, x) :: _, ⟨⟨q, tx, e, g⟩, t, r⟩, p => by
    cases p with
    | cons hF hr =>
      obtain ⟨q', v', x', tx', e', g', rfl⟩ := hF
      rw [e] at e'; cases e'
      rw [g] at g'; cases g'
      obtain ⟨l, h1, h2⟩ := PR.snd r hr
      exact ⟨(x, tx) :: l, by rw [h1]; rfl, by simp [h2]⟩
  | [], _, _ :: _, x, _ => x.elim
  | _ :: _, _, [], x, _ => x.elim
section
variable {w : World} {s₀ s : Shared} {A : Around} {E : Value → Shared → Prop} {Q : Flow → Shared → Prop} {env : Env} {m : PySem.Str → Option Value} {d u : Nat}
set_option maxHeartbeats 2000000 in
theorem law_4 {rest : List (Addr × PySem.Obj)} (e : EnvOk env (kindIn 102)) (eF : EnvF env 102) (a : AOk A d u) {PL : Addr} {ps : List Value} {kP : Nat} {vx : List (Value × PySem.Str)} (f : Fm w s₀ env.locals m ((PL, lstE ps kP) :: rest) s) (hPR : PR s₀.heap ps vx) (hl : ps.length ≤ 7) (hmP : m (PySem.Str.ofString "pairs") = some (.ref PL))
    (next : ∀ s' T kT, Fm w s₀ env.locals (upd m (PySem.Str.ofString "things") (.ref T)) ((T, lstE (vx.map (·.1)) kT) :: (PL, lstE ps kP) :: rest) s' → (∀ p ∈ (PL, lstE ps kP) :: rest, p.1 ≠ T) → wpAny (Mo w) A (execs (lawT 5) env) Q E s') : wpAny (Mo w) A (execs (lawT 4) env) Q E s := by
  show wpAny _ _ (execs (_ :: lawT 5) env) _ _ _
  walk_at "st"
  refine o_acomp (s₀ := s₀) e (block_fn e) (by kernel_rfl) (by rfl) (by rfl) (fun pv y => ∃ q v x tx, pv = Value.ref q ∧ s₀.heap.get? q = some (tupO [v, .str x tx]) ∧ y = v) (acl_none (by rfl)) (by rfl) rfl (by kernel_rfl) (by kernel_rfl) ?_ (by intro _; with_unfolding_all rfl)
  refine r_local e f hmP ?_ (by kernel_rfl) (by decide +kernel)
  refine o_iter_lst (f.get (.head _)) ?_
  intro s5 it g hi hni
  have hne := f.new_ne hni
  have hPi : PL ≠ it := hne (PL, _) (.head _)
  have f5 := f.new g hi hni
  refine ⟨it, _, _, _, _, m, (PL, lstE ps kP) :: rest, _, rfl, Walks.list a.handled it PL hPi ps.toArray, by rw [List.size_toArray]; omega, ⟨⟨_, hi, rfl, rfl⟩, ⟨_, f5.get (.tail _ (.head _)), rfl, kP, rfl⟩⟩, ?_, f5, hne, ?_, ?_⟩
  · intro b hb
    simp only [List.mem_cons, List.not_mem_nil, or_false] at hb
    rcases hb with rfl | rfl
    · exact Heap.lt_size hi
    · exact Heap.lt_size (f5.get (.tail _ (.head _)))
  · intro C i v s8 m8 E' Q' hP hm8 e8 f8 hq
    obtain ⟨q, v0, x0, tx0, rfl, hg⟩ := hPR.at i v (by simpa using hP)
    have gg : Grow s8 s8 := Grow.refl _
    clear f f5
    refine Subscript_ ?_
    refine r_local e8 (show Fm w _ (compEnvC _ _ C env).locals _ _ _ from f8) hm8 ?_ (by kernel_rfl) (by decide +kernel)
    repeat walk_at "st"
    (with_reducible rename Fm _ _ _ _ _ _ => f9)
    refine o_item_tup (f9.keep _ _ hg) (j := 0) rfl (by decide) rfl ?_
    exact hq _ _ ⟨q, v0, x0, tx0, rfl, hg, rfl⟩ (by assumption)
  · intro D s8 ys vs k8 hvl hvP hpr f8 hnD
    have hvs : vs = ps := by
      refine List.ext_getElem? fun j => ?_
      cases hq : vs[j]? with
      | some v => have := hvP j v hq; simpa using this.symm
      | none =>
        have : vs.length ≤ j := by simpa using hq
        rw [hvl, List.size_toArray] at this
        rw [List.getElem?_eq_none this]
    subst hvs
    have := hPR.fst hpr
    subst this
    exact next _ _ _ f8 hnD
end
def Things (h : Heap) (tv : List Value) (xs : List PySem.Str) : Prop := ∃ ds as, ReadsAll h tv ds as ∧ sysModules ∉ as ∧ PyData.showableAll ds = true ∧ PyData.depthAll ds ≤ 20 ∧ PyData.shownAll ds = xs
def fullOf (xs : List PySem.Str) : PySem.Str := PySem.Str.ofString "[" ++ PySem.Str.join (PySem.Str.ofString ", ") xs ++ PySem.Str.ofString "]"
theorem Things.keeps {h h' : Heap} {tv : List Value} {xs : List PySem.Str} (t : Things h tv xs) (k : ∀ b o, h.get? b = some o → h'.get? b = some o) : Things h' tv xs :=
  let ⟨ds, as, r, q⟩ := t; ⟨ds, as, ReadsAll.keeps k r, q⟩
theorem Things.cons {h : Heap} {v : Value} {x : PySem.Str} {tv : List Value} {xs : List PySem.Str} {k : Nat} (t : Th h v x k) (hk : k ≤ 20) (r : Things h tv xs) : Things h (v :: tv) (x :: xs) := by
  obtain ⟨d, as, r1, q1, q2, q3, q4⟩ := t.reads
  obtain ⟨ds, bs, r2, p1, p2, p3, p4⟩ := r
  exact ⟨d :: ds, as ++ bs, .cons r1 r2, by simp [q1, p1], by simp [PyData.showableAll, q2, p2], by simp only [PyData.depthAll]; omega, by simp [PyData.shownAll, q4, p4]⟩
theorem Things.nil {h : Heap} : Things h [] [] := ⟨[], [], .nil, by simp, rfl, by simp [PyData.depthAll], rfl⟩
theorem Things.snoc {h : Heap} {v : Value} {x : PySem.Str} {k : Nat} (t : Th h v x k) (hk : k ≤ 20) : ∀ {tv : List Value} {xs : List PySem.Str}, Things h tv xs → Things h (tv ++ [v]) (xs ++ [x])
  | [], xs, r => by
    obtain ⟨ds, bs, r2, p1, p2, p3, p4⟩ := r
    cases r2
    have : xs = [] := p4.symm
    subst this
    exact Things.cons t hk Things.nil
  | v' :: tv, xs, r => by
    obtain ⟨ds, bs, r2, p1, p2, p3, p4⟩ := r
    cases r2 with
    | cons ra rb =>
      rename_i d' ds' as' bs'
      simp only [List.mem_append, not_or] at p1
      simp only [PyData.showableAll, Bool.and_eq_true] at p2
      simp only [PyData.depthAll] at p3
      obtain ⟨ds2, bs2, r3, o1, o2, o3, o4⟩ := Things.snoc t hk (tv := tv) (xs := PyData.shownAll ds') ⟨ds', bs', rb, p1.2, p2.2, by omega, rfl⟩
      refine ⟨d' :: ds2, as' ++ bs2, .cons ra r3, by simp [p1.1, o1], by simp [PyData.showableAll, p2.1, o2], by simp only [PyData.depthAll]; omega, ?_⟩
      rw [← p4]
      simp only [PyData.shownAll, o4, List.cons_append]
theorem PR.things {h : Heap} : ∀ {ps : List Value} {vx : List (Value × PySem.Str)}, PR h ps vx → Things h (vx.map (·.1)) (vx.map (·.2))
  | [], [], _ => Things.nil
  | _ :: _, (_, _) :: _, ⟨_, t, r⟩ => Things.cons t (by decide) (PR.things r)
  | [], _ :: _, x => x.elim
  | _ :: _, [], x => x.elim
theorem PR.each {h : Heap} : ∀ {ps : List Value} {vx : List (Value × PySem.Str)}, PR h ps vx → ∀ x ∈ vx.map (·.2), Fine x ∧ x.length ≤ 100
  | [], [], _, _, hx => by simp at hx
  | _ :: _, (_, _) :: _, ⟨_, t, r⟩, x, hx => by
    rcases List.mem_cons.mp hx with rfl | hx
    · exact ⟨t.fine, t.len⟩
    · exact PR.each r x hx
  | [], _ :: _, x, _, _ => x.elim
  | _ :: _, [], x, _, _ => x.elim
theorem join_ok : ∀ {xs : List PySem.Str}, (∀ x ∈ xs, Fine x ∧ x.length ≤ 100) → Fine (PySem.Str.join (PySem.Str.ofString ", ") xs) ∧ (PySem.Str.join (PySem.Str.ofString ", ") xs).length ≤ 102 * xs.length
  | [], _ => ⟨fun c hc => by simp [PySem.Str.join, PySem.Str.empty, cl] at hc, by decide⟩
  | [x], h => by
    have := h x (.head _)
    exact ⟨this.1, by show x.length ≤ 102 * 1; omega⟩
  | x :: y :: r, h => by
    have h1 := h x (.head _)
    obtain ⟨a, b⟩ := join_ok (xs := y :: r) fun z hz => h z (.tail _ hz)
    have e : PySem.Str.join (PySem.Str.ofString ", ") (x :: y :: r) = x ++ PySem.Str.ofString ", " ++ PySem.Str.join (PySem.Str.ofString ", ") (y :: r) := rfl
    rw [e]
    refine ⟨(h1.1.append (by unfold Fine; rw [cl_ofs]; decide)).append a, ?_⟩
    simp only [PySem.Str.length_append, lens, List.length_cons] at b ⊢
    omega
theorem full_ok {xs : List PySem.Str} (h : ∀ x ∈ xs, Fine x ∧ x.length ≤ 100) (hn : xs.length ≤ 8) : Fine (fullOf xs) ∧ (fullOf xs).length ≤ 1000 ∧ 1 ≤ (fullOf xs).length := by
  obtain ⟨a, b⟩ := join_ok h
  unfold fullOf
  refine ⟨((by unfold Fine; rw [cl_ofs]; decide : Fine (PySem.Str.ofString "[")).append a).append (by unfold Fine; rw [cl_ofs]; decide), ?_, ?_⟩ <;> simp only [PySem.Str.length_append, lens] <;> omega
theorem Things.shows {h : Heap} {T : Addr} {tv : List Value} {k : Nat} {xs : List PySem.Str} (t : Things h tv xs) (hT : h.get? T = some (lstE tv k)) (hs : T ≠ sysModules) (hl : (fullOf xs).length ≤ 1000) : Shows h (.ref T) (fullOf xs) := by
  obtain ⟨ds, as, r, q1, q2, q3, q4⟩ := t
  refine ⟨⟨T, rfl⟩, ⟨.list ds, T :: as, .list hT rfl rfl (by simpa using r), by simp [q1, hs.symm], by simpa [PyData.showable] using q2, by simp only [PyData.depth]; omega, ?_⟩, by omega⟩
  simp only [PyData.shown, listText_eq_join, q4]
  rfl
/-- what the law's later statements know: the list and its writing -/
structure LC (env : Env) (h : Heap) (xs : List PySem.Str) (tv : List Value) (T N : Addr) : Prop where
  each : ∀ x ∈ xs, Fine x ∧ x.length ≤ 100
  n7 : xs.length ≤ 7
  pos : 0 < xs.length
  h70 : h.get? 70 = none
  sys : ∃ o, h.get? sysModules = some o
  thT : ∃ k, h.get? T = some (lstE tv k)
  tl : tv.length ≤ 7
  things : Things h tv xs
  full : ∃ c o t, env.cells.lookup (PySem.Str.ofString "full") = some c ∧ h.get? c = some o ∧ o.data = .cell (some (.str (fullOf xs) t))
  size : ∃ c o t, env.cells.lookup (PySem.Str.ofString "size") = some c ∧ h.get? c = some o ∧ o.data = .cell (some (.int (fullOf xs).length t))
  nums : ∃ ns k, h.get? N = some (lstE ns k) ∧ (∀ v ∈ ns, IntV v) ∧ ns.length ≤ 6
abbrev tabO (ps : Array Value) : PySem.Obj := { cls := .none, data := .fields ps }
section
variable {w : World} {s₀ s : Shared} {A : Around} {E : Value → Shared → Prop} {Q : Flow → Shared → Prop} {env : Env} {m : PySem.Str → Option Value} {d u : Nat}
set_option maxHeartbeats 4000000 in
theorem law_5 (e : EnvOk env (kindIn 102)) (eF : EnvF env 102) (a : AOk A d u) {PL T N cF cS : Addr} {oF oS : PySem.Obj} {tp : Array Value} {ps : List Value} {kP kT : Nat} {vx : List (Value × PySem.Str)} {vF vS : Option Value}
    (f : Fm w s₀ env.locals m ((T, lstE (vx.map (·.1)) kT) :: (PL, lstE ps kP) :: (cF, oF) :: (cS, oS) :: (70, tabO tp) :: []) s) (hPR : PR s₀.heap ps vx) (hl : ps.length ≤ 7) (hl0 : 0 < ps.length) (hmP : m (PySem.Str.ofString "pairs") = some (.ref PL))
    (hTd : ∀ p ∈ (PL, lstE ps kP) :: (cF, oF) :: (cS, oS) :: (70, tabO tp) :: [], p.1 ≠ T) (hPd : ∀ p ∈ (cF, oF) :: (cS, oS) :: (70, tabO tp) :: [], p.1 ≠ PL) (hFS : cF ≠ cS) (hF7 : cF ≠ 70) (hS7 : cS ≠ 70)
    (hcF : env.cells.lookup (PySem.Str.ofString "full") = some cF) (hcS : env.cells.lookup (PySem.Str.ofString "size") = some cS) (hdF : oF.data = .cell vF) (hdS : oS.data = .cell vS)
    (h70 : s₀.heap.get? 70 = none) (hsys : ∃ o, s₀.heap.get? sysModules = some o) (hN : ∃ ns k, s₀.heap.get? N = some (lstE ns k) ∧ (∀ v ∈ ns, IntV v) ∧ ns.length ≤ 6)
    (next : ∀ s' s₀', Fm w s₀' env.locals m [(70, tabO tp)] s' → LC env s₀'.heap (vx.map (·.2)) (vx.map (·.1)) T N → (∀ b o, s₀.heap.get? b = some o → s₀'.heap.get? b = some o) → s₀'.gens = s₀.gens → s₀'.os = s₀.os → wpAny (Mo w) A (execs (lawT 7) env) Q E s') : wpAny (Mo w) A (execs (lawT 5) env) Q E s := by
  have hpl := hPR.length
  have hok := full_ok hPR.each (by rw [List.length_map]; omega)
  obtain ⟨hjf, hjl⟩ := join_ok hPR.each
  rw [List.length_map] at hjl
  show wpAny _ _ (execs (_ :: _ :: lawT 7) env) _ _ _
  repeat walk_at "st"
  (with_reducible rename Fm _ _ _ _ _ _ => fF)
  rename_i sb _
  refine o_comp (sb := _) e (fun pv y => ∃ q v x tx, pv = Value.ref q ∧ s₀.heap.get? q = some (tupO [v, .str x tx]) ∧ y = .str x tx) (acl_none (by rfl)) (by rfl) rfl (by kernel_rfl) (by kernel_rfl) fF.amb ?_ (by intro _; with_unfolding_all rfl)
  refine r_local (by assumption) fF hmP ?_ (by kernel_rfl) (by decide +kernel)
  refine o_iter_lst (fF.get (.tail _ (.head _))) ?_
  intro s7 it7 g7 hi7 hni7
  have hlt : PL ≠ it7 := fF.new_ne hni7 (PL, _) (.tail _ (.head _))
  have ht7 := g7.kp _ _ (fF.get (.tail _ (.head _)))
  refine ⟨it7, _, _, _, _, rfl, Walks.list a.handled it7 PL hlt ps.toArray, by rw [List.size_toArray]; omega, ⟨⟨_, hi7, rfl, rfl⟩, ⟨_, ht7, rfl, kP, rfl⟩⟩, ?_, hni7, g7, ?_, ?_⟩
  · intro b hb
    simp only [List.mem_cons, List.not_mem_nil, or_false] at hb
    rcases hb with rfl | rfl
    · exact Heap.lt_size hi7
    · exact Heap.lt_size ht7
  · intro C i v s8 m8 E' Q' hP hm8 e8 f8 hq
    obtain ⟨q, v0, x0, tx0, rfl, hg⟩ := hPR.at i v (by simpa using hP)
    have gg : Grow s8 s8 := Grow.refl _
    have hg' := fF.keep _ _ hg
    clear fF
    refine Subscript_ ?_
    refine r_local e8 (show Fm w _ (compEnvC _ _ C env).locals _ _ _ from f8) hm8 ?_ (by kernel_rfl) (by decide +kernel)
    repeat walk_at "st"
    (with_reducible rename Fm _ _ _ _ _ _ => f9)
    refine o_item_tup (f9.keep _ _ hg') (j := 1) rfl (by decide) rfl ?_
    exact hq _ _ ⟨q, v0, x0, tx0, rfl, hg, rfl⟩ (by assumption)
  · intro D s8 ys vs k8 hvl hvP hpr g8 hD hnD
    have hvs : vs = ps := by
      refine List.ext_getElem? fun j => ?_
      cases hq : vs[j]? with
      | some v => have := hvP j v hq; simpa using this.symm
      | none =>
        have : vs.length ≤ j := by simpa using hq
        rw [hvl, List.size_toArray] at this
        rw [List.getElem?_eq_none this]
    subst hvs
    obtain ⟨l, rfl, hlm⟩ := hPR.snd hpr
    have hL : s8.heap.IsList D (strValues l).toArray := ⟨_, hD, rfl, k8, rfl⟩
    have f8 := fF.grow g8
    clear fF g7 g8 hi7 hni7 ht7 hD hnD
    repeat walk_at "st"
    refine o_join hL hlm (by rw [List.length_map]; omega) (fun p hp => by have := hPR.each p hp; omega) (by decide) ?_
    walk_at "gr"
    clear hL
    repeat walk_at "st"
    (with_reducible rename Fm _ _ _ _ _ _ => f)
    have f := f.sub (news' := (cF, oF) :: (T, lstE (vx.map (·.1)) kT) :: (PL, lstE vs kP) :: (cS, oS) :: (70, tabO tp) :: []) (fun p hp => by
      simp only [List.mem_cons, List.not_mem_nil, or_false] at hp
      rcases hp with rfl | rfl | rfl | rfl | rfl <;> walk_at "mem")
    refine r_storeC e f hcF hdF (fun p hp => by
      simp only [List.mem_cons, List.not_mem_nil, or_false] at hp
      rcases hp with rfl | rfl | rfl | rfl
      · exact (hTd (cF, oF) (by walk_at "mem")).symm
      · exact (hPd (cF, oF) (by walk_at "mem")).symm
      · exact hFS.symm
      · exact hF7.symm) ?_ (by kernel_rfl)
    clear f
    intro s9 oF' hdF' f
    repeat walk_at "st"
    refine r_cell e hcF (f.get (by walk_at "mem")) hdF' ?_ (by kernel_rfl) (by decide +kernel)
    refine args_nil ?_
    refine o_len_str (by rw [sizeLine_val]; have := hok.2.1; unfold fullOf at this; omega) ?_
    walk_at "gr"
    (with_reducible rename Fm _ _ _ _ _ _ => f)
    have f := f.sub (news' := (cS, oS) :: (cF, oF') :: (T, lstE (vx.map (·.1)) kT) :: (PL, lstE vs kP) :: (70, tabO tp) :: []) (fun p hp => by
      simp only [List.mem_cons, List.not_mem_nil, or_false] at hp
      rcases hp with rfl | rfl | rfl | rfl | rfl <;> walk_at "mem")
    refine r_storeC e f hcS hdS (fun p hp => by
      simp only [List.mem_cons, List.not_mem_nil, or_false] at hp
      rcases hp with rfl | rfl | rfl | rfl
      · exact hFS
      · exact (hTd (cS, oS) (by walk_at "mem")).symm
      · exact (hPd (cS, oS) (by walk_at "mem")).symm
      · exact hS7.symm) ?_ (by kernel_rfl)
    clear f
    intro s10 oS' hdS' f
    have f' : Fm w s₀ env.locals m (((cS, oS') :: (cF, oF') :: (T, lstE (vx.map (·.1)) kT) :: (PL, lstE vs kP) :: []) ++ [(70, tabO tp)]) s10 := f
    have hb := f'.promote_keeps h70
    have hne : ∀ {b : Addr}, b ≠ 70 → ∀ p ∈ [((70 : Addr), tabO tp)], p.1 ≠ b := fun hb p hp => by rw [List.mem_singleton] at hp; subst hp; exact hb.symm
    have hT7 : T ≠ 70 := (hTd (70, tabO tp) (by walk_at "mem")).symm
    refine next _ _ f'.promote ⟨hPR.each, by rw [List.length_map]; omega, by rw [List.length_map]; omega, base70, let ⟨o, q⟩ := hsys; ⟨o, hb _ _ q⟩, ⟨kT, f'.promote_get (by walk_at "mem") hT7 (hne hT7)⟩, by rw [List.length_map]; omega, (hPR.keeps hb).things,
      ⟨cF, oF', _, hcF, f'.promote_get (by walk_at "mem") hF7 (hne hF7), hdF'⟩, ⟨cS, oS', _, hcS, f'.promote_get (by walk_at "mem") hS7 (hne hS7), hdS'⟩, let ⟨ns, k, q, r⟩ := hN; ⟨ns, k, hb _ _ q, r⟩⟩ hb f.out.gens f.out.os
end
local macro_rules | `(tactic| walk_at "st") => `(tactic| first
  | with_reducible refine r_cell (by assumption) (by assumption) (Fm.keep (by assumption) _ _ (by assumption)) (by assumption) ?_ (by kernel_rfl) (by decide +kernel))
local macro_rules | `(tactic| walk_at "mem") => `(tactic| first | assumption | exact List.Mem.head _ | (refine List.Mem.tail _ ?_; walk_at "mem"))
section
variable {w : World} {s₀ s : Shared} {A : Around} {E : Value → Shared → Prop} {Q : Flow → Shared → Prop} {env : Env} {m : PySem.Str → Option Value} {d u : Nat} {xs : List PySem.Str} {tv : List Value} {T N : Addr} {news : List (Addr × PySem.Obj)}
theorem LC.ok {env : Env} {h : Heap} (c : LC env h xs tv T N) : Fine (fullOf xs) ∧ (fullOf xs).length ≤ 1000 ∧ 1 ≤ (fullOf xs).length := full_ok c.each (by have := c.n7; omega)
theorem LC.shows {env : Env} {h : Heap} (c : LC env h xs tv T N) (hT : T ≠ sysModules) : Shows h (.ref T) (fullOf xs) := let ⟨_, q⟩ := c.thT; c.things.shows q hT c.ok.2.1
set_option maxHeartbeats 2000000 in
theorem law_7 (e : EnvOk env (kindIn 102)) (eF : EnvF env 102) (a : AOk A d u) (hd : d < 700) (hu : u ≤ 6000) (c : LC env s₀.heap xs tv T N) (hT : T ≠ sysModules) (hmT : m (PySem.Str.ofString "things") = some (.ref T)) (f : Fm w s₀ env.locals m news s)
    (next : ∀ s' t, Fm w s₀ env.locals (upd m (PySem.Str.ofString "brief") (.str (briefOf (fullOf xs)) t)) news s' → wpAny (Mo w) A (execs (lawT 9) env) Q E s') : wpAny (Mo w) A (execs (lawT 7) env) Q E s := by
  have hsh := c.shows hT
  obtain ⟨hfine, hl1, hl2⟩ := c.ok
  obtain ⟨cF, oF, tF, hcF, hoF, hdF⟩ := c.full
  obtain ⟨cS, oS, tS, hcS, hoS, hdS⟩ := c.size
  generalize fullOf xs = x at *
  have hbl := brief_len x
  have hbl2 : (briefOf x).length ≤ 1000 := by rw [hbl]; split <;> omega
  show wpAny _ _ (execs (_ :: _ :: lawT 9) env) _ _ _
  repeat walk_at "st"
  refine o_def (Fm.amb (by assumption)) (by kernel_rfl) ?_
  repeat walk_at "st"
  (with_reducible rename Fm _ _ _ _ _ _ => fF)
  refine ⟨fF.amb.k, c_safe2 fF.amb a (by omega) (by omega) (hsh.keeps fF.keep) ?_⟩
  walk_at "gr"
  repeat walk_at "st"
  refine o_def (Fm.amb (by assumption)) (by kernel_rfl) ?_
  repeat walk_at "st"
  (with_reducible rename Fm _ _ _ _ _ _ => fF)
  refine ⟨fF.amb.k, c_safe fF.amb a (by omega) (by omega) (hsh.keeps fF.keep) ?_⟩
  walk_at "gr"
  repeat walk_at "st"
  refine iteF (by simp) ?_
  repeat walk_at "st"
  split
  · rename_i hc
    have hc := of_decide_eq_true hc
    repeat walk_at "st"
    have e1 : ((briefOf x).length : Int) = x.length := by rw [hbl]; exact congrArg Int.ofNat (if_pos (by omega))
    rw [e1]
    refine iteF (by simp) ?_
    repeat walk_at "st"
    exact next _ _ (by assumption)
  · rename_i hc
    have hc : ¬ (x.length : Int) < 80 := fun q => hc (decide_eq_true q)
    repeat walk_at "st"
    have e1 : ((briefOf x).length : Int) = 95 := by rw [hbl]; exact congrArg Int.ofNat (if_neg (by omega))
    rw [e1]
    refine iteF (by decide) ?_
    repeat walk_at "st"
    exact next _ _ (by assumption)
section
variable {Q : Value → Shared → Prop} {a b : Addr} {l l' : List (PySem.Str × Tok)}
theorem eq_strs {A : Around} {s : Shared} (he : l.map (·.1) = l'.map (·.1)) : ∀ j (h1 : j < (strValues l).toArray.size) (h2 : j < (strValues l').toArray.size), SeqAt.EqAt A s (strValues l).toArray[j] (strValues l').toArray[j] ((fun _ => true) j) := by
  intro j h1 h2
  simp only [List.size_toArray, strValues, List.length_map] at h1 h2
  have e1 : (strValues l).toArray[j]'(by simpa [strValues] using h1) = .str l[j].1 l[j].2 := by simp [strValues]
  have e2 : (strValues l').toArray[j]'(by simpa [strValues] using h2) = .str l'[j].1 l'[j].2 := by simp [strValues]
  have e3 : l[j].1 = l'[j].1 := by
    have := congrArg (fun z => z[j]?) he
    simpa [h1, h2] using this
  rw [e1, e2, e3]
  have := (eqGives_str l'[j].1 l'[j].1 l[j].2 l'[j].2).at A s
  simpa using this
theorem len_strs (he : l.map (·.1) = l'.map (·.1)) : (strValues l).toArray.size = (strValues l').toArray.size := by
  have := congrArg List.length he
  simpa [strValues] using this
theorem all_true (n : Nat) : (List.range n).all (fun _ => true) = true := by rw [List.all_eq_true]; intro _ _; rfl
theorem o_ne_lst (ao : AOk A d u) (hu : u ≤ 9000) (ha : s.heap.IsList a (strValues l).toArray) (hb : s.heap.IsList b (strValues l').toArray) (he : l.map (·.1) = l'.map (·.1)) (h : Q (.bool false) s) : wpAny (Mo w) A (compareOp .NotEq (.ref a) (.ref b)) Q E s :=
  SeqAt.RcNeAt.lists (e := fun _ => true) ha hb (len_strs he) (by have := ao.units; show _ < 9900; omega) (eq_strs he) _ w E Q (by rw [all_true]; exact h)
theorem o_eq_lst (ao : AOk A d u) (hu : u ≤ 9000) (ha : s.heap.IsList a (strValues l).toArray) (hb : s.heap.IsList b (strValues l').toArray) (he : l.map (·.1) = l'.map (·.1)) (h : Q (.bool true) s) : wpAny (Mo w) A (compareOp .Eq (.ref a) (.ref b)) Q E s :=
  SeqAt.eq_listAt (e := fun _ => true) ha hb (len_strs he) (by have := ao.units; show _ < 9900; omega) (eq_strs he) (by rw [all_true]; exact h)
theorem o_ne_tup (ao : AOk A d u) (hu : u ≤ 9000) (ha : s.heap.get? a = some (tupO (strValues l))) (hb : s.heap.get? b = some (tupO (strValues l'))) (he : l.map (·.1) = l'.map (·.1)) (h : Q (.bool false) s) : wpAny (Mo w) A (compareOp .NotEq (.ref a) (.ref b)) Q E s :=
  SeqAt.RcNeAt.tuples (e := fun _ => true) ⟨_, ha, rfl, 0, rfl⟩ ⟨_, hb, rfl, 0, rfl⟩ (by have := ao.units; show _ < 9900; omega) (eq_strs he) _ w E Q (by rw [all_true, len_strs he]; simpa using h)
end
end
section
variable {w : World} {s₀ s : Shared} {A : Around} {E : Value → Shared → Prop} {Q : Flow → Shared → Prop} {env : Env} {m : PySem.Str → Option Value} {d u : Nat} {xs : List PySem.Str} {tv : List Value} {T N : Addr} {news : List (Addr × PySem.Obj)}
theorem lst_is {h : Heap} {a : Addr} {l : List (PySem.Str × Tok)} (ha : h.get? a = some (lstO (strValues l))) : h.IsList a (strValues l).toArray := ⟨_, ha, rfl, 0, rfl⟩
theorem isL_keeps {h h' : Heap} {a : Addr} {vs : Array Value} (x : h.IsList a vs) (k : ∀ b o, h.get? b = some o → h'.get? b = some o) : h'.IsList a vs := let ⟨o, h1, h2⟩ := x; ⟨o, k _ _ h1, h2⟩
set_option maxHeartbeats 2000000 in
theorem law_9 (e : EnvOk env (kindIn 102)) (eF : EnvF env 102) (a : AOk A d u) (hd : d < 700) (hu : u ≤ 6000) (c : LC env s₀.heap xs tv T N) {tB : Tok} (hmB : m (PySem.Str.ofString "brief") = some (.str (briefOf (fullOf xs)) tB)) (f : Fm w s₀ env.locals m news s)
    (next : ∀ s', Fm w s₀ env.locals m news s' → wpAny (Mo w) A (execs (lawT 11) env) Q E s') : wpAny (Mo w) A (execs (lawT 9) env) Q E s := by
  obtain ⟨hfine, hl1, hl2⟩ := c.ok
  obtain ⟨cF, oF, tF, hcF, hoF, hdF⟩ := c.full
  obtain ⟨cS, oS, tS, hcS, hoS, hdS⟩ := c.size
  generalize fullOf xs = x at *
  have hbl := brief_len x
  have hbl2 : (briefOf x).length ≤ 1000 := by rw [hbl]; split <;> omega
  have hsp := brief_split hfine
  have hrp := brief_repl hfine
  have fin : ∀ s', Fm w s₀ env.locals m news s' → wpAny (Mo w) A (execs (lawT 10) env) Q E s' := by
    clear f
    intro s' f
    show wpAny _ _ (execs (_ :: lawT 11) env) _ _ _
    repeat walk_at "st"
    refine o_def (Fm.amb (by assumption)) (by kernel_rfl) ?_
    repeat walk_at "st"
    refine o_slice_sn (by decide) (by walk_at "sz") ?_; walk_at "gr"
    repeat walk_at "st"
    (with_reducible rename Fm _ _ _ _ _ _ => fF)
    refine ⟨fF.amb.k, c_replace fF.amb a (by omega) (by omega) (by decide) (by rw [length_dr]; omega) (by rw [hsp]; split <;> simp) (by
      rw [hsp]; intro p hp
      split at hp
      · simp only [List.mem_singleton] at hp; subst hp; omega
      · simp only [List.mem_cons, List.not_mem_nil, or_false] at hp
        rcases hp with rfl | rfl
        · rw [length_tk]; omega
        · decide) ?_⟩
    have e80 : (80 : Int).toNat = 80 := rfl
    rw [e80, hrp]
    walk_at "gr"
    repeat walk_at "st"
    refine iteF (by simp) ?_
    repeat walk_at "st"
    exact next _ (by assumption)
  show wpAny _ _ (execs (_ :: lawT 10) env) _ _ _
  repeat walk_at "st"
  refine o_split (by decide) (by omega) ?_
  rw [hsp]
  intro s2 a2 l2 g hl hL
  (with_reducible rename Fm _ _ _ _ _ _ => fF); replace fF := Fm.grow fF g; clear g
  have gg : Grow s2 s2 := Grow.refl _
  repeat walk_at "st"
  split
  · rename_i hc
    have hc := of_decide_eq_true hc
    rw [if_pos (by omega)] at hl
    repeat walk_at "st"
    (with_reducible rename Fm _ _ _ _ _ _ => fF)
    (with_reducible rename Grow _ _ => gG)
    refine o_ne_lst (l' := [(x, tF)]) a (by omega) (isL_keeps hL gG.kp) (lst_is (fF.get (.head _))) hl ?_
    replace fF := fF.sub (news' := news) (fun p hp => .tail _ hp)
    repeat walk_at "st"
    exact fin _ (by assumption)
  · rename_i hc
    have hc : ¬ (x.length : Int) < 80 := fun q => hc (decide_eq_true q)
    rw [if_neg (by omega)] at hl
    repeat walk_at "st"
    refine o_slice_ns (by decide) (by walk_at "sz") ?_; walk_at "gr"
    repeat walk_at "st"
    (with_reducible rename Fm _ _ _ _ _ _ => fF)
    (with_reducible rename Grow _ _ => gG)
    refine o_ne_lst (l' := [(tk x 80, _), (PySem.Str.ofString "", _)]) a (by omega) (isL_keeps hL gG.kp) (lst_is (fF.get (.head _))) hl ?_
    replace fF := fF.sub (news' := news) (fun p hp => .tail _ hp)
    repeat walk_at "st"
    exact fin _ (by assumption)
end
theorem closure_filter {env : Env} {scope : Scope} {l : List (PySem.Str × NameKind)} (hn : scope.names.filter (fun p => p.2 == .free) = l) : closureFor scope env = (forIn l ([] : List (PySem.Str × Addr)) fun x r => (do let c ← cellOf env x.1; pure (ForInStep.yield ((x.1, c) :: r)) : Sem (ForInStep (List (PySem.Str × Addr))))) := by
  have key : ∀ (names : List (PySem.Str × NameKind)) (acc : List (PySem.Str × Addr)), (forIn names acc fun x r => (if (x.2 == NameKind.free) = true then do let c ← cellOf env x.1; pure (ForInStep.yield ((x.1, c) :: r)) else pure (ForInStep.yield r) : Sem (ForInStep (List (PySem.Str × Addr))))) =
      (forIn (names.filter fun p => p.2 == .free) acc fun x r => (do let c ← cellOf env x.1; pure (ForInStep.yield ((x.1, c) :: r)) : Sem (ForInStep (List (PySem.Str × Addr))))) := by
    intro names
    induction names with
    | nil => intro acc; rfl
    | cons p r ih =>
      intro acc
      rw [List.forIn_cons, List.filter_cons]
      cases hp : p.2 == NameKind.free with
      | true =>
        simp only [if_true, List.forIn_cons]
        simp only [bind_assoc, pure_bind]
        congr 1
        funext c
        exact ih _
      | false =>
        simp only [Bool.false_eq_true, if_false, pure_bind]
        exact ih _
  unfold closureFor
  have := key scope.names []
  rw [hn] at this
  show ((forIn scope.names ([] : List (PySem.Str × Addr)) fun x r => (if (x.2 == NameKind.free) = true then do let c ← cellOf env x.1; pure (ForInStep.yield ((x.1, c) :: r)) else pure (ForInStep.yield r) : Sem (ForInStep (List (PySem.Str × Addr))))) >>= fun cs => pure cs) = _
  rw [this, bind_pure]
theorem closure_one {env : Env} {scope : Scope} {x : PySem.Str} {a : Addr} (hn : scope.names.filter (fun p => p.2 == .free) = [(x, .free)]) (hx : env.cells.lookup x = some a) : closureFor scope env = pure [(x, a)] := by
  rw [closure_filter hn]
  have hxo : cellOf env x = pure a := by unfold cellOf; rw [hx]
  simp only [List.forIn_cons, List.forIn_nil, hxo, pure_bind]
/-- a width -/
def WidV (n : Nat) (v : Value) : Prop := ∃ k t, v = Value.int k t ∧ k ≤ n + 10 ∧ -20 ≤ k
section
variable {w : World} {s₀ s : Shared} {A : Around} {E : Value → Shared → Prop} {Q : Flow → Shared → Prop} {env : Env} {m : PySem.Str → Option Value} {d u : Nat} {xs : List PySem.Str} {tv : List Value} {T N : Addr} {news : List (Addr × PySem.Obj)}
theorem paired_all {F : Value → Value → Prop} {P : Value → Prop} (h : ∀ v y, F v y → P y) : ∀ {vs ys : List Value}, Paired F vs ys → (∀ y ∈ ys, P y) ∧ ys.length = vs.length := fun p => by
  induction p with
  | nil => exact ⟨fun _ h => (nomatch h), rfl⟩
  | cons hF _ ih => exact ⟨fun y hy => by
      rcases List.mem_cons.mp hy with rfl | hy
      · exact h _ _ hF
      · exact ih.1 y hy, by rw [List.length_cons, List.length_cons, ih.2]⟩
set_option maxHeartbeats 2000000 in
theorem law_11 (e : EnvOk env (kindIn 102)) (eF : EnvF env 102) (a : AOk A d u) (c : LC env s₀.heap xs tv T N) (hmN : m (PySem.Str.ofString "numbers") = some (.ref N)) (f : Fm w s₀ env.locals m news s)
    (next : ∀ s' W ws kW, Fm w s₀ env.locals (upd m (PySem.Str.ofString "widths") (.ref W)) ((W, lstE ws kW) :: news) s' → (∀ v ∈ ws, WidV (fullOf xs).length v) → ws.length ≤ 6 → (∀ p ∈ news, p.1 ≠ W) → wpAny (Mo w) A (execs (lawT 12) env) Q E s') : wpAny (Mo w) A (execs (lawT 11) env) Q E s := by
  obtain ⟨hfine, hl1, hl2⟩ := c.ok
  obtain ⟨cS, oS, tS, hcS, hoS, hdS⟩ := c.size
  obtain ⟨ns, kN, hN, hns, hn6⟩ := c.nums
  generalize fullOf xs = x at *
  show wpAny _ _ (execs (_ :: lawT 12) env) _ _ _
  walk_at "st"
  refine o_acomp (s₀ := s₀) e (block_fn e) (by kernel_rfl) (by rfl) (by rfl) (fun v y => IntV v → WidV x.length y) (closure_one (by rfl) hcS) (by rfl) rfl (by kernel_rfl) (by kernel_rfl) ?_ (by intro _; with_unfolding_all rfl)
  refine r_local e f hmN ?_ (by kernel_rfl) (by decide +kernel)
  refine o_iter_lst (f.keep _ _ hN) ?_
  intro s5 it g hi hni
  have hne := f.new_ne hni
  have hPi : N ≠ it := fun q => by rw [← q, f.keep _ _ hN] at hni; cases hni
  have f5 := f.new g hi hni
  refine ⟨it, _, _, _, _, m, news, _, rfl, Walks.list a.handled it N hPi ns.toArray, by rw [List.size_toArray]; omega, ⟨⟨_, hi, rfl, rfl⟩, ⟨_, f5.keep _ _ hN, rfl, kN, rfl⟩⟩, ?_, f5, hne, ?_, ?_⟩
  · intro b hb
    simp only [List.mem_cons, List.not_mem_nil, or_false] at hb
    rcases hb with rfl | rfl
    · exact Heap.lt_size hi
    · exact Heap.lt_size (f5.keep _ _ hN)
  · intro C i v s8 m8 E' Q' hP hm8 e8 f8 hq
    obtain ⟨n, tn, rfl, hn0, hn1⟩ := hns v (List.mem_of_getElem? (by simpa using hP))
    have gg : Grow s8 s8 := Grow.refl _
    clear f f5
    have hc8 : ∀ sc, (compEnvC sc [(PySem.Str.ofString "size", cS)] C env).cells.lookup (PySem.Str.ofString "size") = some cS := fun sc => by simp [compEnvC]
    refine wpAny_BinOp (wpAny_BinOp ?_)
    refine r_local e8 (show Fm w _ (compEnvC _ _ C env).locals _ _ _ from f8) hm8 ?_ (by kernel_rfl) (by decide +kernel)
    refine wpAny_BinOp ?_
    refine r_cell e8 (hc8 _) (f8.keep _ _ hoS) hdS ?_ (by kernel_rfl) (by decide +kernel)
    repeat walk_at "st"
    refine o_mod (by omega) ?_; walk_at "gr"
    repeat walk_at "st"
    refine hq _ _ (fun _ => ⟨_, _, rfl, ?_, ?_⟩) (by assumption)
    · have := Int.fmod_eq_emod_of_nonneg n (b := (x.length : Int) + 8) (by omega)
      have := Int.emod_lt_of_pos n (b := (x.length : Int) + 8) (by omega)
      omega
    · have := Int.fmod_eq_emod_of_nonneg n (b := (x.length : Int) + 8) (by omega)
      have := Int.emod_nonneg n (b := (x.length : Int) + 8) (by omega)
      omega
  · intro D s8 ys vs k8 hvl hvP hpr f8 hnD
    have hvs : vs = ns := by
      refine List.ext_getElem? fun j => ?_
      cases hq : vs[j]? with
      | some v => have := hvP j v hq; simpa using this.symm
      | none =>
        have : vs.length ≤ j := by simpa using hq
        rw [hvl, List.size_toArray] at this
        rw [List.getElem?_eq_none this]
    subst hvs
    have hpr' : (∀ y ∈ ys, WidV x.length y) ∧ ys.length = vs.length := by
      clear f8 hvP hvl hN
      induction hpr with
      | nil => exact ⟨fun _ h => (nomatch h), rfl⟩
      | cons hF _ ih =>
        have ih := ih (fun v hv => hns v (.tail _ hv)) (by simp only [List.length_cons] at hn6; omega)
        exact ⟨fun y hy => by
          rcases List.mem_cons.mp hy with rfl | hy
          · exact hF (hns _ (.head _))
          · exact ih.1 y hy, by rw [List.length_cons, List.length_cons, ih.2]⟩
    exact next _ _ _ _ f8 hpr'.1 (by omega) hnD
end
section
variable {w : World} {s₀ s : Shared} {A : Around} {E : Value → Shared → Prop} {Q : Flow → Shared → Prop} {env : Env} {m : PySem.Str → Option Value} {d u : Nat} {xs : List PySem.Str} {tv : List Value} {T N : Addr} {news : List (Addr × PySem.Obj)}
theorem o_addl {Q : Value → Shared → Prop} {L l b : Addr} {vs ws : List Value} (f : Fm w s₀ L m news s) (hl : s.heap.IsList l vs.toArray) (hb : s.heap.IsList b ws.toArray) (hsz : vs.length + ws.length ≤ 1000)
    (h : ∀ s' D, Fm w s₀ L m ((D, lstO (vs ++ ws)) :: news) s' → s.heap.get? D = none → Q (.ref D) s') : wpAny (Mo w) A (binaryOp .Add (.ref l) (.ref b)) Q E s :=
  add_lists f.fr (news_others _ _) hl hb (fun h' F' N' => h _ _ (f.backN F' N' (size_none _) rfl) (size_none _)) (by rw [sizeLine_val]; omega)
noncomputable def turnB : { b : List PySem.Stmt // ∃ t i e p, (lawT 12).head? = some (.For t i b e p) } := ⟨_, _, _, _, _, rfl⟩
set_option maxHeartbeats 4000000 in
theorem law_turn (e : EnvOk env (kindIn 102)) (eF : EnvF env 102) (a : AOk A d u) (hd : d < 700) (hu : u ≤ 6000) (c : LC env s₀.heap xs tv T N) {k : Int} {tK : Tok} (hmT : m (PySem.Str.ofString "things") = some (.ref T)) (hmW : m (PySem.Str.ofString "width") = some (.int k tK)) (hk : k ≤ 2000) (f : Fm w s₀ env.locals m news s)
    (next : ∀ s' m', m' (PySem.Str.ofString "things") = some (.ref T) → Fm w s₀ env.locals m' news s' → Q .next s') : wpAny (Mo w) A (execs turnB.1 env) Q E s := by
  obtain ⟨hfine, hl1, hl2⟩ := c.ok
  obtain ⟨cF, oF, tF, hcF, hoF, hdF⟩ := c.full
  obtain ⟨cS, oS, tS, hcS, hoS, hdS⟩ := c.size
  generalize fullOf xs = x at *
  show wpAny _ _ (execs (_ :: _ :: []) env) _ _ _
  repeat walk_at "st"
  refine o_def (Fm.amb (by assumption)) (by kernel_rfl) ?_
  repeat walk_at "st"
  (with_reducible rename Fm _ _ _ _ _ _ => fF)
  refine ⟨fF.amb.k, c_cram fF.amb a (by omega) (by omega) (by omega) ?_⟩
  walk_at "gr"
  repeat walk_at "st"
  split
  · rename_i hc
    have hc : ¬ k < x.length := by have := of_decide_eq_true hc; omega
    repeat walk_at "st"
    rw [cram_no hc]
    refine iteF (by simp) ?_
    repeat walk_at "st"
    refine next _ _ ?_ (by assumption)
    walk_at "hv"
  · rename_i hc
    have hc : k < x.length := by
      have : ¬ (x.length : Int) ≤ k := fun q => hc (decide_eq_true q)
      omega
    obtain ⟨⟨h0, h0', hab, hbn⟩, hlen, hcl, hsp, hrp, hsl, hno, hyes⟩ := turn_facts hfine hl1 hc rfl rfl rfl
    repeat walk_at "st"
    refine o_slice_ssR (by walk_at "sz") ?_
    rw [slice_mid h0 hab hbn]
    walk_at "gr"
    repeat walk_at "st"
    refine o_split (by decide) (by omega) ?_
    rw [hsp]
    intro s2 a2 l2 g hl hL
    (with_reducible rename Fm _ _ _ _ _ _ => fF); replace fF := Fm.grow fF g; clear g
    have gg : Grow s2 s2 := Grow.refl _
    repeat walk_at "st"
    refine o_slice_ns h0 (by walk_at "sz") ?_; walk_at "gr"
    repeat walk_at "st"
    refine o_slice_sn (by omega) (by walk_at "sz") ?_; walk_at "gr"
    repeat walk_at "st"
    (with_reducible rename Fm _ _ _ _ _ _ => fF)
    (with_reducible rename Grow _ _ => gG)
    refine o_ne_lst (l' := [(_, _), (_, _)]) a (by omega) (isL_keeps hL gG.kp) (lst_is (fF.get (.head _))) hl ?_
    replace fF := fF.sub (news' := news) (fun p hp => .tail _ hp)
    clear gG hL hl
    repeat walk_at "st"
    refine o_def (Fm.amb (by assumption)) (by kernel_rfl) ?_
    repeat walk_at "st"
    (with_reducible rename Fm _ _ _ _ _ _ => fF)
    refine ⟨fF.amb.k, c_replace fF.amb a (by omega) (by omega) (by decide) (by omega) (by rw [hsp]; simp) (by
      rw [hsp]; intro p hp
      simp only [List.mem_cons, List.not_mem_nil, or_false] at hp
      rcases hp with rfl | rfl
      · rw [length_tk]; omega
      · rw [length_dr]; omega) ?_⟩
    rw [hrp]
    walk_at "gr"
    repeat walk_at "st"
    refine iteF (by simp) ?_
    repeat walk_at "st"
    refine o_def (Fm.amb (by assumption)) (by kernel_rfl) ?_
    repeat walk_at "st"
    (with_reducible rename Fm _ _ _ _ _ _ => fF)
    refine ⟨fF.amb.k, c_shorten fF.amb a (by omega) (by omega) h0 h0' ?_⟩
    walk_at "gr"
    repeat walk_at "st"
    refine o_def (Fm.amb (by assumption)) (by kernel_rfl) ?_
    repeat walk_at "st"
    repeat walk_at "st"
    (with_reducible rename Fm _ _ _ _ _ _ => fF)
    refine ⟨fF.amb.k, c_mark fF.amb a (by omega) (by omega) ?_⟩
    rw [hlen]
    walk_at "gr"
    repeat walk_at "st"
    rw [hlen]
    repeat walk_at "st"
    split
    · rename_i hc12
      have hc12 := of_decide_eq_true hc12
      repeat walk_at "st"
      rw [hno (by omega)]
      refine iteF (by simp) ?_
      repeat walk_at "st"
      refine next _ _ ?_ (by assumption)
      walk_at "hv"
    · rename_i hc12
      have hc12 : ¬ ((x.length : Int) - max 0 (k - 3)) ≤ 12 := fun q => hc12 (decide_eq_true q)
      obtain ⟨hsp2, hrp2, hrp3⟩ := hyes (by omega)
      repeat walk_at "st"
      refine o_def (Fm.amb (by assumption)) (by kernel_rfl) ?_
      repeat walk_at "st"
      (with_reducible rename Fm _ _ _ _ _ _ => fF)
      refine ⟨fF.amb.k, c_replace fF.amb a (by omega) (by omega) (mark_pos _) (by decide) (by rw [hsp2]; simp) (by
        rw [hsp2]; intro p hp
        simp only [List.mem_cons, List.not_mem_nil, or_false] at hp
        rcases hp with rfl | rfl
        · rw [length_tk]; omega
        · rw [length_dr]; omega) ?_⟩
      rw [hrp2]
      walk_at "gr"
      repeat walk_at "st"
      refine iteF (by simp) ?_
      repeat walk_at "st"
      refine o_def (Fm.amb (by assumption)) (by kernel_rfl) ?_
      repeat walk_at "st"
      (with_reducible rename Fm _ _ _ _ _ _ => fF)
      refine ⟨fF.amb.k, c_replace fF.amb a (by omega) (by omega) (mark_pos _) (by omega) (by rw [hsp2]; simp) (by
        rw [hsp2]; intro p hp
        simp only [List.mem_cons, List.not_mem_nil, or_false] at hp
        rcases hp with rfl | rfl
        · rw [length_tk]; omega
        · rw [length_dr]; omega) ?_⟩
      rw [hrp3]
      walk_at "gr"
      repeat walk_at "st"
      refine iteF (by simp) ?_
      repeat walk_at "st"
      refine next _ _ ?_ (by assumption)
      walk_at "hv"
end
section
variable {w : World} {s₀ s : Shared} {A : Around} {E : Value → Shared → Prop} {Q : Flow → Shared → Prop} {env : Env} {m : PySem.Str → Option Value} {d u : Nat} {xs : List PySem.Str} {tv : List Value} {T N : Addr} {news : List (Addr × PySem.Obj)}
set_option maxHeartbeats 4000000 in
theorem law_12 (e : EnvOk env (kindIn 102)) (eF : EnvF env 102) (a : AOk A d u) (hd : d < 700) (hu : u ≤ 6000) (c : LC env s₀.heap xs tv T N) (hmT : m (PySem.Str.ofString "things") = some (.ref T)) {W : Addr} {ws : List Value} {kW : Nat} (hmW : m (PySem.Str.ofString "widths") = some (.ref W)) (f : Fm w s₀ env.locals m ((W, lstE ws kW) :: news) s)
    (hws : ∀ v ∈ ws, WidV (fullOf xs).length v) (hw6 : ws.length ≤ 6)
    (next : ∀ s' m', m' (PySem.Str.ofString "things") = some (.ref T) → Fm w s₀ env.locals m' news s' → wpAny (Mo w) A (execs (lawT 13) env) Q E s') : wpAny (Mo w) A (execs (lawT 12) env) Q E s := by
  have hx1 := c.ok.2.1
  obtain ⟨cS, oS, tS, hcS, hoS, hdS⟩ := c.size
  show wpAny _ _ (execs (_ :: lawT 13) env) _ _ _
  walk_at "st"
  refine wpAny_For ?_ (by intro _; with_unfolding_all rfl)
  repeat walk_at "st"
  (with_reducible rename Fm _ _ _ _ _ _ => fF)
  refine o_addl fF ⟨_, fF.get (by walk_at "mem"), rfl, kW, rfl⟩ ⟨_, fF.get (List.Mem.head _), rfl, 0, rfl⟩ (by simp only [List.length_cons, List.length_nil]; omega) ?_
  clear fF
  intro s4 D f4 hnD
  generalize hit : (ws ++ _ : List Value) = items at f4
  have hitems : ∀ v ∈ items, ∃ k t, v = Value.int k t ∧ k ≤ 2000 := by
    intro v hv
    rw [← hit, List.mem_append] at hv
    rcases hv with hv | hv
    · obtain ⟨k, t, h1, h2, h3⟩ := hws v hv
      exact ⟨k, t, h1, by omega⟩
    · simp only [List.mem_cons, List.not_mem_nil, or_false] at hv
      rcases hv with rfl | rfl | rfl | rfl | rfl | rfl | rfl <;> exact ⟨_, _, rfl, by omega⟩
  replace f4 := f4.sub (news' := (D, lstE items 0) :: news) (fun p hp => by
    rcases List.mem_cons.mp hp with rfl | hp
    · exact .head _
    · exact .tail _ (.tail _ (.tail _ hp)))
  refine o_iter_lst (f4.get (.head _)) ?_
  intro s5 it g hi hni
  have hne : ∀ p ∈ (D, lstE items 0) :: news, p.1 ≠ it := f4.new_ne hni
  have hDi : D ≠ it := hne (D, _) (.head _)
  have f5 := f4.new g hi hni
  clear f4 hi hni g
  refine codeAny_forLoop_any (fun n s' => ∃ i m oi, n = items.length + 1 - i ∧ i ≤ items.length ∧ Fm w s₀ env.locals m ((it, oi) :: (D, lstE items 0) :: news) s' ∧ m (PySem.Str.ofString "things") = some (.ref T) ∧ oi.cls = .type "list_iterator" ∧ oi.data = .fields #[.ref D, .int i 0]) ?_ (items.length + 1)
    ⟨0, _, _, rfl, Nat.zero_le _, f5, by walk_at "hv", rfl, rfl⟩
  clear f5
  rintro n s' ⟨i, m1, oi, rfl, hik, f, hm1, hc, hd'⟩
  refine o_next_lst a f hne (f.get (.tail _ (.head _))) hDi hc hd' ?_ ?_
  · intro v s6 oi' hv hc' hd'' f6 _
    obtain ⟨k, tk, rfl, hk⟩ := hitems v (List.mem_of_getElem? hv)
    have hilt : i < items.length := (List.getElem?_eq_some_iff.mp hv).1
    clear f
    refine wpAny_of_eq (a := ()) rfl (wpAny_assign_Name ?_)
    walk_at "st"
    (with_reducible rename Fm _ _ _ _ _ _ => f7)
    refine law_turn (f := f7) e eF a hd hu c (k := k) (by walk_at "hv") (by walk_at "hv") hk ?_
    intro s7 m7 hm7 f7
    exact ⟨items.length + 1 - (i + 1), by omega, i + 1, _, oi', rfl, by omega, f7, hm7, hc', hd''⟩
  · intro hv s6 f6
    refine wpAny_execs_nil ?_
    exact next _ _ hm1 (f6.sub fun p hp => .tail _ hp)
end
theorem app_lt (X : List Nat) {a b : List Nat} : X ++ a < X ++ b ↔ a < b := by
  induction X with
  | nil => rfl
  | cons c r ih => rw [List.cons_append, List.cons_append, List.cons_lt_cons_iff]; simp [ih]
theorem app_empty (x : PySem.Str) : x ++ PySem.Str.ofString "" = x := by apply cl_inj; rw [cl_append, cl_ofs ""]; simp
theorem list_one {l : List (PySem.Str × Tok)} {x : PySem.Str} (h : l.map (·.1) = [x]) : ∃ t, l = [(x, t)] := by
  cases l with
  | nil => simp at h
  | cons p r =>
    obtain ⟨y, t⟩ := p
    simp only [List.map_cons, List.cons.injEq, List.map_eq_nil_iff] at h
    exact ⟨t, by rw [h.1, h.2]⟩
theorem list_two {l : List (PySem.Str × Tok)} {x y : PySem.Str} (h : l.map (·.1) = [x, y]) : ∃ t t', l = [(x, t), (y, t')] := by
  cases l with
  | nil => simp at h
  | cons p r =>
    obtain ⟨x', t⟩ := p
    simp only [List.map_cons, List.cons.injEq] at h
    obtain ⟨t', ht⟩ := list_one h.2
    exact ⟨t, t', by rw [h.1, ht]⟩
theorem c_csr1 {w : World} {s : Shared} {A : Around} {E : Value → Shared → Prop} {Q : Value → Shared → Prop} {T : Addr} {x : PySem.Str} {ps : Array Value} {d u : Nat} (X : Amb w s.heap) (ao : AOk A d u) (hd : d < 800) (hu : u ≤ 7000) (tb : Tb ps s.heap) (hsh : Shows s.heap (.ref T) x) (hf : Fine x) (hl : x.length ≤ 1000)
    (h : ∀ s' t tt, GrowG ps s s' → s'.heap.get? t = some (tupO [.str (shortOf x 5 63) tt]) → s.heap.get? t = none → Q (.ref t) s') : wpAny (Mo w) A (call (.ref 75) [.ref T]) Q E s := by
  refine c_csr (texts := [x]) (ys := [PySem.Str.ofString ""]) (Xp := x) (a := x) (b := x) (c := 0) (k := x.length) X ao hd hu tb
    (varBind (fun D => [(PySem.Str.ofString "args", .ref D)]) X.k (fun _ => by kernel_rfl) rfl) ?_ rfl (by simp) (by simp) (by simp [app_empty]) (by decide) (by omega) ?_ ?_ ?_ ?_ (by omega) (by omega) (fun c hc => (hf c hc).1) (Nat.le_refl _) (Nat.le_refl _) (fun _ _ => rfl) (.inl rfl) (tk_all (Nat.le_refl _)) ?_
  · intro i v hv
    cases i with
    | zero => simp at hv; subst hv; exact ⟨x, rfl, hsh⟩
    | succ i => simp at hv
  · intro y hy; rw [List.mem_singleton] at hy; subst hy; decide
  · intro val hv
    have := hv 0 x rfl
    show val 0 = _
    rw [this]; simp
  · intro l hm y ty hy
    obtain ⟨t, rfl⟩ := list_one hm
    have hy : some (x, t) = some (y, ty) := hy
    cases hy; rfl
  · intro l hm y ty hy
    obtain ⟨t, rfl⟩ := list_one hm
    have hy : some (x, t) = some (y, ty) := hy
    cases hy; rfl
  · intro s' t l g hm ht hn
    simp only [List.map_cons, List.map_nil, app_empty] at hm
    obtain ⟨t', rfl⟩ := list_one hm
    exact h s' t t' g ht hn
theorem c_csr2 {w : World} {s : Shared} {A : Around} {E : Value → Shared → Prop} {Q : Value → Shared → Prop} {T D : Addr} {Xp : PySem.Str} {ps : Array Value} {d u : Nat} (X : Amb w s.heap) (ao : AOk A d u) (hd : d < 800) (hu : u ≤ 7000) (tb : Tb ps s.heap)
    (hsh : Shows s.heap (.ref T) (Xp ++ PySem.Str.ofString "]")) (hsh2 : Shows s.heap (.ref D) (Xp ++ PySem.Str.ofString ", 0]")) (hf : Fine Xp) (hl : Xp.length ≤ 1000)
    (h : ∀ s' t t1 t2, GrowG ps s s' → s'.heap.get? t = some (tupO [.str (shortOf Xp 5 59 ++ PySem.Str.ofString "]") t1, .str (shortOf Xp 5 59 ++ PySem.Str.ofString ", 0]") t2]) → s.heap.get? t = none → Q (.ref t) s') : wpAny (Mo w) A (call (.ref 75) [.ref T, .ref D]) Q E s := by
  have hlt : cl (Xp ++ PySem.Str.ofString ", 0]") < cl (Xp ++ PySem.Str.ofString "]") := by
    rw [cl_append, cl_append, app_lt, cl_ofs, cl_ofs]; decide
  have hnl : ¬ cl (Xp ++ PySem.Str.ofString "]") < cl (Xp ++ PySem.Str.ofString ", 0]") := by
    rw [cl_append, cl_append, app_lt, cl_ofs, cl_ofs]; decide
  have e93 : cl (PySem.Str.ofString "]") = [93] := by rw [cl_ofs]; rfl
  have e44 : cl (PySem.Str.ofString ", 0]") = [44, 32, 48, 93] := by rw [cl_ofs]; rfl
  have hle : Xp.length = (cl Xp).length := length_cl Xp
  refine c_csr (texts := [Xp ++ PySem.Str.ofString "]", Xp ++ PySem.Str.ofString ", 0]"]) (ys := [PySem.Str.ofString "]", PySem.Str.ofString ", 0]"]) (Xp := Xp) (a := Xp ++ PySem.Str.ofString ", 0]") (b := Xp ++ PySem.Str.ofString "]") (c := 4) (k := Xp.length) X ao hd hu tb
    (varBind (fun D => [(PySem.Str.ofString "args", .ref D)]) X.k (fun _ => by kernel_rfl) rfl) ?_ rfl (by simp) (by simp) rfl (by decide) (by omega) ?_ ?_ ?_ ?_ (by rw [PySem.Str.length_append]; simp only [lens]; omega) (by rw [PySem.Str.length_append]; simp only [lens]; omega) ?_ (by rw [PySem.Str.length_append]; omega) (by rw [PySem.Str.length_append]; omega) ?_ (.inr ⟨by rw [PySem.Str.length_append]; simp only [lens]; omega, ?_⟩) ?_ ?_
  · intro i v hv
    match i with
    | 0 => simp at hv; subst hv; exact ⟨_, rfl, hsh⟩
    | 1 => simp at hv; subst hv; exact ⟨_, rfl, hsh2⟩
    | i + 2 => simp at hv
  · intro y hy
    simp only [List.mem_cons, List.not_mem_nil, or_false] at hy
    rcases hy with rfl | rfl <;> decide
  · intro val hv
    have h0 := hv 0 _ rfl
    have h1 := hv 1 _ rfl
    rw [PySem.Str.length_append] at h0 h1
    simp only [lens] at h0 h1
    have e : argBest (fun i j => decide (val i > val j)) 1 = 1 := by
      show (if decide (val 1 > val 0) then 1 else _) = 1
      rw [if_pos (decide_eq_true (by omega))]
    show val (argBest (fun i j => decide (val i > val j)) 1) = _
    rw [e, h1]
    omega
  · intro l hm y ty hy
    obtain ⟨t, t', rfl⟩ := list_two hm
    have e : argBest (fun i j => decide (sAt [(Xp ++ PySem.Str.ofString "]", t), (Xp ++ PySem.Str.ofString ", 0]", t')] i < sAt [(Xp ++ PySem.Str.ofString "]", t), (Xp ++ PySem.Str.ofString ", 0]", t')] j)) 1 = 1 := by
      show (if decide (cl (Xp ++ PySem.Str.ofString ", 0]") < cl (Xp ++ PySem.Str.ofString "]")) then 1 else _) = 1
      rw [if_pos (decide_eq_true hlt)]
    simp only [List.length_cons, List.length_nil] at hy
    rw [show (0 + 1 + 1 - 1 : Nat) = 1 from rfl, e] at hy
    simp at hy
    exact hy.1.symm
  · intro l hm y ty hy
    obtain ⟨t, t', rfl⟩ := list_two hm
    have e : argBest (fun i j => decide (sAt [(Xp ++ PySem.Str.ofString "]", t), (Xp ++ PySem.Str.ofString ", 0]", t')] j < sAt [(Xp ++ PySem.Str.ofString "]", t), (Xp ++ PySem.Str.ofString ", 0]", t')] i)) 1 = 0 := by
      show (if decide (cl (Xp ++ PySem.Str.ofString "]") < cl (Xp ++ PySem.Str.ofString ", 0]")) then 1 else 0) = 0
      rw [if_neg (by simpa using hnl)]
    simp only [List.length_cons, List.length_nil] at hy
    rw [show (0 + 1 + 1 - 1 : Nat) = 1 from rfl, e] at hy
    simp at hy
    exact hy.1.symm
  · intro c hc
    rw [cl_append, List.mem_append] at hc
    rcases hc with hc | hc
    · exact (hf c hc).1
    · rw [e44] at hc; revert c; decide
  · intro j hj
    rw [cl_append, cl_append, List.getElem?_append_left (by omega), List.getElem?_append_left (by omega)]
  · rw [cl_append, cl_append, hle, List.getElem?_append_right (Nat.le_refl _), List.getElem?_append_right (Nat.le_refl _), e93, e44]
    simp
  · exact tk_left ..
  · intro s' t l g hm ht hn
    obtain ⟨t1, t2, rfl⟩ := list_two hm
    exact h s' t t1 t2 g ht hn
theorem Tb.of {w : World} {h : Heap} {ps : Array Value} (X : Amb w h) (h70 : h.get? 70 = some (tabO ps)) (ht : TriplesOk ps.toList) : Tb ps h :=
  ⟨⟨_, _, _, _, _, _, _, _, _, _, X.k 74 _ rfl, rfl, rfl, rfl, rfl, rfl, rfl, h70, rfl, ht, by decide⟩, ⟨_, _, X.k 74 _ rfl, rfl, rfl, rfl⟩, h70⟩
theorem Tb.at70 {h : Heap} {ps : Array Value} (t : Tb ps h) : h.get? 70 = some (tabO ps) ∧ TriplesOk ps.toList := by
  refine ⟨t.tab.2, ?_⟩
  obtain ⟨o, vs, file, tf, flags, tg, inF, text, tt, op, h1, _, _, _, _, _, _, h2, h3, h4, _⟩ := t.code
  exact h4
theorem Fm.afterG {w : World} {s₀ s s' : Shared} {L R : Addr} {m : PySem.Str → Option Value} {keep : List (Addr × PySem.Obj)} {tp : Array Value} {oR : PySem.Obj} (f : Fm w s₀ L m ((70, tabO tp) :: keep) s) (hk : ∀ p ∈ keep, p.1 ≠ 70) (h70 : s₀.heap.get? 70 = none) (g : GrowG tp s s') (hR : s'.heap.get? R = some oR) (hn : s.heap.get? R = none) :
    ∃ more, TriplesOk (tp ++ more).toList ∧ Fm w { s' with heap := s₀.heap } L m ((R, oR) :: (70, tabO (tp ++ more)) :: keep) s' ∧ (∀ p ∈ keep, p.1 ≠ R) ∧ R ≠ 70 := by
  obtain ⟨more, tb⟩ := g.tb
  obtain ⟨t1, t2⟩ := tb.at70
  have hne := f.new_ne hn
  have hL7 : L ≠ 70 := (f.N (70, tabO tp) (.head _)).2.1.symm
  have f1 := (f.sub (news' := keep) fun p hp => .tail _ hp).growG h70 hL7 hk g
  have hR0 : s₀.heap.get? R = none := by
    cases hq : s₀.heap.get? R with
    | none => rfl
    | some o => rw [f.keep _ _ hq] at hn; cases hn
  have hRL : R ≠ L := fun q => by
    obtain ⟨oL, _, _, hL, _⟩ := f.ns
    rw [q, hL] at hn; cases hn
  refine ⟨more, t2, ⟨f1.ns, f1.keep, f1.fresh, fun p hp => ?_, f1.same, f1.amb, f1.low⟩, fun p hp => hne p (.tail _ hp), (hne (70, tabO tp) (.head _)).symm⟩
  rcases List.mem_cons.mp hp with rfl | hp
  · exact ⟨hR, hRL, hR0⟩
  · rcases List.mem_cons.mp hp with rfl | hp
    · exact ⟨t1, hL7.symm, h70⟩
    · exact f1.N p hp
def stemOf (xs : List PySem.Str) : PySem.Str := PySem.Str.ofString "[" ++ PySem.Str.join (PySem.Str.ofString ", ") xs
theorem full_stem (xs : List PySem.Str) : fullOf xs = stemOf xs ++ PySem.Str.ofString "]" := rfl
theorem join_snoc (z y : PySem.Str) : ∀ {xs : List PySem.Str}, 0 < xs.length → PySem.Str.join z (xs ++ [y]) = PySem.Str.join z xs ++ z ++ y
  | [], h => by simp at h
  | [x], _ => by show x ++ z ++ y = x ++ z ++ y; rfl
  | x :: x' :: r, _ => by
    have ih := join_snoc z y (xs := x' :: r) (by simp)
    show x ++ z ++ PySem.Str.join z ((x' :: r) ++ [y]) = (x ++ z ++ PySem.Str.join z (x' :: r)) ++ z ++ y
    rw [ih]
    simp only [PySem.Str.append_assoc]
theorem full_snoc {xs : List PySem.Str} (h : 0 < xs.length) : fullOf (xs ++ [PySem.Str.ofString (toString (0 : Int))]) = stemOf xs ++ PySem.Str.ofString ", 0]" := by
  unfold fullOf stemOf
  rw [join_snoc _ _ h]
  have e : PySem.Str.ofString ", 0]" = PySem.Str.ofString ", " ++ PySem.Str.ofString (toString (0 : Int)) ++ PySem.Str.ofString "]" := by decide +kernel
  rw [e]
  simp only [PySem.Str.append_assoc]
section
variable {w : World} {s₀ s : Shared} {A : Around} {E : Value → Shared → Prop} {Q : Flow → Shared → Prop} {env : Env} {m : PySem.Str → Option Value} {d u : Nat} {xs : List PySem.Str} {tv : List Value} {T N : Addr}
set_option maxHeartbeats 2000000 in
theorem law_13 {keep : List (Addr × PySem.Obj)} {tp : Array Value} (e : EnvOk env (kindIn 102)) (eF : EnvF env 102) (a : AOk A d u) (hd : d < 700) (hu : u ≤ 6000) (c : LC env s₀.heap xs tv T N) (hT : T ≠ sysModules) (hmT : m (PySem.Str.ofString "things") = some (.ref T)) (f : Fm w s₀ env.locals m ((70, tabO tp) :: keep) s) (hk : ∀ p ∈ keep, p.1 ≠ 70) (htr : TriplesOk tp.toList)
    (next : ∀ s' (z : Shared) more R t, (AllBare s₀.gens → AllBare z.gens) → z.os = s₀.os → TriplesOk (tp ++ more).toList → Fm w { z with heap := s₀.heap } env.locals (upd m (PySem.Str.ofString "alone") (.ref R)) ((R, tupO [.str (shortOf (fullOf xs) 5 63) t]) :: (70, tabO (tp ++ more)) :: keep) s' → (∀ p ∈ keep, p.1 ≠ R) → R ≠ 70 → wpAny (Mo w) A (execs (lawT 14) env) Q E s') : wpAny (Mo w) A (execs (lawT 13) env) Q E s := by
  have hsh := c.shows hT
  obtain ⟨hfine, hl1, hl2⟩ := c.ok
  have h70 := c.h70
  generalize fullOf xs = x at *
  show wpAny _ _ (execs (_ :: lawT 14) env) _ _ _
  repeat walk_at "st"
  refine o_def (Fm.amb (by assumption)) (by kernel_rfl) ?_
  repeat walk_at "st"
  (with_reducible rename Fm _ _ _ _ _ _ => fF)
  refine ⟨fF.amb.k, c_csr1 fF.amb a (by omega) (by omega) (Tb.of fF.amb (fF.get (.head _)) htr) (hsh.keeps fF.keep) hfine hl1 ?_⟩
  intro s2 R tt g hR hn
  obtain ⟨more, h1, h2, h3, h4⟩ := fF.afterG hk h70 g hR hn
  have hg : AllBare s₀.gens → AllBare s2.gens := fun q => g.gens (by rw [fF.out.gens]; exact q)
  have ho : s2.os = s₀.os := g.os.trans fF.out.os
  clear fF
  repeat walk_at "st"
  exact next _ s2 more R tt hg ho h1 (by assumption) h3 h4
set_option maxHeartbeats 2000000 in
theorem law_14 {keep : List (Addr × PySem.Obj)} {tp : Array Value} (e : EnvOk env (kindIn 102)) (eF : EnvF env 102) (a : AOk A d u) (hd : d < 700) (hu : u ≤ 6000) (c : LC env s₀.heap xs tv T N) (hT : T ≠ sysModules) (hmT : m (PySem.Str.ofString "things") = some (.ref T)) (f : Fm w s₀ env.locals m ((70, tabO tp) :: keep) s) (hk : ∀ p ∈ keep, p.1 ≠ 70) (htr : TriplesOk tp.toList)
    (next : ∀ s' (z : Shared) more R t1 t2, (AllBare s₀.gens → AllBare z.gens) → z.os = s₀.os → TriplesOk (tp ++ more).toList → Fm w { z with heap := s₀.heap } env.locals (upd m (PySem.Str.ofString "both") (.ref R)) ((R, tupO [.str (shortOf (stemOf xs) 5 59 ++ PySem.Str.ofString "]") t1, .str (shortOf (stemOf xs) 5 59 ++ PySem.Str.ofString ", 0]") t2]) :: (70, tabO (tp ++ more)) :: keep) s' → (∀ p ∈ keep, p.1 ≠ R) → R ≠ 70 → wpAny (Mo w) A (execs (lawT 15) env) Q E s') : wpAny (Mo w) A (execs (lawT 14) env) Q E s := by
  have hsh := c.shows hT
  obtain ⟨kT, hgT⟩ := c.thT
  have htl := c.tl
  have h70 := c.h70
  have hn7 := c.n7
  obtain ⟨osys, hsys⟩ := c.sys
  obtain ⟨hfine, hl1, hl2⟩ := c.ok
  rw [full_stem] at hsh hfine hl1 hl2
  have hfs : Fine (stemOf xs) := fun ch hc => hfine ch (by rw [cl_append]; exact List.mem_append_left _ hc)
  rw [PySem.Str.length_append] at hl1
  show wpAny _ _ (execs (_ :: lawT 15) env) _ _ _
  repeat walk_at "st"
  refine o_def (Fm.amb (by assumption)) (by kernel_rfl) ?_
  repeat walk_at "st"
  (with_reducible rename Fm _ _ _ _ _ _ => fF)
  refine o_addl fF ⟨_, fF.keep _ _ hgT, rfl, kT, rfl⟩ ⟨_, fF.get (List.Mem.head _), rfl, 0, rfl⟩ (by simp only [List.length_cons, List.length_nil]; omega) ?_
  intro s4 D f4 hnD
  have hDs : D ≠ sysModules := fun q => by rw [q, fF.keep _ _ hsys] at hnD; cases hnD
  have hD7 : D ≠ 70 := fun q => by rw [q, fF.get (by walk_at "mem")] at hnD; cases hnD
  have hth : ∀ t, Things s4.heap (tv ++ [.int 0 t]) (xs ++ [PySem.Str.ofString (toString (0 : Int))]) := fun t => (c.things.keeps f4.keep).snoc (Th.int (k := 0) (by decide)) (by decide)
  have hok2 := full_ok (xs := xs ++ [PySem.Str.ofString (toString (0 : Int))]) (fun y hy => by
    rcases List.mem_append.mp hy with hy | hy
    · exact c.each y hy
    · rw [List.mem_singleton] at hy; subst hy; exact ⟨int_fine 0, by have := dec_len (n := 0) (by decide); omega⟩) (by rw [List.length_append, List.length_singleton]; omega)
  have hsh2 := (hth _).shows (f4.get (List.Mem.head _)) hDs hok2.2.1
  rw [full_snoc c.pos] at hsh2
  clear fF
  have f4 := f4.sub (news' := (70, tabO tp) :: keep) (fun p hp => .tail _ (.tail _ hp))
  repeat walk_at "st"
  (with_reducible rename Fm _ _ _ _ _ _ => fF)
  refine ⟨fF.amb.k, c_csr2 fF.amb a (by omega) (by omega) (Tb.of fF.amb (fF.get (.head _)) htr) (hsh.keeps fF.keep) hsh2 hfs (by omega) ?_⟩
  intro s2 R t1 t2 g hR hn
  obtain ⟨more, h1, h2, h3, h4⟩ := fF.afterG hk h70 g hR hn
  have hg : AllBare s₀.gens → AllBare s2.gens := fun q => g.gens (by rw [fF.out.gens]; exact q)
  have ho : s2.os = s₀.os := g.os.trans fF.out.os
  clear fF
  repeat walk_at "st"
  exact next _ s2 more R t1 t2 hg ho h1 (by assumption) h3 h4
end
theorem slice_init (X y : PySem.Str) (hy : y.length = 1) : Txt.slice (X ++ y) none (some (-1)) = X := by
  show StrLaws.sliceText (X ++ y) none (some (-1)) = X
  have hl := PySem.Str.length_append X y
  rw [StrLaws.sliceText_neg_hi _ _ (by decide) (by omega)]
  have := slice_to (x := X ++ y) (j := -1 + ((X ++ y).length : Int)) (by omega)
  have e : Txt.slice (X ++ y) none (some (-1 + ((X ++ y).length : Int))) = StrLaws.sliceText (X ++ y) none (some (-1 + ((X ++ y).length : Int))) := rfl
  rw [← e, this, show (-1 + ((X ++ y).length : Int)).toNat = X.length by omega]
  exact tk_left X y
theorem short_len {X : PySem.Str} {p q : Int} (h : X.length ≤ 1000) (hp : 0 ≤ p) (hq : 0 ≤ q) : (shortOf X p q).length ≤ 2500 := by
  unfold shortOf
  split
  · have := dec_len (n := (X.length : Int) - p - q) (by omega)
    simp only [PySem.Str.length_append, length_tk, length_dr, lens, markOf]
    omega
  · omega
structure Told (v mk z r : PySem.Str) : Prop where
  len : v.length ≤ 3000
  n : (Txt.split v mk).length ≤ 8
  each : ∀ p ∈ Txt.split v mk, p.length ≤ 1000000
  zl : z.length ≤ 1000000
  rep : replOf v mk z = r
theorem told_of {X y z : PySem.Str} {q k : Int} (hX : Fine X) (hy : Fine y) (hq : 0 ≤ q) (hXl : X.length ≤ 1000) (hyl : y.length ≤ 10) (hk : k = X.length - 5 - q) (hzl : z.length ≤ 1000) (hz : 12 < (X.length : Int) - 5 - q → z = tk (dr X 5) ((X.length - q).toNat - 5)) :
    Told (shortOf X 5 q ++ y) (markOf k) z (X ++ y) := by
  subst hk
  have h1 := short_len (X := X) (p := 5) (q := q) hXl (by decide) hq
  have hs := short_split (q := q) hX hy
  refine ⟨by rw [PySem.Str.length_append]; omega, ?_, ?_, by omega, short_repl hX hy hq hz⟩
  · rw [hs]; split <;> simp
  · rw [hs]
    intro p hp
    split at hp
    · simp only [List.mem_cons, List.not_mem_nil, or_false] at hp
      rcases hp with rfl | rfl
      · rw [length_tk]; omega
      · rw [PySem.Str.length_append, length_dr]; omega
    · simp only [List.mem_singleton] at hp
      subst hp
      rw [PySem.Str.length_append]; omega
theorem tk_dr_left (X y : PySem.Str) {i n : Nat} (h : i + n ≤ X.length) : tk (dr (X ++ y) i) n = tk (dr X i) n := by
  apply cl_inj
  rw [length_cl] at h
  simp only [cl_tk, cl_dr, cl_append]
  rw [List.drop_append_of_le_length (by omega), List.take_append_of_le_length (by rw [List.length_drop]; omega)]
theorem told_alone {x : PySem.Str} (hx : Fine x) (hl : x.length ≤ 1000) : Told (shortOf x 5 63) (markOf (x.length - 68)) (Txt.slice x (some 5) (some (x.length - 63))) x := by
  have := told_of (X := x) (y := PySem.Str.ofString "") (z := Txt.slice x (some 5) (some (x.length - 63))) (q := 63) (k := x.length - 68) hx (by unfold Fine; rw [cl_ofs]; decide) (by decide) hl (by decide) (by omega) (Nat.le_trans (Txt.slice_le ..) hl) (fun h => by
    rw [slice_mid (by decide) (by omega) (by omega)]
    congr 1
    omega)
  rwa [app_empty, app_empty] at this
theorem told_both {X y : PySem.Str} (hX : Fine X) (hy : Fine y) (hl : X.length ≤ 999) (hyl : y.length ≤ 10) {x : PySem.Str} (e : x = X ++ PySem.Str.ofString "]") : Told (shortOf X 5 59 ++ y) (markOf (x.length - 65)) (Txt.slice x (some 5) (some (x.length - 60))) (X ++ y) := by
  have hxl : x.length = X.length + 1 := by rw [e, PySem.Str.length_append]; simp only [lens]
  refine told_of hX hy (by decide) (by omega) hyl (by omega) (Nat.le_trans (Txt.slice_le ..) (by omega)) (fun h => ?_)
  rw [slice_mid (by decide) (by omega) (by omega), e]
  have e5 : (5 : Int).toNat = 5 := rfl
  rw [e5, tk_dr_left _ _ (by rw [← e]; omega), ← e]
  congr 1
  omega
theorem alone_eq {x : PySem.Str} (hx : Fine x) : (shortOf x 5 63 == x) = decide ((x.length : Int) ≤ 80) := by
  have := short_eq (X := x) (y := PySem.Str.ofString "") (q := 63) hx (app_empty x)
  rw [app_empty] at this
  rw [this]
  congr 1
  simp; omega
theorem both_eq {X x : PySem.Str} (hx : Fine x) (e : x = X ++ PySem.Str.ofString "]") : (shortOf X 5 59 ++ PySem.Str.ofString "]" == x) = decide ((x.length : Int) ≤ 77) := by
  have hxl : x.length = X.length + 1 := by rw [e, PySem.Str.length_append]; simp only [lens]
  rw [short_eq (q := 59) hx e.symm]
  congr 1
  rw [hxl]
  simp; omega
theorem Told.call {w : World} {s : Shared} {A : Around} {E : Value → Shared → Prop} {Q : Value → Shared → Prop} {v mk z r : PySem.Str} {t t1 t2 : Tok} {d u : Nat} {n : Int} (T : Told v mk z r) (hmk : mk = markOf n) (X : Amb w s.heap) (a : AOk A d u) (hd : d < 1000)
    (h : ∀ s' t, Grow s s' → Q (.str r t) s') : wpAny (Mo w) A (call (.ref 28) [.str v t, .str mk t1, .str z t2]) Q E s :=
  c_replace X a hd (by have := T.len; omega) (by rw [hmk]; exact mark_pos n) T.zl T.n T.each (by rw [T.rep]; exact h)
section
variable {w : World} {s₀ s : Shared} {A : Around} {E : Value → Shared → Prop} {Q : Flow → Shared → Prop} {env : Env} {m : PySem.Str → Option Value} {d u : Nat} {xs : List PySem.Str} {tv : List Value} {T N : Addr} {news : List (Addr × PySem.Obj)}
set_option maxHeartbeats 4000000 in
theorem law_15 (e : EnvOk env (kindIn 102)) (eF : EnvF env 102) (a : AOk A d u) (hd : d < 700) (hu : u ≤ 6000) (c : LC env s₀.heap xs tv T N) {R1 R2 : Addr} {t1 t2 t3 : Tok} (hmA : m (PySem.Str.ofString "alone") = some (.ref R1)) (hmB : m (PySem.Str.ofString "both") = some (.ref R2)) (f : Fm w s₀ env.locals m news s)
    (hR1 : (R1, tupO [.str (shortOf (fullOf xs) 5 63) t1]) ∈ news) (hR2 : (R2, tupO [.str (shortOf (stemOf xs) 5 59 ++ PySem.Str.ofString "]") t2, .str (shortOf (stemOf xs) 5 59 ++ PySem.Str.ofString ", 0]") t3]) ∈ news)
    (next : ∀ s' m', m' (PySem.Str.ofString "alone") = some (.ref R1) → m' (PySem.Str.ofString "both") = some (.ref R2) → Fm w s₀ env.locals m' news s' → wpAny (Mo w) A (execs (lawT 18) env) Q E s') : wpAny (Mo w) A (execs (lawT 15) env) Q E s := by
  obtain ⟨hfine, hl1, hl2⟩ := c.ok
  obtain ⟨cF, oF, tF, hcF, hoF, hdF⟩ := c.full
  obtain ⟨cS, oS, tS, hcS, hoS, hdS⟩ := c.size
  have hst := full_stem xs
  generalize fullOf xs = x at *
  generalize stemOf xs = X at *
  have hxl : x.length = X.length + 1 := by rw [hst, PySem.Str.length_append]; simp only [lens]
  have hX : Fine X := fun ch hc => hfine ch (by rw [hst, cl_append]; exact List.mem_append_left _ hc)
  have hinit : Txt.slice x none (some (-1)) = X := by rw [hst]; exact slice_init _ _ (by decide)
  have hta := told_alone hfine hl1
  have hsl := short_len (X := X) (p := 5) (q := 59) (by omega) (by decide) (by decide)
  show wpAny _ _ (execs (_ :: _ :: _ :: lawT 18) env) _ _ _
  repeat walk_at "st"
  refine o_def (Fm.amb (by assumption)) (by kernel_rfl) ?_
  repeat walk_at "st"
  refine o_slice_nsR (by walk_at "sz") ?_
  rw [hinit]
  walk_at "gr"
  repeat walk_at "st"
  (with_reducible rename Fm _ _ _ _ _ _ => fF)
  refine ⟨fF.amb.k, c_shorten fF.amb a (by omega) (by omega) (by decide) (by decide) ?_⟩
  walk_at "gr"
  repeat walk_at "st"
  refine o_def (Fm.amb (by assumption)) (by kernel_rfl) ?_
  repeat walk_at "st"
  (with_reducible rename Fm _ _ _ _ _ _ => fF)
  refine ⟨fF.amb.k, c_shorten fF.amb a (by omega) (by omega) (by decide) (by decide) ?_⟩
  walk_at "gr"
  repeat walk_at "st"
  (with_reducible rename Fm _ _ _ _ _ _ => fF)
  refine o_ne_tup (l := [(shortOf x 5 63, t1)]) (l' := [(_, _)]) a (by omega) (fF.get (List.Mem.tail _ hR1)) (fF.get (List.Mem.head _)) rfl ?_
  replace fF := fF.sub (news' := news) (fun p hp => .tail _ hp)
  repeat walk_at "st"
  (with_reducible rename Fm _ _ _ _ _ _ => fF)
  refine o_ne_tup (l := [(shortOf X 5 59 ++ PySem.Str.ofString "]", t2), (shortOf X 5 59 ++ PySem.Str.ofString ", 0]", t3)]) (l' := [(_, _), (_, _)]) a (by omega) (fF.get (List.Mem.tail _ hR2)) (fF.get (List.Mem.head _)) rfl ?_
  replace fF := fF.sub (news' := news) (fun p hp => .tail _ hp)
  repeat walk_at "st"
  refine o_def (Fm.amb (by assumption)) (by kernel_rfl) ?_
  repeat walk_at "st"
  refine o_item_tup (Fm.get (by assumption) (by walk_at "mem")) (j := 0) rfl (by decide) rfl ?_
  repeat walk_at "st"
  refine o_def (Fm.amb (by assumption)) (by kernel_rfl) ?_
  repeat walk_at "st"
  (with_reducible rename Fm _ _ _ _ _ _ => fF)
  refine ⟨fF.amb.k, c_mark fF.amb a (by omega) (by omega) ?_⟩
  walk_at "gr"
  repeat walk_at "st"
  refine o_slice_ssR (by walk_at "sz") ?_; walk_at "gr"
  repeat walk_at "st"
  (with_reducible rename Fm _ _ _ _ _ _ => fF)
  refine ⟨fF.amb.k, hta.call rfl fF.amb a (by omega) ?_⟩
  walk_at "gr"
  repeat walk_at "st"
  refine iteF (by simp) ?_
  repeat walk_at "st"
  refine next _ _ ?_ ?_ (by assumption)
  · walk_at "hv"
  · walk_at "hv"
end
section
variable {w : World} {s₀ s : Shared} {A : Around} {E : Value → Shared → Prop} {Q : Flow → Shared → Prop} {env : Env} {m : PySem.Str → Option Value} {d u : Nat} {xs : List PySem.Str} {tv : List Value} {T N : Addr} {news : List (Addr × PySem.Obj)}
set_option maxHeartbeats 4000000 in
theorem law_18 (e : EnvOk env (kindIn 102)) (eF : EnvF env 102) (a : AOk A d u) (hd : d < 700) (hu : u ≤ 6000) (c : LC env s₀.heap xs tv T N) {R2 : Addr} {t2 t3 : Tok} (hmB : m (PySem.Str.ofString "both") = some (.ref R2)) (f : Fm w s₀ env.locals m news s)
    (hR2 : (R2, tupO [.str (shortOf (stemOf xs) 5 59 ++ PySem.Str.ofString "]") t2, .str (shortOf (stemOf xs) 5 59 ++ PySem.Str.ofString ", 0]") t3]) ∈ news)
    (next : ∀ s' W t4 t5 k, Fm w s₀ env.locals (upd m (PySem.Str.ofString "whole") (.ref W)) ((W, lstE [.str (fullOf xs) t4, .str (stemOf xs ++ PySem.Str.ofString ", 0]") t5] k) :: news) s' → wpAny (Mo w) A (execs (lawT 19) env) Q E s') : wpAny (Mo w) A (execs (lawT 18) env) Q E s := by
  obtain ⟨hfine, hl1, hl2⟩ := c.ok
  obtain ⟨cF, oF, tF, hcF, hoF, hdF⟩ := c.full
  obtain ⟨cS, oS, tS, hcS, hoS, hdS⟩ := c.size
  have hst := full_stem xs
  generalize fullOf xs = x at *
  generalize stemOf xs = X at *
  have hxl : x.length = X.length + 1 := by rw [hst, PySem.Str.length_append]; simp only [lens]
  have hX : Fine X := fun ch hc => hfine ch (by rw [hst, cl_append]; exact List.mem_append_left _ hc)
  have hf93 : Fine (PySem.Str.ofString "]") := by unfold Fine; rw [cl_ofs]; decide
  have hf44 : Fine (PySem.Str.ofString ", 0]") := by unfold Fine; rw [cl_ofs]; decide
  have ht1 := told_both hX hf93 (by omega) (by decide) hst
  have ht2 := told_both hX hf44 (by omega) (by decide) hst
  show wpAny _ _ (execs (_ :: lawT 19) env) _ _ _
  walk_at "st"
  refine o_acomp (s₀ := s₀) e (block_fn e) (by kernel_rfl) (by rfl) (by rfl) (fun v y => ∀ r t, v = Value.str r t → ∀ r', Told r (markOf (x.length - 65)) (Txt.slice x (some 5) (some (x.length - 60))) r' → ∃ t', y = Value.str r' t') (closure_two (by rfl) hcF hcS) (by rfl) rfl (by kernel_rfl) (by kernel_rfl) ?_ (by intro _; with_unfolding_all rfl)
  refine r_local e f hmB ?_ (by kernel_rfl) (by decide +kernel)
  have hg := f.get hR2
  refine o_iter_tup hg ?_
  intro s5 it g hi hni
  have hne := f.new_ne hni
  have hPi : R2 ≠ it := hne (R2, _) hR2
  have f5 := f.new g hi hni
  refine ⟨it, _, _, _, _, m, news, _, rfl, Walks.tuple a.handled it R2 hPi _, by simp, ⟨⟨_, hi, rfl, rfl⟩, ⟨_, f5.get (.tail _ hR2), rfl, 0, rfl⟩⟩, ?_, f5, hne, ?_, ?_⟩
  · intro b hb
    simp only [List.mem_cons, List.not_mem_nil, or_false] at hb
    rcases hb with rfl | rfl
    · exact Heap.lt_size hi
    · exact Heap.lt_size (f5.get (.tail _ hR2))
  · intro C i v s8 m8 E' Q' hP hm8 e8 f8 hq
    have gg : Grow s8 s8 := Grow.refl _
    clear f f5
    have hc1 : ∀ sc, (compEnvC sc [(PySem.Str.ofString "size", cS), (PySem.Str.ofString "full", cF)] C env).cells.lookup (PySem.Str.ofString "size") = some cS := fun sc => (lookup_two (a := PySem.Str.ofString "full") (b := PySem.Str.ofString "size") (c := cF) (d := cS) (ofs_ne (by decide))).2
    have hc2 : ∀ sc, (compEnvC sc [(PySem.Str.ofString "size", cS), (PySem.Str.ofString "full", cF)] C env).cells.lookup (PySem.Str.ofString "full") = some cF := fun sc => (lookup_two (a := PySem.Str.ofString "full") (b := PySem.Str.ofString "size") (c := cF) (d := cS) (ofs_ne (by decide))).1
    obtain ⟨r, tr, r', rfl, htold⟩ : ∃ r t r', v = Value.str r t ∧ Told r (markOf (x.length - 65)) (Txt.slice x (some 5) (some (x.length - 60))) r' := by
      match i with
      | 0 => simp at hP; subst hP; exact ⟨_, _, _, rfl, ht1⟩
      | 1 => simp at hP; subst hP; exact ⟨_, _, _, rfl, ht2⟩
      | i + 2 => simp at hP
    repeat walk_at "st"
    refine o_def (Fm.amb (by assumption)) (by kernel_rfl) ?_
    repeat walk_at "st"
    (with_reducible rename Fm _ _ _ _ _ _ => f9)
    refine r_local e8 (show Fm w _ (compEnvC _ _ C env).locals _ _ _ from f9) hm8 ?_ (by kernel_rfl) (by decide +kernel)
    repeat walk_at "st"
    refine o_def (Fm.amb (by assumption)) (by kernel_rfl) ?_
    repeat walk_at "st"
    (with_reducible rename Fm _ _ _ _ _ _ => f9)
    refine r_cell e8 (hc1 _) (f9.keep _ _ hoS) hdS ?_ (by kernel_rfl) (by decide +kernel)
    repeat walk_at "st"
    (with_reducible rename Fm _ _ _ _ _ _ => f9)
    refine ⟨f9.amb.k, c_mark f9.amb a (by omega) (by omega) ?_⟩
    walk_at "gr"
    repeat walk_at "st"
    (with_reducible rename Fm _ _ _ _ _ _ => f9)
    refine r_cell e8 (hc2 _) (f9.keep _ _ hoF) hdF ?_ (by kernel_rfl) (by decide +kernel)
    repeat walk_at "st"
    (with_reducible rename Fm _ _ _ _ _ _ => f9)
    refine r_cell e8 (hc1 _) (f9.keep _ _ hoS) hdS ?_ (by kernel_rfl) (by decide +kernel)
    repeat walk_at "st"
    refine o_slice_ssR (by walk_at "sz") ?_; walk_at "gr"
    repeat walk_at "st"
    (with_reducible rename Fm _ _ _ _ _ _ => f9)
    (with_reducible rename Grow _ _ => g9)
    refine ⟨f9.amb.k, htold.call rfl f9.amb a (by omega) ?_⟩
    intro s10 t10 g10
    refine hq _ _ (fun r1 t1 h1 r2 h2 => ⟨t10, ?_⟩) (g9.trans g10)
    cases h1
    rw [← htold.rep, ← h2.rep]
  · intro D s8 ys vs k8 hvl hvP hpr f8 hnD
    have hvs : vs = [.str (shortOf X 5 59 ++ PySem.Str.ofString "]") t2, .str (shortOf X 5 59 ++ PySem.Str.ofString ", 0]") t3] := by
      refine List.ext_getElem? fun j => ?_
      cases hq : vs[j]? with
      | some v => have := hvP j v hq; simpa using this.symm
      | none =>
        have : vs.length ≤ j := by simpa using hq
        rw [hvl, List.size_toArray] at this
        rw [List.getElem?_eq_none this]
    subst hvs
    cases hpr with
    | cons h1 hr =>
      cases hr with
      | cons h2 hr2 =>
        cases hr2
        obtain ⟨t4, rfl⟩ := h1 _ _ rfl _ ht1
        obtain ⟨t5, rfl⟩ := h2 _ _ rfl _ ht2
        rw [← hst] at f8
        exact next _ _ _ _ _ f8
set_option maxHeartbeats 4000000 in
theorem law_19 (e : EnvOk env (kindIn 102)) (eF : EnvF env 102) (a : AOk A d u) (hd : d < 700) (hu : u ≤ 6000) (c : LC env s₀.heap xs tv T N) {R1 R2 W : Addr} {t1 t2 t3 t4 t5 : Tok} {kW : Nat} (hmA : m (PySem.Str.ofString "alone") = some (.ref R1)) (hmB : m (PySem.Str.ofString "both") = some (.ref R2)) (hmW : m (PySem.Str.ofString "whole") = some (.ref W)) (f : Fm w s₀ env.locals m news s)
    (hR1 : (R1, tupO [.str (shortOf (fullOf xs) 5 63) t1]) ∈ news) (hR2 : (R2, tupO [.str (shortOf (stemOf xs) 5 59 ++ PySem.Str.ofString "]") t2, .str (shortOf (stemOf xs) 5 59 ++ PySem.Str.ofString ", 0]") t3]) ∈ news)
    (hW : (W, lstE [.str (fullOf xs) t4, .str (stemOf xs ++ PySem.Str.ofString ", 0]") t5] kW) ∈ news)
    (next : ∀ s' m', Fm w s₀ env.locals m' news s' → Q (.ret (.bool true)) s') : wpAny (Mo w) A (execs (lawT 19) env) Q E s := by
  obtain ⟨hfine, hl1, hl2⟩ := c.ok
  obtain ⟨cF, oF, tF, hcF, hoF, hdF⟩ := c.full
  obtain ⟨cS, oS, tS, hcS, hoS, hdS⟩ := c.size
  have hst := full_stem xs
  generalize fullOf xs = x at *
  generalize stemOf xs = X at *
  have hxl : x.length = X.length + 1 := by rw [hst, PySem.Str.length_append]; simp only [lens]
  have hinit : Txt.slice x none (some (-1)) = X := by rw [hst]; exact slice_init _ _ (by decide)
  have hae := alone_eq hfine
  have hbe := both_eq hfine hst
  show wpAny _ _ (execs (_ :: _ :: []) env) _ _ _
  repeat walk_at "st"
  refine o_item_tup (Fm.get (by assumption) (by walk_at "mem")) (j := 0) rfl (by decide) rfl ?_
  repeat walk_at "st"
  rw [hae]
  refine PyProof.Rows.ne_bool ?_
  rw [bne_self_eq_false]
  repeat walk_at "st"
  refine o_item_tup (Fm.get (by assumption) (by walk_at "mem")) (j := 0) rfl (by decide) rfl ?_
  repeat walk_at "st"
  rw [hbe]
  refine PyProof.Rows.ne_bool ?_
  rw [bne_self_eq_false]
  repeat walk_at "st"
  refine o_slice_nsR (by walk_at "sz") ?_
  rw [hinit]
  walk_at "gr"
  repeat walk_at "st"
  (with_reducible rename Fm _ _ _ _ _ _ => fF)
  refine o_eq_lst (l := [(x, t4), (X ++ PySem.Str.ofString ", 0]", t5)]) (l' := [(_, _), (_, _)]) a (by omega) ⟨_, fF.get (List.Mem.tail _ hW), rfl, kW, rfl⟩ (lst_is (fF.get (.head _))) rfl ?_
  replace fF := fF.sub (news' := news) (fun p hp => .tail _ hp)
  exact next _ _ (by assumption)
end
section
variable {w : World} {s₀ s : Shared} {A : Around} {E : Value → Shared → Prop} {env : Env} {m : PySem.Str → Option Value} {d u : Nat} {news : List (Addr × PySem.Obj)}
theorem o_slice3 {Q : Value → Shared → Prop} {value slice : PySem.Expr} {l : Addr} {items : Array Value} {vl vu vk : Value} {lo hi st : Option Int} {ops : List Value} (hl : s.heap.IsList l items) (pl : IsPart vl lo) (pu : IsPart vu hi) (pk : IsPart vk st) (h0 : st ≠ some 0) (hsz : items.size ≤ 1000)
    (h : ∀ s' D, Grow s s' → s'.heap.get? D = some (lstO (slicePick items lo hi st).toList) → Q (.ref D) s')
    (hs : subscripted slice false (.ref l) (.ref s.heap.objs.size) = operate ops (getItem (.ref l) (.ref s.heap.objs.size)) := by with_unfolding_all rfl)
    (ht : ∀ r, letTemporaryGo value (.ref l) r = pure () := by intro _; with_unfolding_all rfl) :
    wpAny (Mo w) A (subscriptTail value slice (.ref l) (.ref s.heap.objs.size)) Q E { s with heap := s.heap.push { cls := .type "slice", data := .fields #[vl, vu, vk] } } := by
  refine subscriptTail_ops (Heap.IsList.typeIs (s := { s with heap := s.heap.push { cls := .type "slice", data := .fields #[vl, vu, vk] } }) (hl.push _)) list_getitem_lookup
    (wpAny_getItem_list_slice (hl.push _) (Heap.IsSliceOf.new ..) pl pu pk h0 ?_ (by rw [sizeLine_val]; omega)) hs ht
  have g0 : Grow s { s with heap := s.heap.push { cls := .type "slice", data := .fields #[vl, vu, vk] } } := ⟨fun _ _ e => Heap.get?_push_of_some _ e, rfl⟩
  obtain ⟨g, e, n⟩ := push_new { s with heap := s.heap.push { cls := .type "slice", data := .fields #[vl, vu, vk] } } (lstO (slicePick items lo hi st).toList) rfl
  have e' : (lstO (slicePick items lo hi st).toList) = ({ cls := .type "list", data := .seq (slicePick items lo hi st) } : PySem.Obj) := by simp [lstO]
  rw [← e']
  exact h _ _ (g0.trans g) e
theorem mem_slicePick {items : Array Value} {lo hi st : Option Int} {v : Value} (h : v ∈ (slicePick items lo hi st).toList) : v ∈ items.toList := by
  unfold slicePick at h
  simp only [List.mem_filterMap] at h
  obtain ⟨i, _, hi⟩ := h
  exact Array.mem_toList_iff.mpr (Array.mem_of_getElem? hi)
theorem o_len_lst {Q : Value → Shared → Prop} {l : Addr} {items : Array Value} (hl : s.heap.IsList l items) (hsz : items.size ≤ 1000) (h : ∀ s' t, Grow s s' → Q (.int items.size t) s') : wpAny (Mo w) A (call (.builtin "len") [.ref l]) Q E s :=
  PyProof.Rows.len_list hl (by omega) (h _ _ (Grow.toks ..))
theorem o_pow {Q : Value → Shared → Prop} {t u : Tok} (h : ∀ s' t', Grow s s' → Q (.int 1000000 t') s') : wpAny (Mo w) A (binaryOp .Pow (.int 10 t) (.int 6 u)) Q E s :=
  AutoIntOps.pow_4 (by decide) (by decide) (by decide) (by decide) (by decide +kernel) (h _ _ (Grow.toks ..))
theorem o_range {Q : Value → Shared → Prop} {n : Int} {t : Tok} (h : ∀ s' r t1 t2, Grow s s' → IsRange s'.heap r 0 n 1 t1 t t2 → s.heap.get? r = none → Q (.ref r) s') : wpAny (Mo w) A (call (.type "range") [.int n t]) Q E s :=
  call_range_1 (h _ _ _ _ (Grow.push ..) (Heap.get?_push_size _ rfl) (size_none _))
theorem o_iter_range {Q : Value → Shared → Prop} {n : Int} {r : Addr} {t1 t t2 : Tok} (hr : IsRange s.heap r 0 n 1 t1 t t2) (hn : 0 ≤ n ∧ n ≤ 6) (h : ∀ s' it, Grow s s' → IsRangeIter s'.heap it 0 n 1 → s.heap.get? it = none → Q (.ref it) s') : wpAny (Mo w) A (pyIter (.ref r)) Q E s := by
  have e : Builtin.Range.rangeSize 0 n 1 = n := by rw [rangeSize_one]; split <;> omega
  refine wpAny_pyIter_range hr ?_ ?_
  · obtain h | h | h | h | h | h | h : n = 0 ∨ n = 1 ∨ n = 2 ∨ n = 3 ∨ n = 4 ∨ n = 5 ∨ n = 6 := by omega
    all_goals subst h; decide +kernel
  · rw [e]
    exact h _ _ (Grow.push s _ s.toks) (Heap.get?_push_size _ rfl) (size_none _)
set_option maxHeartbeats 4000000 in
theorem law_0 {Q : Flow → Shared → Prop} (e : EnvOk env (kindIn 102)) (eF : EnvF env 102) (a : AOk A d u) (f : Fm w s₀ env.locals m news s) {cC S : Addr} {oC : PySem.Obj} {vs : List Value} (hcC : env.cells.lookup (PySem.Str.ofString "script") = some cC) (hoC : s₀.heap.get? cC = some oC) (hdC : oC.data = .cell (some (.ref S)))
    (hS : s₀.heap.IsList S vs.toArray) (hvs : ∀ v ∈ vs, ∃ n t, v = Value.int n t) (hl : vs.length ≤ 63)
    (next : ∀ s' N ns k, Fm w s₀ env.locals (upd m (PySem.Str.ofString "numbers") (.ref N)) ((N, lstE ns k) :: news) s' → (∀ v ∈ ns, IntV v) → ns.length ≤ 6 → (∀ p ∈ news, p.1 ≠ N) → wpAny (Mo w) A (execs (lawT 1) env) Q E s') : wpAny (Mo w) A (execs (lawT 0) env) Q E s := by
  show wpAny _ _ (execs (_ :: lawT 1) env) _ _ _
  walk_at "st"
  refine o_acomp (s₀ := s₀) e (block_fn e) (by kernel_rfl) (by rfl) (by rfl) (fun v y => IntV y) (closure_one (by rfl) hcC) (by rfl) rfl (by kernel_rfl) (by kernel_rfl) ?_ (by intro _; with_unfolding_all rfl)
  repeat walk_at "st"
  refine o_len_lst (isL_keeps hS (Fm.keep (by assumption))) (by rw [List.size_toArray]; omega) ?_; walk_at "gr"
  repeat walk_at "st"
  have hmin : 0 ≤ min (6 : Int) (vs.toArray.size : Int) ∧ min (6 : Int) (vs.toArray.size : Int) ≤ 6 := by omega
  generalize min (6 : Int) (vs.toArray.size : Int) = n at *
  refine o_range ?_
  intro s2 r t1 t2 g2 hr hnr
  (with_reducible rename Fm _ _ _ _ _ _ => fF)
  have f2 := fF.new g2 hr hnr
  clear fF g2 hr hnr
  repeat walk_at "st"
  (with_reducible rename Fm _ _ _ _ _ _ => fF)
  refine o_iter_range (fF.get (.head _)) hmin ?_
  intro s5 it g hi hni
  have f4 := fF.sub (news' := news) fun p hp => .tail _ hp
  have hne := f4.new_ne hni
  have f5 := f4.new g hi hni
  obtain ⟨k, rfl⟩ : ∃ k : Nat, n = k := ⟨n.toNat, by omega⟩
  refine ⟨it, _, _, _, _, m, news, _, rfl, Walks.range a.handled it 0 1 k, by omega, by simpa using hi, ?_, f5, hne, ?_, ?_⟩
  · intro b hb
    simp only [List.mem_cons, List.not_mem_nil, or_false] at hb
    rcases hb with rfl
    exact Heap.lt_size hi
  · intro C i v s8 m8 E' Q' hP hm8 e8 f8 hq
    have gg : Grow s8 s8 := Grow.refl _
    clear fF f4 f5
    obtain ⟨tv, rfl⟩ := hP
    have hc1 : ∀ sc, (compEnvC sc [(PySem.Str.ofString "script", cC)] C env).cells.lookup (PySem.Str.ofString "script") = some cC := fun sc => by simp [compEnvC]
    repeat walk_at "st"
    (with_reducible rename Fm _ _ _ _ _ _ => f9)
    refine r_cell e8 (hc1 _) (f9.keep _ _ hoC) hdC ?_ (by kernel_rfl) (by decide +kernel)
    repeat walk_at "st"
    (with_reducible rename Fm _ _ _ _ _ _ => f9)
    refine r_local e8 (show Fm w _ (compEnvC _ _ C env).locals _ _ _ from f9) hm8 ?_ (by kernel_rfl) (by decide +kernel)
    repeat walk_at "st"
    (with_reducible rename Fm _ _ _ _ _ _ => f9)
    refine o_slice3 (isL_keeps hS f9.keep) (.int _ _) .none (.int _ _) (by decide) (by rw [List.size_toArray]; omega) ?_
    intro s9 D g9 hD
    (with_reducible rename Fm _ _ _ _ _ _ => f9)
    (with_reducible rename Grow s8 _ => g8)
    replace f9 := f9.grow g9
    replace g8 := g8.trans g9
    clear g9
    repeat walk_at "st"
    refine o_sum (k := 0) a hD (fun v hv => hvs v (by simpa using mem_slicePick hv)) ?_
    intro s10 n10 t10 g10
    (with_reducible rename Fm _ _ _ _ _ _ => f9)
    replace f9 := f9.grow g10
    replace g8 := g8.trans g10
    clear g10 hD
    repeat walk_at "st"
    refine o_pow ?_; walk_at "gr"
    refine o_mod (by decide) ?_; walk_at "gr"
    refine hq _ _ ⟨_, _, rfl, ?_, ?_⟩ (by assumption)
    · have := Int.fmod_eq_emod_of_nonneg n10 (b := 1000000) (by decide)
      omega
    · have := Int.fmod_eq_emod_of_nonneg n10 (b := 1000000) (by decide)
      omega
  · intro D s8 ys vs' k8 hvl hvP hpr f8 hnD
    have := paired_all (P := IntV) (fun v y h => h) hpr
    exact next _ _ _ _ f8 this.1 (by omega) hnD
end
section
variable {w : World} {s₀ s : Shared} {L : Addr} {m : PySem.Str → Option Value} {news more : List (Addr × PySem.Obj)} {ps : Array Value}
theorem Fm.promote_keepsB (f : Fm w s₀ L m (more ++ news) s) : ∀ b o, b ≠ 70 → s₀.heap.get? b = some o → (baseOf s L news).heap.get? b = some o := by
  intro b o h7 q
  show (hide _ _).get? b = _
  rw [get_hide, if_neg (fun hb => ?_)]
  · exact f.keep _ _ q
  · rcases List.mem_cons.mp hb with rfl | hb
    · exact h7 rfl
    · rcases List.mem_cons.mp hb with rfl | hb
      · rw [f.fresh] at q; cases q
      · obtain ⟨p, hp, rfl⟩ := List.mem_map.mp hb
        rw [(f.N p (List.mem_append_right _ hp)).2.2] at q; cases q
theorem Fm.add (f : Fm w s₀ L m news s) {a : Addr} {o : PySem.Obj} (h : s.heap.get? a = some o) (hL : a ≠ L) (h0 : s₀.heap.get? a = none) : Fm w s₀ L m (news ++ [(a, o)]) s :=
  ⟨f.ns, f.keep, f.fresh, fun p hp => by
    rcases List.mem_append.mp hp with hp | hp
    · exact f.N p hp
    · rw [List.mem_singleton] at hp; subst hp; exact ⟨h, hL, h0⟩, f.same, f.amb, f.low⟩
theorem lookup_three {a b c : PySem.Str} {x y z : Addr} (h1 : b ≠ a) (h2 : c ≠ a) (h3 : c ≠ b) : ([(c, z), (b, y), (a, x)] : List (PySem.Str × Addr)).lookup a = some x ∧ ([(c, z), (b, y), (a, x)] : List (PySem.Str × Addr)).lookup b = some y ∧ ([(c, z), (b, y), (a, x)] : List (PySem.Str × Addr)).lookup c = some z := by
  have e1 : (a == b) = false := beq_eq_false_iff_ne.mpr (Ne.symm h1)
  have e2 : (a == c) = false := beq_eq_false_iff_ne.mpr (Ne.symm h2)
  have e3 : (b == c) = false := beq_eq_false_iff_ne.mpr (Ne.symm h3)
  refine ⟨?_, ?_, ?_⟩
  · simp only [List.lookup_cons, e1, e2, beq_self_eq_true]
  · simp only [List.lookup_cons, e3, beq_self_eq_true]
  · simp only [List.lookup_cons, beq_self_eq_true]
end
/-- the law's body, from its first statement on, once its frame stands -/
theorem law_all {w : World} {s₀ s : Shared} {A : Around} {E : Value → Shared → Prop} {env : Env} {m : PySem.Str → Option Value} {d u : Nat} {Q : Flow → Shared → Prop} (e : EnvOk env (kindIn 102)) (eF : EnvF env 102) (a : AOk A d u) (hd : d < 600) (hu : u ≤ 1000)
    {cC cF cS S : Addr} {oC oF oS : PySem.Obj} {tp : Array Value} {vs : List Value} {vF vS : Option Value} (f : Fm w s₀ env.locals m [(cF, oF), (cS, oS), (70, tabO tp)] s)
    (hcC : env.cells.lookup (PySem.Str.ofString "script") = some cC) (hcF : env.cells.lookup (PySem.Str.ofString "full") = some cF) (hcS : env.cells.lookup (PySem.Str.ofString "size") = some cS)
    (hoC : s₀.heap.get? cC = some oC) (hdC : oC.data = .cell (some (.ref S))) (hdF : oF.data = .cell vF) (hdS : oS.data = .cell vS) (hFS : cF ≠ cS) (hF7 : cF ≠ 70) (hS7 : cS ≠ 70)
    (hS : s₀.heap.IsList S vs.toArray) (hvs : ∀ v ∈ vs, ∃ n t, v = Value.int n t) (hl : vs.length ≤ 63) (h70 : s₀.heap.get? 70 = none) (hsys : ∃ o, s₀.heap.get? sysModules = some o) (htr : TriplesOk tp.toList) (hbare : AllBare s₀.gens)
    (next : ∀ s' more, (∀ b o, s₀.heap.get? b = some o → s'.heap.get? b = some o) → s'.heap.get? 70 = some (tabO (tp ++ more)) → AllBare s'.gens → s'.os = s₀.os → Q (.ret (.bool true)) s') : wpAny (Mo w) A (execs (lawT 0) env) Q E s := by
  have hrest7 : ∀ {x : Addr}, x ≠ 70 → x ≠ cF → x ≠ cS → ∀ p ∈ [(cF, oF), (cS, oS), ((70 : Addr), tabO tp)], p.1 ≠ x := fun h1 h2 h3 p hp => by
    simp only [List.mem_cons, List.not_mem_nil, or_false] at hp
    rcases hp with rfl | rfl | rfl
    · exact h2.symm
    · exact h3.symm
    · exact h1.symm
  refine law_0 e eF a f hcC hoC hdC hS hvs hl ?_
  clear f
  intro s1 N ns kN f1 hns hn6 hnN
  -- the numbers become part of the base
  have f1' : Fm w s₀ env.locals _ ([(N, lstE ns kN)] ++ [(cF, oF), (cS, oS), (70, tabO tp)]) s1 := f1
  have kp1 := f1'.promote_keeps h70
  have hN7 : N ≠ 70 := (hnN (70, tabO tp) (.tail _ (.tail _ (.head _)))).symm
  have hN1 : (baseOf s1 env.locals [(cF, oF), (cS, oS), (70, tabO tp)]).heap.get? N = some (lstE ns kN) := f1'.promote_get (.head _) hN7 hnN
  have f2 := f1'.promote
  have g1 : (baseOf s1 env.locals [(cF, oF), (cS, oS), (70, tabO tp)]).gens = s₀.gens := f1.out.gens
  have o1 : (baseOf s1 env.locals [(cF, oF), (cS, oS), (70, tabO tp)]).os = s₀.os := f1.out.os
  have h71 : (baseOf s1 env.locals [(cF, oF), (cS, oS), (70, tabO tp)]).heap.get? 70 = none := base70
  generalize baseOf s1 env.locals [(cF, oF), (cS, oS), (70, tabO tp)] = b1 at *
  clear f1 f1'
  refine law_1 e eF a f2 hN1 hns (upd_eq _ _ _) ?_
  clear f2
  intro s3 n t hn30 f3
  refine law_2 e eF a f3 hn30 (upd_eq _ _ _) ?_
  clear f3
  intro s4 P0 PL t' f4
  have hC : ∀ {o : PySem.Obj} {a b : Addr}, (a, o) ∈ (PL, lstO [.ref P0]) :: (P0, tupO [.str (rep (PySem.Str.ofString "abc") n) t, .str (PySem.Str.ofString "'" ++ rep (PySem.Str.ofString "abc") n ++ PySem.Str.ofString "'") t']) :: [(cF, oF), (cS, oS), (70, tabO tp)] →
      ∀ {o' : PySem.Obj}, (b, o') ∈ (PL, lstO [.ref P0]) :: (P0, tupO [.str (rep (PySem.Str.ofString "abc") n) t, .str (PySem.Str.ofString "'" ++ rep (PySem.Str.ofString "abc") n ++ PySem.Str.ofString "'") t']) :: [(cF, oF), (cS, oS), (70, tabO tp)] → o ≠ o' → a ≠ b := fun h1 _ h2 hne q => by
    have e1 := f4.get h1
    rw [q, f4.get h2] at e1
    exact hne (Option.some.inj e1).symm
  have hPL7 : PL ≠ 70 := hC (.head _) (.tail _ (.tail _ (.tail _ (.tail _ (.head _))))) (by intro q; cases q)
  have hPLF : PL ≠ cF := hC (.head _) (.tail _ (.tail _ (.head _))) (by intro q; rw [← q] at hdF; cases hdF)
  have hPLS : PL ≠ cS := hC (.head _) (.tail _ (.tail _ (.tail _ (.head _)))) (by intro q; rw [← q] at hdS; cases hdS)
  have hP07 : P0 ≠ 70 := hC (.tail _ (.head _)) (.tail _ (.tail _ (.tail _ (.tail _ (.head _))))) (by intro q; cases q)
  have hP0F : P0 ≠ cF := hC (.tail _ (.head _)) (.tail _ (.tail _ (.head _))) (by intro q; rw [← q] at hdF; cases hdF)
  have hP0S : P0 ≠ cS := hC (.tail _ (.head _)) (.tail _ (.tail _ (.tail _ (.head _)))) (by intro q; rw [← q] at hdS; cases hdS)
  have hP0L : P0 ≠ PL := hC (.tail _ (.head _)) (.head _) (by intro q; have q := congrArg PySem.Obj.cls q; exact absurd (Value.type.inj q) (by decide))
  -- the first pair becomes part of the base
  have f4' : Fm w b1 env.locals _ ([(P0, tupO [.str (rep (PySem.Str.ofString "abc") n) t, .str (PySem.Str.ofString "'" ++ rep (PySem.Str.ofString "abc") n ++ PySem.Str.ofString "'") t'])] ++ ((PL, lstO [.ref P0]) :: [(cF, oF), (cS, oS), (70, tabO tp)])) s4 := f4.sub fun p hp => by
    rcases List.mem_cons.mp hp with rfl | hp
    · exact .tail _ (.head _)
    · rcases List.mem_cons.mp hp with rfl | hp
      · exact .head _
      · exact .tail _ (.tail _ hp)
  have kp2 := f4'.promote_keeps h71
  have hG0 := f4'.promote_get (.head _) hP07 (fun p hp => by
    rcases List.mem_cons.mp hp with rfl | hp
    · exact hP0L.symm
    · exact hrest7 hP07 hP0F hP0S p hp)
  have f5 := f4'.promote
  have g2 : (baseOf s4 env.locals ((PL, lstO [.ref P0]) :: [(cF, oF), (cS, oS), (70, tabO tp)])).gens = s₀.gens := f4.out.gens.trans g1
  have o2 : (baseOf s4 env.locals ((PL, lstO [.ref P0]) :: [(cF, oF), (cS, oS), (70, tabO tp)])).os = s₀.os := f4.out.os.trans o1
  have h72 : (baseOf s4 env.locals ((PL, lstO [.ref P0]) :: [(cF, oF), (cS, oS), (70, tabO tp)])).heap.get? 70 = none := base70
  generalize baseOf s4 env.locals ((PL, lstO [.ref P0]) :: [(cF, oF), (cS, oS), (70, tabO tp)]) = b2 at *
  clear f4 f4' hC
  have hth : Th b2.heap (.str (rep (PySem.Str.ofString "abc") n) t) (PySem.Str.ofString "'" ++ rep (PySem.Str.ofString "abc") n ++ PySem.Str.ofString "'") 0 := by
    refine Th.str (fun c hc => ?_) ?_
    · have := mem_rep hc
      rw [cl_ofs] at this
      simp at this
      omega
    · rw [length_rep, lens.2.2.2.2.2.2.2.1]; omega
  refine law_3 (kP := 0) e eF a (by omega) (PL := PL) (ps := [.ref P0]) (vx := [(_, _)]) f5 (.tail _ (.tail _ (.head _))) (hrest7 hPL7 hPLF hPLS) h72 (kp2 _ _ hN1) hns hn6 (by walk_at "hv") (upd_eq _ _ _) ⟨⟨P0, t', rfl, hG0⟩, hth.mono (by decide), trivial⟩ rfl hG0 hth rfl ?_
  clear f5
  intro s5 b3 m5 ps kP vx f5 h73 kp3 hmN hmP hPR hl7 hl0 g3 o3
  refine law_4 e eF a f5 hPR hl7 hmP ?_
  clear f5
  intro s6 T kT f6 hTd
  have hT : T ≠ sysModules := fun q => by
    obtain ⟨o, ho⟩ := hsys
    have h1 := kp3 _ _ (kp2 _ _ (kp1 _ _ ho))
    have h2 := (f6.N (T, lstE (vx.map (·.1)) kT) (.head _)).2.2
    rw [show (T, lstE (vx.map (·.1)) kT).1 = T from rfl, q, h1] at h2; cases h2
  refine law_5 e eF a f6 hPR hl7 hl0 (by walk_at "hv") hTd (hrest7 hPL7 hPLF hPLS) hFS hF7 hS7 hcF hcS hdF hdS h73 (let ⟨o, ho⟩ := hsys; ⟨o, kp3 _ _ (kp2 _ _ (kp1 _ _ ho))⟩) ⟨ns, kN, kp3 _ _ (kp2 _ _ hN1), hns, hn6⟩ ?_
  clear f6
  intro s7 b4 f7 c kp4 g4 o4
  have hmT : upd m5 (PySem.Str.ofString "things") (.ref T) (PySem.Str.ofString "things") = some (.ref T) := upd_eq _ _ _
  have hmN' : upd m5 (PySem.Str.ofString "things") (.ref T) (PySem.Str.ofString "numbers") = some (.ref N) := by walk_at "hv"
  generalize upd m5 (PySem.Str.ofString "things") (.ref T) = m7 at *
  refine law_7 e eF a (by omega) (by omega) c hT hmT f7 ?_
  clear f7
  intro s8 tB f8
  refine law_9 e eF a (by omega) (by omega) c (upd_eq _ _ _) f8 ?_
  clear f8
  intro s9 f9
  refine law_11 e eF a c (by walk_at "hv") f9 ?_
  clear f9
  intro s10 W ws kW f10 hws hw6 hWd
  refine law_12 e eF a (by omega) (by omega) c (by walk_at "hv") (upd_eq _ _ _) f10 hws hw6 ?_
  clear f10
  intro s11 m11 hmT11 f11
  refine law_13 e eF a (by omega) (by omega) c hT hmT11 f11 (fun p hp => nomatch hp) htr ?_
  clear f11
  intro s12 z12 more12 R1 t1 hb12 ho12 htr12 f12 _ hR17
  refine law_14 (s₀ := { z12 with heap := b4.heap }) (keep := [(R1, tupO [.str (shortOf (fullOf (vx.map (·.2))) 5 63) t1])]) e eF a (by omega) (by omega) c hT (by walk_at "hv") (f12.sub fun p hp => ?_) (fun p hp => ?_) htr12 ?_
  · simp only [List.mem_cons, List.not_mem_nil, or_false] at hp
    rcases hp with rfl | rfl
    · exact .tail _ (.head _)
    · exact .head _
  · rw [List.mem_singleton] at hp; subst hp; exact hR17
  clear f12
  intro s13 z13 more13 R2 t2 t3 hb13 ho13 htr13 f13 _ _
  refine law_15 (s₀ := { z13 with heap := b4.heap }) e eF a (by omega) (by omega) c (R1 := R1) (R2 := R2) (by walk_at "hv") (upd_eq _ _ _) f13 (.tail _ (.tail _ (.head _))) (.head _) ?_
  clear f13
  intro s14 m14 hmA hmB f14
  refine law_18 (s₀ := { z13 with heap := b4.heap }) e eF a (by omega) (by omega) c hmB f14 (.head _) ?_
  clear f14
  intro s15 Wh t4 t5 kWh f15
  refine law_19 (s₀ := { z13 with heap := b4.heap }) e eF a (by omega) (by omega) c (by walk_at "hv") (by walk_at "hv") (upd_eq _ _ _) f15 (.tail _ (.tail _ (.tail _ (.head _)))) (.tail _ (.head _)) (.head _) ?_
  clear f15
  intro s16 m16 f16
  refine next s16 (more12 ++ more13) (fun b o q => f16.keep _ _ (kp4 _ _ (kp3 _ _ (kp2 _ _ (kp1 _ _ q))))) ?_ ?_ ?_
  · have := f16.get (a := 70) (o := tabO (tp ++ more12 ++ more13)) (.tail _ (.tail _ (.head _)))
    rwa [Array.append_assoc] at this
  · have : s16.gens = z13.gens := f16.out.gens
    rw [this]
    refine hb13 (hb12 ?_)
    rw [g4, g3, g2]
    exact hbare
  · have : s16.os = z13.os := f16.out.os
    rw [this, ho13]
    show z12.os = _
    rw [ho12, o4, o3, o2]
theorem addr_facts (n : Nat) (h : 70 < n) : (n + 1 ≠ n ∧ n + 1 + 1 ≠ n ∧ n + 1 + 1 + 1 ≠ n) ∧ (n + 1 + 1 ≠ n + 1 ∧ n + 1 + 1 + 1 ≠ n + 1 ∧ n + 1 + 1 ≠ n + 1 + 1 + 1) ∧ (n ≤ n + 1 ∧ n ≤ n + 1 + 1 ∧ n ≤ n + 1 + 1 + 1) ∧ (n + 1 ≠ 70 ∧ n + 1 + 1 ≠ 70 ∧ n + 1 + 1 + 1 ≠ 70 ∧ 70 ≠ n) := by omega
set_option maxHeartbeats 4000000 in
theorem c_law {w : World} {s : Shared} {A : Around} {E : Value → Shared → Prop} {Q : Value → Shared → Prop} {S : Addr} {vs : List Value} {ps : Array Value} {d u : Nat} (X : Amb w s.heap) (ao : AOk A d u) (hd : d < 500) (hu : u ≤ 500) (h70 : s.heap.get? 70 = some (tabO ps)) (htr : TriplesOk ps.toList) (hsys : ∃ o, s.heap.get? sysModules = some o)
    (hS : s.heap.IsList S vs.toArray) (hvs : ∀ v ∈ vs, ∃ n t, v = Value.int n t) (hl : vs.length ≤ 63) (hbare : AllBare s.gens)
    (h : ∀ s' more, (∀ b o, b ≠ 70 → s.heap.get? b = some o → s'.heap.get? b = some o) → s'.heap.get? 70 = some (tabO (ps ++ more)) → AllBare s'.gens → s'.os = s.os → Q (.bool true) s') : wpAny (Mo w) A (call (.ref 102) [.ref S]) Q E s := by
  refine enterC [(PySem.Str.ofString "script", .ref S)] [] X ao rfl rfl (by kernel_rfl) (plainBind X.k (fun _ => by kernel_rfl)) (by kernel_rfl) ?_
  intro env s₁ sx e eF hcells gx hLx hnw hi a1
  have hcl : env.cells = [(PySem.Str.ofString "size", env.locals + 1 + 1 + 1), (PySem.Str.ofString "full", env.locals + 1 + 1), (PySem.Str.ofString "script", env.locals + 1)] := by rw [hcells]; rfl
  obtain ⟨hcC, hcF, hcS⟩ : env.cells.lookup (PySem.Str.ofString "script") = some (env.locals + 1) ∧ env.cells.lookup (PySem.Str.ofString "full") = some (env.locals + 1 + 1) ∧ env.cells.lookup (PySem.Str.ofString "size") = some (env.locals + 1 + 1 + 1) := by rw [hcl]; exact lookup_three (ofs_ne (by decide)) (ofs_ne (by decide)) (ofs_ne (by decide))
  have hkA : env.kindOf (PySem.Str.ofString "script") = some .cell := (e.kindOf _).trans (by kernel_rfl)
  obtain ⟨o1, ho1, hd1⟩ := hi.cell _ _ hcC
  obtain ⟨o2, ho2, hd2⟩ := hi.cell _ _ hcF
  obtain ⟨o3, ho3, hd3⟩ := hi.cell _ _ hcS
  have hb1 : bindC env.kindOf [(PySem.Str.ofString "script", Value.ref S)] (fun _ => none) (PySem.Str.ofString "script") = some (.ref S) := by unfold bindC bindC; rw [if_neg (by rw [hkA]; decide)]; simp
  rw [hb1] at hd1
  have fresh : ∀ b, sx.heap.objs.size ≤ b → s.heap.get? b = none := fun b hb => by
    cases hq : s.heap.get? b with
    | none => rfl
    | some o => exact absurd (Heap.lt_size (gx.kp _ _ hq)) (Nat.not_lt.mpr hb)
  have h7lt : 70 < sx.heap.objs.size := Heap.lt_size (gx.kp _ _ h70)
  obtain ⟨⟨a1', a2, a3⟩, ⟨a4, a5, a6⟩, ⟨a7, a8, a9⟩, a10, a11, a12, a13⟩ := addr_facts env.locals (by rw [hLx]; exact h7lt)
  rw [← hLx] at fresh
  have f : Fm w s env.locals (bindL env.kindOf [(PySem.Str.ofString "script", Value.ref S)] fun _ => none) ([(env.locals + 1, o1)] ++ [(env.locals + 1 + 1, o2), (env.locals + 1 + 1 + 1, o3)]) s₁ := by
    refine ⟨hi.toInCall.ns, fun b o q => hi.toInCall.keep _ _ (gx.kp _ _ q), fresh _ (Nat.le_refl _), fun p hp => ?_, ?_, X.keeps fun b o q => hi.toInCall.keep _ _ (gx.kp _ _ q), X⟩
    · simp only [List.cons_append, List.nil_append, List.mem_cons, List.not_mem_nil, or_false] at hp
      rcases hp with rfl | rfl | rfl
      · exact ⟨ho1, a1', fresh _ a7⟩
      · exact ⟨ho2, a2, fresh _ a8⟩
      · exact ⟨ho3, a3, fresh _ a9⟩
    · obtain ⟨h', tk', q⟩ := hi.toInCall.same
      rw [q, gx.same]
  have hne : ∀ p ∈ [(env.locals + 1 + 1, o2), (env.locals + 1 + 1 + 1, o3)], p.1 ≠ env.locals + 1 := fun p hp => by
    simp only [List.mem_cons, List.not_mem_nil, or_false] at hp
    rcases hp with rfl | rfl
    · exact a4
    · exact a5
  have kp := f.promote_keepsB
  have hC := f.promote_get (.head _) a10 hne
  have f2 := f.promote.add (f.keep _ _ h70) a13 base70
  have hgen : (baseOf s₁ env.locals [(env.locals + 1 + 1, o2), (env.locals + 1 + 1 + 1, o3)]).gens = s.gens := f.out.gens
  have hos : (baseOf s₁ env.locals [(env.locals + 1 + 1, o2), (env.locals + 1 + 1 + 1, o3)]).os = s.os := f.out.os
  have hb7 : (baseOf s₁ env.locals [(env.locals + 1 + 1, o2), (env.locals + 1 + 1 + 1, o3)]).heap.get? 70 = none := base70
  generalize baseOf s₁ env.locals [(env.locals + 1 + 1, o2), (env.locals + 1 + 1 + 1, o3)] = b0 at *
  have hS7 : S ≠ 70 := fun q => by
    obtain ⟨oS, hoS, hcS', _⟩ := hS
    rw [q, h70] at hoS; cases hoS; cases hcS'
  have hSb : b0.heap.IsList S vs.toArray := by
    obtain ⟨oS, hoS, r⟩ := hS
    exact ⟨oS, kp _ _ hS7 hoS, r⟩
  refine law_all (Q := fun fl s' => Q (match fl with | .ret v => v | _ => .none) s') e eF a1 (by omega) (by omega) f2 hcC hcF hcS hC hd1 hd2 hd3 a6 a11 a12 hSb hvs hl hb7 (let ⟨o, q⟩ := hsys; ⟨o, kp _ _ (by decide) q⟩) htr (by rw [hgen]; exact hbare) ?_
  intro s' more k1 k2 k3 k4
  exact h s' more (fun b o hb q => k1 _ _ (kp _ _ hb q)) k2 k3 (k4.trans hos)
theorem ints_of {vs : List Value} {ns : List Int} (h : IntsAre vs ns) : ∀ v ∈ vs, ∃ n t, v = Value.int n t := by
  induction h with
  | nil => intro v hv; cases hv
  | cons n t _ ih =>
    intro v hv
    rcases List.mem_cons.mp hv with rfl | hv
    · exact ⟨n, t, rfl⟩
    · exact ih v hv
theorem csr_in : ((recsOf hd.view_39).find? fun e => e.name == PySem.Str.ofString "_common_shorten_repr").isSome = true := by kernel_rfl
theorem no_imports : importsNone hd.view_39 = true := by kernel_rfl
set_option maxHeartbeats 4000000 in
theorem top_all {w : World} {loose : List PySem.Str} {mean : ExcName → Option Value} {mg mb : PySem.Str → Option Value} {h : Heap} (KX : (KK w).In h) (T : Top hd.view_39 loose mean mg mb h) : Amb w h ∧ h.TableAt 74 70 #[] ∧ ∃ o, h.get? sysModules = some o := by
  refine ⟨⟨KX, ⟨mb, T.b, T.builtins⟩, ?_⟩, ?_, ?_⟩
  · obtain ⟨bm, ob, h1, h2, h3, h4, h5, h6⟩ := T.bmain
    have h4' : mg "__builtins__" = some (.ref 4) := mg_of KX T.g (by kernel_rfl)
    rw [h4'] at h1
    cases h1
    exact ⟨ob, h3, h4, h5, h6⟩
  · obtain ⟨d, hd⟩ := Option.isSome_iff_exists.mp csr_in
    have hn : d.name = PySem.Str.ofString "_common_shorten_repr" := beq_iff_eq.mp (List.find?_some (p := fun e : DefRec => e.name == PySem.Str.ofString "_common_shorten_repr") hd)
    obtain ⟨a, o, fd, c, P, h1, h2, h3, h4, h5, h6⟩ := T.tab d (List.mem_of_find?_eq_some hd)
    have h75 : mg (PySem.Str.ofString "_common_shorten_repr") = some (.ref 75) := mg_of KX T.g (by kernel_rfl)
    rw [hn, h75] at h1
    cases h1
    have hk := KX 75 _ rfl
    rw [h2] at hk
    have hk := Option.some.inj hk
    subst hk
    have h3 := Data.func.inj h3
    subst h3
    have h4 := Value.ref.inj h4
    subst h4
    have hk := KX 74 _ rfl
    obtain ⟨⟨o, vs, e1, e2, e3, e4⟩, e5⟩ := h6
    rw [hk] at e1
    have e1 := Option.some.inj e1
    subst e1
    have e3 := Data.fields.inj e3
    subst e3
    have e4 : (70 : Addr) = P := Value.ref.inj (Option.some.inj e4)
    subst e4
    exact ⟨⟨_, _, hk, rfl, rfl, rfl⟩, e5⟩
  · obtain ⟨mm, ⟨o, _, _, q, _⟩, _⟩ := (T.seer no_imports).mods
    exact ⟨o, q⟩
theorem oldK_of {h h' : Heap} {more : Array Value} (t : h.TableAt 74 70 #[]) (k1 : ∀ b o, b ≠ 70 → h.get? b = some o → h'.get? b = some o) (k2 : h'.get? 70 = some (tabO (#[] ++ more))) : OldK h h' := by
  refine ⟨fun b o q => ?_, fun b o q => ?_⟩
  · by_cases hb : b = 70
    · subst hb
      rw [t.2] at q
      cases q
      exact .inr (.inl ⟨t.isCodeTable, rfl, #[], more, rfl, k2⟩)
    · exact .inl (k1 _ _ hb q)
  · by_cases hb : b = 70
    · subst hb; exact ⟨_, k2⟩
    · exact ⟨o, k1 _ _ hb q⟩
set_option maxHeartbeats 4000000 in
theorem trial : PySem.Challenge.rw_mj0072_01.Holds := hd (by
  intro w s₀ s₁ mg mb G Y fa o pm cd doc dV kV ho hd' hcd hD hmg hg args vals as hpre hlay hrd hwl hlo
  have KX := kIn_of Y
  have T := G.T
  have h102 : mg (PySem.Str.ofString "law") = some (.ref 102) := mg_of KX T.g (by kernel_rfl)
  have hfa : fa = 102 := by rw [h102] at hmg; cases hmg; rfl
  subst hfa
  obtain ⟨X, tab, hsys⟩ := top_all KX T
  clear hd' ho hcd hD hmg
  wrow_args hpre hlay hrd hwl hlo
  rename s₁.heap.IsList _ _ => hL
  rename IntsAre _ _ => hI
  rename ¬ _ < _ => hc63
  have hlen := hI.length
  refine c_law (d := 301) (u := 4) X ⟨rfl, rfl, by decide, by decide⟩ (by decide) (by decide) tab.2 trivial hsys hL (ints_of hI) (by omega) (.of_eq hg) ?_
  intro s' more k1 k2 k3 k4
  refine ⟨.inl ⟨_, .bool true, [], rfl, fun _ => rfl, ReadsW.bool true, ?_, fun _ => ⟨List.nodup_nil, fun _ hm => nomatch hm⟩⟩, oldK_of tab k1 k2, k4, k3⟩
  first | rfl | wrow_post)
end Mine
theorem PySem.Challenge.cw_mj0072_01_holds : PySem.Challenge.rw_mj0072_01.Holds :=
  Mine.trial
