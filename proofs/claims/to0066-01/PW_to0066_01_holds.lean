import PyProof.Rows.All
import Wide.All
import OpenK.AllK
import Wide.FinOn
import PySem.Challenge.RW_to0066_01
open PySem PySem.W PyProof.Rows
set_option Elab.async false

section
open PySem PySem.W PyProof.Rows
set_option Elab.async false
set_option maxRecDepth 100000
set_option maxHeartbeats 8000000
namespace Mine
/-- The head's quick twins of the greatest constants weigh 30 MB as compiled proofs, more than a compiled file may. Where the twin's name is taken, the head goes on without it. -/
noncomputable def seed : Str := Str.ofString "x"
theorem seed_eq : seed = seed := rfl
end Mine
name_quick tw8075568018651887793 for Mine.seed by Mine.seed_eq
name_quick tw6059929106960060952 for Mine.seed by Mine.seed_eq
name_quick tw6733733256287894996 for Mine.seed by Mine.seed_eq
name_quick tw11678793297473532301 for Mine.seed by Mine.seed_eq
name_quick tw12519041734039769493 for Mine.seed by Mine.seed_eq
name_quick tw14979626087600564940 for Mine.seed by Mine.seed_eq
name_quick tw13988732525274261415 for Mine.seed by Mine.seed_eq
name_quick tw1158146176485857559 for Mine.seed by Mine.seed_eq
name_quick tw17016373728026468306 for Mine.seed by Mine.seed_eq
name_quick tw7244113946720332995 for Mine.seed by Mine.seed_eq
name_quick tw16804044748790271530 for Mine.seed by Mine.seed_eq
name_quick tw15260796648200649335 for Mine.seed by Mine.seed_eq
name_quick tw10459078713815827633 for Mine.seed by Mine.seed_eq
namespace Mine
open_top hd for PySem.Challenge.rw_to0066_01
end Mine
end

section
open PySem PySem.W PyProof.Rows
set_option autoImplicit false
set_option linter.all false
set_option maxRecDepth 100000
namespace Mine

noncomputable abbrev pr : Program := PySem.Challenge.pw_to0066_01
noncomputable abbrev KK (w : World) : Frag := hd.heap_39 w.params

/-- plain data -/
inductive P where
  | none | bool (b : Bool) | int (i : Int) | str (x : List Nat) | list (l : List P) | tup (l : List P) | hdr (l : List P) | tab (l : Addr) | edict | val (v : Value)

noncomputable abbrev S (x : List Nat) : Str := ⟨x.toArray⟩

mutual
inductive Rep (h : Heap) (X : Addr → Prop) : Value → P → Prop
  | none : Rep h X .none .none
  | bool (b : Bool) : Rep h X (.bool b) (.bool b)
  | int (i : Int) (t : Tok) : Rep h X (.int i t) (.int i)
  | str (x : List Nat) (t : Tok) : Rep h X (.str (S x) t) (.str x)
  | val (v : Value) : Rep h X v (.val v)
  | list {a : Addr} {vs : List Value} {n : Nat} {ps : List P} (ho : h.get? a = some { cls := .type "list", data := .seq vs.toArray n }) (hx : ¬ X a) (r : Reps h X vs ps) : Rep h X (.ref a) (.list ps)
  | tup {a : Addr} {vs : List Value} {n : Nat} {ps : List P} (ho : h.get? a = some { cls := .type "tuple", data := .seq vs.toArray n }) (hx : ¬ X a) (r : Reps h X vs ps) : Rep h X (.ref a) (.tup ps)
  | hdr {x dx l : Addr} {hs : Int} {t : Tok} {vs : List Value} {k n : Nat} {ps : List P} (h1 : h.get? x = some (instObj 224 dx)) (h2 : h.get? dx = some (dictOf [⟨hs, .str (Str.ofString "_headers") t, .ref l⟩] k))
      (h3 : h.get? l = some { cls := .type "list", data := .seq vs.toArray n }) (x1 : ¬ X x) (x2 : ¬ X dx) (x3 : ¬ X l) (r : Reps h X vs ps) : Rep h X (.ref x) (.hdr ps)
  | tab {x dx l : Addr} {hs : Int} {t : Tok} {k : Nat} (h1 : h.get? x = some (instObj 224 dx)) (h2 : h.get? dx = some (dictOf [⟨hs, .str (Str.ofString "_headers") t, .ref l⟩] k)) (x1 : ¬ X x) (x2 : ¬ X dx) : Rep h X (.ref x) (.tab l)
  | edict {a : Addr} (h1 : h.get? a = some emptyDict) (x1 : ¬ X a) (lo : 283 ≤ a) : Rep h X (.ref a) .edict
inductive Reps (h : Heap) (X : Addr → Prop) : List Value → List P → Prop
  | nil : Reps h X [] []
  | cons {v : Value} {p : P} {vs : List Value} {ps : List P} (a : Rep h X v p) (r : Reps h X vs ps) : Reps h X (v :: vs) (p :: ps)
end

section
variable {h h' : Heap} {X X' : Addr → Prop}
mutual
theorem Rep.mono (k : ∀ b o, ¬ X b → h.get? b = some o → h'.get? b = some o ∧ ¬ X' b) : ∀ {v : Value} {p : P}, Rep h X v p → Rep h' X' v p
  | _, _, .none => .none
  | _, _, .bool b => .bool b
  | _, _, .int i t => .int i t
  | _, _, .str x t => .str x t
  | _, _, .val v => .val v
  | _, _, .list ho hx r => .list (k _ _ hx ho).1 (k _ _ hx ho).2 (Reps.mono k r)
  | _, _, .tup ho hx r => .tup (k _ _ hx ho).1 (k _ _ hx ho).2 (Reps.mono k r)
  | _, _, .hdr h1 h2 h3 x1 x2 x3 r => .hdr (k _ _ x1 h1).1 (k _ _ x2 h2).1 (k _ _ x3 h3).1 (k _ _ x1 h1).2 (k _ _ x2 h2).2 (k _ _ x3 h3).2 (Reps.mono k r)
  | _, _, .tab h1 h2 x1 x2 => .tab (k _ _ x1 h1).1 (k _ _ x2 h2).1 (k _ _ x1 h1).2 (k _ _ x2 h2).2
  | _, _, .edict h1 x1 lo => .edict (k _ _ x1 h1).1 (k _ _ x1 h1).2 lo
theorem Reps.mono (k : ∀ b o, ¬ X b → h.get? b = some o → h'.get? b = some o ∧ ¬ X' b) : ∀ {vs : List Value} {ps : List P}, Reps h X vs ps → Reps h' X' vs ps
  | _, _, .nil => .nil
  | _, _, .cons a r => .cons (Rep.mono k a) (Reps.mono k r)
end
theorem Reps.length : ∀ {vs : List Value} {ps : List P}, Reps h X vs ps → vs.length = ps.length
  | _, _, .nil => rfl
  | _, _, .cons _ r => congrArg (· + 1) r.length
theorem Reps.get : ∀ {vs : List Value} {ps : List P}, Reps h X vs ps → ∀ (i : Nat) (v : Value), vs[i]? = some v → ∃ p, ps[i]? = some p ∧ Rep h X v p
  | _, _, .nil, i, v, e => by simp at e
  | _, _, .cons a r, 0, v, e => by simp at e; subst e; exact ⟨_, rfl, a⟩
  | _, _, .cons a r, i + 1, v, e => by
    obtain ⟨p, hp, hr⟩ := r.get i v (by simpa using e)
    exact ⟨p, by simpa using hp, hr⟩
theorem Reps.append : ∀ {vs ws : List Value} {ps qs : List P}, Reps h X vs ps → Reps h X ws qs → Reps h X (vs ++ ws) (ps ++ qs)
  | _, _, _, _, .nil, y => y
  | _, _, _, _, .cons a r, y => .cons a (r.append y)
theorem Reps.drop : ∀ {vs : List Value} {ps : List P} (n : Nat), Reps h X vs ps → Reps h X (vs.drop n) (ps.drop n)
  | _, _, 0, x => by simpa using x
  | _, _, n + 1, .nil => by simpa using Reps.nil
  | _, _, n + 1, .cons _ r => by simpa using r.drop n
theorem Reps.take : ∀ {vs : List Value} {ps : List P} (n : Nat), Reps h X vs ps → Reps h X (vs.take n) (ps.take n)
  | _, _, 0, x => by simpa using Reps.nil
  | _, _, n + 1, .nil => by simpa using Reps.nil
  | _, _, n + 1, .cons a r => by simpa using .cons a (r.take n)
end

/-- what a step may turn: the heap, the tokens, what the world has drawn -/
noncomputable def Same (s s' : Shared) : Prop := ∃ h tk, { s' with drawn := s.drawn } = { s with heap := h, toks := tk }
theorem Same.gens {s s' : Shared} (x : Same s s') : s'.gens = s.gens := by
  obtain ⟨h, tk, e⟩ := x
  have := congrArg Shared.gens e
  exact this
theorem Same.os {s s' : Shared} (x : Same s s') : s'.os = s.os := by
  obtain ⟨h, tk, e⟩ := x
  have := congrArg Shared.os e
  exact this
theorem Same.of {s s' : Shared} (hg : s'.gens = s.gens) (ho : s'.os = s.os) : Same s s' := ⟨s'.heap, s'.toks, by
  obtain ⟨_, _, _, _, _⟩ := s
  obtain ⟨_, _, _, _, _⟩ := s'
  dsimp only at hg ho
  subst hg; subst ho; rfl⟩
theorem Same.trans {s s' s'' : Shared} (x : Same s s') (y : Same s' s'') : Same s s'' := .of (y.gens.trans x.gens) (y.os.trans x.os)

structure Ext (s s' : Shared) : Prop where
  same : Same s s'
  keep : ∀ b o, s.heap.get? b = some o → s'.heap.get? b = some o

theorem Ext.refl (s : Shared) : Ext s s := ⟨⟨s.heap, s.toks, rfl⟩, fun _ _ e => e⟩
theorem Ext.trans {s s' s'' : Shared} (x : Ext s s') (y : Ext s' s'') : Ext s s'' := ⟨x.same.trans y.same, fun b o e => y.keep b o (x.keep b o e)⟩
theorem Ext.tok (s : Shared) (t : Nat) : Ext s { s with toks := t } := ⟨⟨s.heap, t, rfl⟩, fun _ _ e => e⟩
theorem Ext.of {s : Shared} {h : Heap} {t : Nat} (k : ∀ b o, s.heap.get? b = some o → h.get? b = some o) : Ext s { s with heap := h, toks := t } := ⟨⟨h, t, rfl⟩, k⟩
theorem Ext.ofH {s : Shared} {h : Heap} (k : ∀ b o, s.heap.get? b = some o → h.get? b = some o) : Ext s { s with heap := h } := ⟨⟨h, s.toks, rfl⟩, k⟩
theorem Ext.push (s : Shared) (o : Obj) : Ext s { s with heap := s.heap.push o } := .ofH fun _ _ e => Heap.get?_push_of_some _ e
theorem Rep.ext {s s' : Shared} {X : Addr → Prop} {v : Value} {p : P} (r : Rep s.heap X v p) (x : Ext s s') : Rep s'.heap X v p := r.mono fun b o n e => ⟨x.keep b o e, n⟩
theorem Reps.ext {s s' : Shared} {X : Addr → Prop} {v : List Value} {p : List P} (r : Reps s.heap X v p) (x : Ext s s') : Reps s'.heap X v p := r.mono fun b o n e => ⟨x.keep b o e, n⟩

structure G (w : World) (h : Heap) : Prop where
  kin : (KK w).In h
  g : ∃ mg, h.Ns mainGlobals mg
  b : ∃ mb, h.Ns builtinsNs mb ∧ ∀ x : Str, x ≠ "__name__" → mb x = bootBuiltins x
  nolimit : h.NoLimit

theorem K_low (w : World) : ((KK w).map (·.1)).all (fun a => decide (a < 283)) = true := by kernel_rfl!
theorem K_mem {w : World} {a : Addr} {o : Obj} (e : (KK w).lookup a = some o) : a < 283 := by
  have hm : (a, o) ∈ KK w := by
    generalize KK w = l at e
    induction l with
    | nil => cases e
    | cons p r ih =>
      obtain ⟨b, x⟩ := p
      rw [List.lookup_cons] at e
      split at e
      · rename_i q; cases e; rw [beq_iff_eq.mp q]; exact .head _
      · exact .tail _ (ih e)
  have := List.all_eq_true.mp (K_low w) a (List.mem_map_of_mem (f := (·.1)) hm)
  exact of_decide_eq_true this

theorem Heap.Ns.at'' {h h' : Heap} {a : Addr} {m : Str → Option Value} (hn : h.Ns a m) (k : ∀ o, h.get? a = some o → h'.get? a = some o) : h'.Ns a m :=
  let ⟨o, es, ep, e, r⟩ := hn; ⟨o, es, ep, k _ e, r⟩

theorem G.keepLow {w : World} {h h' : Heap} (x : G w h) (k : ∀ b o, b < 283 → h.get? b = some o → h'.get? b = some o) : G w h' where
  kin := fun a o e => k a o (K_mem e) (x.kin a o e)
  g := let ⟨m, hm⟩ := x.g; ⟨m, Heap.Ns.at'' hm fun o e => k _ o (by decide) e⟩
  b := let ⟨m, hm, r⟩ := x.b; ⟨m, Heap.Ns.at'' hm fun o e => k _ o (by decide) e, r⟩
  nolimit := let ⟨m, hm, r⟩ := x.nolimit; ⟨m, Heap.Ns.at'' hm fun o e => k _ o (by decide) e, r⟩
theorem G.keeps {w : World} {h h' : Heap} (x : G w h) (k : ∀ b o, h.get? b = some o → h'.get? b = some o) : G w h' := x.keepLow fun b o _ e => k b o e
theorem G.high {w : World} {h : Heap} (x : G w h) : 283 ≤ h.objs.size := by
  have e : ((KK w).lookup 282).isSome = true := by kernel_rfl!
  obtain ⟨o, ho⟩ := Option.isSome_iff_exists.mp e
  exact Heap.lt_size (x.kin _ _ ho)

structure Room (A : Around) (n : Nat) : Prop where
  hd : A.handled = none
  dp : A.depth + n < recursionLimit
  un : A.units + 10 * n < cLine
theorem Room.le {A : Around} {n m : Nat} (x : Room A n) (h : m ≤ n) : Room A m := ⟨x.hd, by have := x.dp; omega, by have := x.un; omega⟩
theorem Room.deeper {A : Around} {n : Nat} {env : Env} (x : Room A (n + 1)) : Room (A.deeper env) n := by
  refine ⟨x.hd, ?_, ?_⟩
  · have := x.dp; show A.depth + 1 + n < _; omega
  · have := x.un; show A.units + 3 + 10 * n < _; omega

structure XOk (h : Heap) (X : Addr → Prop) : Prop where
  high : ∀ b, X b → 283 ≤ b
  live : ∀ b, X b → ∃ o, h.get? b = some o
theorem XOk.keeps {h h' : Heap} {X : Addr → Prop} (x : XOk h X) (k : ∀ b o, h.get? b = some o → h'.get? b = some o) : XOk h' X := ⟨x.high, fun b hb => let ⟨o, e⟩ := x.live b hb; ⟨o, k _ _ e⟩⟩
theorem Heap.get_size (h : Heap) (a : Addr) (ha : h.objs.size ≤ a) : h.get? a = none := by
  cases e : h.get? a with
  | none => rfl
  | some o => exact absurd (Heap.lt_size e) (Nat.not_lt.mpr ha)
theorem XOk.fresh {h : Heap} {X : Addr → Prop} (x : XOk h X) {a : Addr} (ha : h.objs.size ≤ a) : ¬ X a := fun hx => by
  obtain ⟨o, e⟩ := x.live a hx
  exact absurd (Heap.lt_size e) (Nat.not_lt.mpr ha)

structure Frm (env : Env) (h : Heap) (X : Addr → Prop) : Prop where
  kind : env.scope.kind = .function
  glob : env.globals = mainGlobals
  bi : env.builtins = builtinsNs
  ns : ∃ m, h.Ns env.locals m
  lx : X env.locals
  cellx : ∀ n c, env.cells.lookup n = some c → X c ∧ c ≠ env.locals ∧ ∃ v, h.IsCell c v
  apart : env.cells.Pairwise fun x y => x.2 ≠ y.2
  x : XOk h X
theorem Frm.keeps {env : Env} {h h' : Heap} {X : Addr → Prop} (x : Frm env h X) (k : ∀ b o, h.get? b = some o → h'.get? b = some o) : Frm env h' X :=
  ⟨x.kind, x.glob, x.bi, let ⟨m, hm⟩ := x.ns; ⟨m, hm.keeps k⟩, x.lx, fun n c e => let ⟨a, b, v, hv⟩ := x.cellx n c e; ⟨a, b, v, hv.keeps k⟩, x.apart, x.x.keeps k⟩

inductive VarIs (env : Env) (h : Heap) (X : Addr → Prop) (n : Str) (p : P) : Prop
  | loc {m : Str → Option Value} {v : Value} (hk : env.kindOf n = some .local) (hn : h.Ns env.locals m) (hv : m n = some v) (r : Rep h X v p)
  | cell {c : Addr} {v : Value} (hk : env.kindOf n = some .cell) (hc : env.cells.lookup n = some c) (hv : h.IsCell c (some v)) (r : Rep h X v p)
theorem VarIs.keeps {env : Env} {h h' : Heap} {X : Addr → Prop} {n : Str} {p : P} (x : VarIs env h X n p) (k : ∀ b o, h.get? b = some o → h'.get? b = some o) : VarIs env h' X n p := by
  cases x with
  | loc hk hn hv r => exact .loc hk (hn.keeps k) hv (r.mono fun b o nx e => ⟨k b o e, nx⟩)
  | cell hk hc hv r => exact .cell hk hc (hv.keeps k) (r.mono fun b o nx e => ⟨k b o e, nx⟩)

noncomputable abbrev Rho := List (Str × P)
noncomputable def Vars (env : Env) (h : Heap) (X : Addr → Prop) (ρ : Rho) : Prop := ∀ n p, ρ.lookup n = some p → VarIs env h X n p
theorem Vars.keeps {env : Env} {h h' : Heap} {X : Addr → Prop} {ρ : Rho} (x : Vars env h X ρ) (k : ∀ b o, h.get? b = some o → h'.get? b = some o) : Vars env h' X ρ := fun n p e => (x n p e).keeps k

structure Ok (w : World) (n : Nat) (env : Env) (ρ : Rho) (A : Around) (X : Addr → Prop) (s : Shared) : Prop where
  room : Room A n
  g : G w s.heap
  f : Frm env s.heap X
  vars : Vars env s.heap X ρ
theorem Ok.ext {w : World} {n : Nat} {env : Env} {ρ : Rho} {A : Around} {X : Addr → Prop} {s s' : Shared} (x : Ok w n env ρ A X s) (e : Ext s s') : Ok w n env ρ A X s' :=
  ⟨x.room, x.g.keeps e.keep, x.f.keeps e.keep, x.vars.keeps e.keep⟩

/-- an expression yields p -/
noncomputable def SemE (w : World) (n : Nat) (env : Env) (ρ : Rho) (e : Expr) (p : P) : Prop :=
  ∀ (A : Around) (X : Addr → Prop) (s : Shared) (Q : Value → Shared → Prop) (E : Value → Shared → Prop), Ok w n env ρ A X s →
    (∀ v s', Ext s s' → Rep s'.heap X v p → Q v s') → wpAny (model pr w) A (eval e env) Q E s

/-- arguments -/
noncomputable def SemA (w : World) (n : Nat) (env : Env) (ρ : Rho) (es : List Expr) (ps : List P) : Prop :=
  ∀ (pos : Pos) (A : Around) (X : Addr → Prop) (s : Shared) (Q : List Value → Shared → Prop) (E : Value → Shared → Prop), Ok w n env ρ A X s →
    (∀ vs s', Ext s s' → Reps s'.heap X vs ps → Q vs s') → wpAny (model pr w) A (spliced (backTo pos (starEach es env))) Q E s

/-- a call -/
noncomputable def SemC (w : World) (n : Nat) (f : Value) (args : List P) (p : P) : Prop :=
  ∀ (A : Around) (X : Addr → Prop) (s : Shared) (vs : List Value) (Q : Value → Shared → Prop) (E : Value → Shared → Prop), Room A n → G w s.heap → XOk s.heap X → Reps s.heap X vs args →
    (∀ v s', Ext s s' → Rep s'.heap X v p → Q v s') → wpAny (model pr w) A (call f vs) Q E s

theorem SemC.le {w : World} {n m : Nat} {f : Value} {args : List P} {p : P} (x : SemC w n f args p) (h : n ≤ m) : SemC w m f args p :=
  fun A X s vs Q E r => x A X s vs Q E (r.le h)

section
variable {w : World} {n : Nat} {env : Env} {ρ : Rho}

theorem SemE.var {x : Str} {pos : Pos} {p : P} (h : ρ.lookup x = some p) (hd : (x == ("__debug__" : Str)) = false := by decide) : SemE w n env ρ (.Name x pos) p := by
  intro A X s Q E ok k
  cases ok.vars x p h with
  | loc hk hn hv r => exact wpAny_Name (wpAny_loadName_local ok.f.kind hk hn hv (k _ _ (.refl s) r)) hd
  | cell hk hc hv r => exact wpAny_Name (wpAny_loadName_cell ok.f.kind hk hc hv (k _ _ (.refl s) r)) hd
theorem SemE.int {i : Int} {k : Nat} {pos : Pos} : SemE w n env ρ (.Constant (.int i) k pos) (.int i) :=
  fun _ _ s _ _ _ h => wpAny_Constant_int (h _ _ (.tok s _) (.int i _))
theorem SemE.strc {x : Str} {k : Nat} {pos : Pos} : SemE w n env ρ (.Constant (.str x) k pos) (.str x.cps.toList) :=
  fun _ _ s _ _ _ h => Calls.Constant_str (h _ _ (.tok s _) (.str x.cps.toList _))

theorem glob_any {x : Str} {pos : Pos} {v : Value} {A : Around} {X : Addr → Prop} {s : Shared} {Q E : Value → Shared → Prop} (ok : Ok w n env ρ A X s)
    (e : nsIn (KK w) mainGlobals x = some (some v)) (hx : env.kindOf x = some .globalImplicit) (hd : (x == ("__debug__" : Str)) = false) (h : Q v s) : wpAny (model pr w) A (eval (.Name x pos) env) Q E s := by
  obtain ⟨mg, hg⟩ := ok.g.g
  exact Calls.Name_function_global ok.f.kind hx (Calls.loadGlobal_global (by rw [ok.f.glob]; exact hg) (mg_of ok.g.kin hg e) h) hd
theorem bi_any {x : Str} {pos : Pos} {v : Value} {A : Around} {X : Addr → Prop} {s : Shared} {Q E : Value → Shared → Prop} (ok : Ok w n env ρ A X s)
    (e : nsIn (KK w) mainGlobals x = some none) (hv : bootBuiltins x = some v) (hn : x ≠ "__name__") (hx : env.kindOf x = some .globalImplicit) (hd : (x == ("__debug__" : Str)) = false) (h : Q v s) :
    wpAny (model pr w) A (eval (.Name x pos) env) Q E s := by
  obtain ⟨mg, hg⟩ := ok.g.g
  obtain ⟨mb, hb, hbb⟩ := ok.g.b
  exact Calls.Name_function_global ok.f.kind hx (Calls.loadGlobal_builtin (by rw [ok.f.glob]; exact hg) (mg_none_of ok.g.kin hg e) (by rw [ok.f.bi]; exact hb) ((hbb x hn).trans hv) h) hd
end
end Mine
end

section
open PySem PySem.W PyProof.Rows
set_option autoImplicit false
set_option linter.all false
set_option maxRecDepth 100000
namespace Mine

/-- a test yields b -/
noncomputable def SemT (w : World) (n : Nat) (env : Env) (ρ : Rho) (e : Expr) (b : Bool) : Prop :=
  ∀ (A : Around) (X : Addr → Prop) (s : Shared) (Q : Bool → Shared → Prop) (E : Value → Shared → Prop), Ok w n env ρ A X s →
    (∀ s', Ext s s' → Q b s') → wpAny (model pr w) A (isTrue e env (eval e env)) Q E s

theorem sL : sizeLine = 16777216 := by rw [sizeLine_eq]

section
variable {w : World} {n : Nat} {env : Env} {ρ : Rho}

theorem SemE.globInt {x : Str} {pos : Pos} {i : Int} {t : Tok} (e : nsIn (KK w) mainGlobals x = some (some (.int i t))) (hx : env.kindOf x = some .globalImplicit := by rfl) (hd : (x == ("__debug__" : Str)) = false := by decide) :
    SemE w n env ρ (.Name x pos) (.int i) := fun _ _ s _ _ ok k => glob_any ok e hx hd (k _ _ (.refl s) (.int i t))
theorem SemE.cnone {k : Nat} {pos : Pos} : SemE w n env ρ (.Constant .none k pos) .none := fun _ _ s _ _ _ h => fun _ _ _ => h _ _ (.refl s) .none
theorem SemE.cbool {b : Bool} {k : Nat} {pos : Pos} : SemE w n env ρ (.Constant (.bool b) k pos) (.bool b) := fun _ _ s _ _ _ h => fun _ _ _ => h _ _ (.refl s) (.bool b)

theorem bin {l r : Expr} {op : Operator} {pos : Pos} {p q o : P} (hl : SemE w n env ρ l p) (hr : SemE w n env ρ r q)
    (h : ∀ (A : Around) (X : Addr → Prop) (s : Shared) (Q E : Value → Shared → Prop) (a b : Value), Room A n → XOk s.heap X → Rep s.heap X a p → Rep s.heap X b q →
      (∀ v s', Ext s s' → Rep s'.heap X v o → Q v s') → wpAny (model pr w) A (binaryOp op a b) Q E s) : SemE w n env ρ (.BinOp l op r pos) o := by
  intro A X s Q E ok k
  refine wpAny_BinOp (hl A X s _ E ok fun a s₁ e₁ ra => hr A X s₁ _ E (ok.ext e₁) fun b s₂ e₂ rb => ?_)
  exact h A X s₂ Q E a b ok.room (ok.f.x.keeps (e₁.trans e₂).keep) (ra.ext e₂) rb fun v s' e₃ rv => k v s' ((e₁.trans e₂).trans e₃) rv

theorem SemE.addI {l r : Expr} {pos : Pos} {i j : Int} (hl : SemE w n env ρ l (.int i)) (hr : SemE w n env ρ r (.int j)) : SemE w n env ρ (.BinOp l .Add r pos) (.int (i + j)) :=
  bin hl hr fun A X s Q E a b _ _ ra rb k => by cases ra; cases rb; exact PyProof.Rows.add_int (k _ _ (.tok s _) (.int _ _))
theorem SemE.subI {l r : Expr} {pos : Pos} {i j : Int} (hl : SemE w n env ρ l (.int i)) (hr : SemE w n env ρ r (.int j)) : SemE w n env ρ (.BinOp l .Sub r pos) (.int (i - j)) :=
  bin hl hr fun A X s Q E a b _ _ ra rb k => by cases ra; cases rb; exact PyProof.Rows.sub_int (k _ _ (.tok s _) (.int _ _))
theorem SemE.addS {l r : Expr} {pos : Pos} {x y : List Nat} (hl : SemE w n env ρ l (.str x)) (hr : SemE w n env ρ r (.str y)) (hz : x.length + y.length ≤ 16777216) : SemE w n env ρ (.BinOp l .Add r pos) (.str (x ++ y)) :=
  bin hl hr fun A X s Q E a b _ _ ra rb k => by
    cases ra; cases rb
    have e : (S x ++ S y : Str) = S (x ++ y) := by show Str.append _ _ = _; simp [Str.append]
    exact PyProof.Rows.add_str (fun t' tk => by rw [e]; exact k _ _ (.tok s _) (.str _ _)) (by rw [sL]; simpa [Str.length] using hz)

theorem SemE.neg {e : Expr} {pos : Pos} {i : Int} (he : SemE w n env ρ e (.int i)) : SemE w n env ρ (.UnaryOp .USub e pos) (.int (-i)) := by
  intro A X s Q E ok k
  show wpAny _ A (do let v ← eval e env; standAt pos; holding [v] (unaryOp .USub v)) Q E s
  refine wpAny_bind (he A X s _ E ok fun v s₁ e₁ rv => wpAny_bind (wpAny_standAt (wpAny_holding ?_)))
  cases rv
  exact PyProof.Rows.neg_int (k _ _ (e₁.trans (.tok s₁ _)) (.int _ _))

theorem cmp {l r : Expr} {op : CmpOp} {pos : Pos} {p q : P} {b : Bool} (hl : SemE w n env ρ l p) (hr : SemE w n env ρ r q)
    (h : ∀ (A : Around) (X : Addr → Prop) (s : Shared) (Q E : Value → Shared → Prop) (a c : Value), Room A n → Rep s.heap X a p → Rep s.heap X c q →
      (∀ s', Ext s s' → Q (.bool b) s') → wpAny (model pr w) A (compareOp op a c) Q E s) (hm : behindInMarks op r = false := by with_unfolding_all rfl) :
    SemE w n env ρ (.Compare l [op] [r] pos) (.bool b) := by
  intro A X s Q E ok k
  refine wpAny_Compare1 (hl A X s _ E ok fun a s₁ e₁ ra => hr A X s₁ _ E (ok.ext e₁) fun c s₂ e₂ rc => ?_) hm
  exact h A X s₂ Q E a c ok.room (ra.ext e₂) rc fun s' e₃ => k _ s' ((e₁.trans e₂).trans e₃) (.bool b)
theorem cmpT {l r : Expr} {op : CmpOp} {pos : Pos} {p q : P} {b : Bool} (hl : SemE w n env ρ l p) (hr : SemE w n env ρ r q)
    (h : ∀ (A : Around) (X : Addr → Prop) (s : Shared) (Q E : Value → Shared → Prop) (a c : Value), Room A n → Rep s.heap X a p → Rep s.heap X c q →
      (∀ s', Ext s s' → Q (.bool b) s') → wpAny (model pr w) A (compareOp op a c) Q E s) (hm : behindInMarks op r = false := by with_unfolding_all rfl) :
    SemT w n env ρ (.Compare l [op] [r] pos) b := by
  intro A X s Q E ok k
  refine wpAny_isTrue_Compare1 (hl A X s _ E ok fun a s₁ e₁ ra => hr A X s₁ _ E (ok.ext e₁) fun c s₂ e₂ rc => ?_) hm
  exact h A X s₂ _ E a c ok.room (ra.ext e₂) rc fun s' e₃ => wpAny_truthy_bool (k s' ((e₁.trans e₂).trans e₃))

noncomputable def CmpR (w : World) (n : Nat) (op : CmpOp) (p q : P) (b : Bool) : Prop :=
  ∀ (A : Around) (X : Addr → Prop) (s : Shared) (Q E : Value → Shared → Prop) (a c : Value), Room A n → Rep s.heap X a p → Rep s.heap X c q →
      (∀ s', Ext s s' → Q (.bool b) s') → wpAny (model pr w) A (compareOp op a c) Q E s
theorem SemE.cmp {l r : Expr} {op : CmpOp} {pos : Pos} {p q : P} {b : Bool} (hl : SemE w n env ρ l p) (hr : SemE w n env ρ r q) (h : CmpR w n op p q b) (hm : behindInMarks op r = false := by with_unfolding_all rfl) :
    SemE w n env ρ (.Compare l [op] [r] pos) (.bool b) := Mine.cmp hl hr h hm
theorem SemT.cmp {l r : Expr} {op : CmpOp} {pos : Pos} {p q : P} {b : Bool} (hl : SemE w n env ρ l p) (hr : SemE w n env ρ r q) (h : CmpR w n op p q b) (hm : behindInMarks op r = false := by with_unfolding_all rfl) :
    SemT w n env ρ (.Compare l [op] [r] pos) b := Mine.cmpT hl hr h hm
theorem CmpR.eqI (i j : Int) : CmpR w n .Eq (.int i) (.int j) (i == j) := fun A X s Q E a c _ ra rc k => by cases ra; cases rc; exact PyProof.Rows.eq_int (k _ (.refl s))
theorem CmpR.ltI (i j : Int) : CmpR w n .Lt (.int i) (.int j) (decide (i < j)) := fun A X s Q E a c _ ra rc k => by cases ra; cases rc; exact PyProof.Rows.lt_int (k _ (.refl s))
theorem CmpR.leI (i j : Int) : CmpR w n .LtE (.int i) (.int j) (decide (i ≤ j)) := fun A X s Q E a c _ ra rc k => by cases ra; cases rc; exact PyProof.Rows.le_int (k _ (.refl s))
theorem CmpR.gtI (i j : Int) : CmpR w n .Gt (.int i) (.int j) (decide (j < i)) := fun A X s Q E a c _ ra rc k => by cases ra; cases rc; exact PyProof.Rows.gt_int (k _ (.refl s))
theorem CmpR.geI (i j : Int) : CmpR w n .GtE (.int i) (.int j) (decide (j ≤ i)) := fun A X s Q E a c _ ra rc k => by cases ra; cases rc; exact PyProof.Rows.ge_int (k _ (.refl s))
theorem S_beq (x y : List Nat) : (S x == S y) = (x == y) := by
  rw [Bool.eq_iff_iff]; simp [S]
theorem CmpR.eqS (x y : List Nat) : CmpR w n .Eq (.str x) (.str y) (x == y) := fun A X s Q E a c _ ra rc k => by
  cases ra; cases rc; exact PyProof.Rows.eq_str (by rw [S_beq]; exact k _ (.refl s))
theorem CmpR.neS (x y : List Nat) : CmpR w n .NotEq (.str x) (.str y) (x != y) := fun A X s Q E a c _ ra rc k => by
  cases ra; cases rc; exact PyProof.Rows.ne_str (by rw [bne, S_beq]; exact k _ (.refl s))

theorem SemE.ifexp {t a b : Expr} {pos : Pos} {c : Bool} {p : P} (ht : SemT w n env ρ t c) (h1 : c = true → SemE w n env ρ a p) (h2 : c = false → SemE w n env ρ b p) : SemE w n env ρ (.IfExp t a b pos) p := by
  intro A X s Q E ok k
  show wpAny _ A (do if ← isTrue t env (eval t env) then eval a env else eval b env) Q E s
  refine wpAny_bind (ht A X s _ E ok fun s₁ e₁ => ?_)
  cases c with
  | true => exact h1 rfl A X s₁ Q E (ok.ext e₁) fun v s' e r => k v s' (e₁.trans e) r
  | false => exact h2 rfl A X s₁ Q E (ok.ext e₁) fun v s' e r => k v s' (e₁.trans e) r

theorem SemT.not {e : Expr} {pos : Pos} {b : Bool} (h : SemT w n env ρ e b) : SemT w n env ρ (.UnaryOp .Not e pos) (!b) :=
  fun A X s Q E ok k => isTrue_not (h A X s _ E ok fun s' e' => k s' e')
theorem SemT.orNil {pos : Pos} : SemT w n env ρ (.BoolOp .Or [] pos) false := fun A X s Q E ok k => isTrue_or_nil (k s (.refl s))
theorem SemT.andNil {pos : Pos} : SemT w n env ρ (.BoolOp .And [] pos) true := fun A X s Q E ok k => isTrue_and_nil (k s (.refl s))
theorem SemT.or {e : Expr} {es : List Expr} {pos : Pos} {b c : Bool} (h : SemT w n env ρ e b) (hs : b = false → SemT w n env ρ (.BoolOp .Or es pos) c) : SemT w n env ρ (.BoolOp .Or (e :: es) pos) (b || c) := by
  intro A X s Q E ok k
  refine isTrue_or (h A X s _ E ok fun s₁ e₁ => ?_)
  cases b with
  | true => exact k s₁ e₁
  | false => exact hs rfl A X s₁ Q E (ok.ext e₁) fun s' e => k s' (e₁.trans e)
theorem SemT.and {e : Expr} {es : List Expr} {pos : Pos} {b c : Bool} (h : SemT w n env ρ e b) (hs : b = true → SemT w n env ρ (.BoolOp .And es pos) c) : SemT w n env ρ (.BoolOp .And (e :: es) pos) (b && c) := by
  intro A X s Q E ok k
  refine isTrue_and (h A X s _ E ok fun s₁ e₁ => ?_)
  cases b with
  | false => exact k s₁ e₁
  | true => exact hs rfl A X s₁ Q E (ok.ext e₁) fun s' e => k s' (e₁.trans e)
theorem SemT.ofStr {e : Expr} {x : List Nat} (h : SemE w n env ρ e (.str x)) (hz : x.length ≤ 16777216) (he : ∀ whole, isTrue e env whole = (do let v ← whole; standAt e.pos; holding [v] (truthy v)) := by intro _; rfl) : SemT w n env ρ e (!x.isEmpty) := by
  intro A X s Q E ok k
  refine isTrue_plain (h A X s _ E ok fun v s₁ e₁ rv => ?_) (he _)
  cases rv
  refine P.truthy_str (by simp [Str.length]; omega) ?_
  have : (((S x).length : Int) != 0) = !x.isEmpty := by cases x <;> simp [Str.length] ; omega
  rw [this]
  exact k _ (e₁.trans (.tok s₁ _))
theorem SemT.ofBool {e : Expr} {b : Bool} (h : SemE w n env ρ e (.bool b)) (he : ∀ whole, isTrue e env whole = (do let v ← whole; standAt e.pos; holding [v] (truthy v)) := by intro _; rfl) : SemT w n env ρ e b := by
  intro A X s Q E ok k
  refine isTrue_plain (h A X s _ E ok fun v s₁ e₁ rv => ?_) (he _)
  cases rv
  exact wpAny_truthy_bool (k _ e₁)

theorem SemA.nil : SemA w n env ρ [] [] := fun pos A X s Q E ok k => args_nil (k _ _ (.refl s) .nil)
theorem SemA.cons {e : Expr} {es : List Expr} {p : P} {ps : List P} (h : SemE w n env ρ e p) (hs : SemA w n env ρ es ps) (he : starEach (e :: es) env = (false, eval e env) :: starEach es env := by rfl) :
    SemA w n env ρ (e :: es) (p :: ps) := by
  intro pos A X s Q E ok k
  refine args_cons (h A X s _ E ok fun v s₁ e₁ rv => hs pos A X s₁ _ E (ok.ext e₁) fun vs s₂ e₂ rvs => ?_) he
  exact k _ _ (e₁.trans e₂) (.cons (rv.ext e₂) rvs)

end
end Mine
end

section
open PySem PySem.W PyProof.Rows
set_option autoImplicit false
set_option linter.all false
set_option maxRecDepth 100000
namespace Mine

/-- a bound of a slice, brought into 0 .. n -/
noncomputable def bnd (v : Option Int) (d n : Nat) : Nat := match v with
  | none => d
  | some i => (max 0 (min (if i < 0 then i + n else i) n)).toNat
noncomputable def pySl {α : Type} (l u : Option Int) (x : List α) : List α := (x.drop (bnd l 0 x.length)).take (bnd u x.length x.length - bnd l 0 x.length)
theorem bnd_le {v : Option Int} {d n : Nat} (h : d ≤ n) : bnd v d n ≤ n := by
  cases v with
  | none => exact h
  | some i => simp only [bnd]; omega
theorem bnd_int (i : Int) (d n : Nat) : ((bnd (some i) d n : Nat) : Int) = max 0 (min (if i < 0 then i + n else i) n) := by
  simp only [bnd]; omega
theorem idx_eq (l u : Option Int) (n : Nat) : Builtin.Str.strSliceIndices l u 1 n = (List.range (bnd u n n - bnd l 0 n)).map (bnd l 0 n + ·) := by
  rw [← sliceRange_one]
  unfold Builtin.Str.strSliceIndices
  simp only [show (1 : Int) > 0 by decide, if_true]
  congr 1
  · cases l with
    | none => rfl
    | some i => rw [bnd_int]
  · cases u with
    | none => rfl
    | some i => rw [bnd_int]
theorem pick_eq (l u : Option Int) (vs : List Value) : slicePick vs.toArray l u none = (pySl l u vs).toArray := by
  have e : sliceBounds l u none vs.toArray.size = ((bnd l 0 vs.length : Int), ((bnd u vs.length vs.length : Nat) : Int), 1) := by
    unfold sliceBounds
    simp only [Option.getD_none, show (1 : Int) > 0 by decide, if_true, List.size_toArray]
    congr 1
    · cases l with
      | none => rfl
      | some i => rw [bnd_int]
    · congr 1
      cases u with
      | none => rfl
      | some i => rw [bnd_int]
  unfold slicePick
  rw [e]
  simp only
  rw [sliceRange_one, pick_run]
  rfl

theorem pySl_from {α : Type} (x : List α) (k : Nat) : pySl (some (k : Int)) none x = x.drop k := by
  unfold pySl bnd
  have h : ¬ ((k : Int) < 0) := by omega
  simp only [h, if_false]
  by_cases hk : k ≤ x.length
  · have : (max 0 (min (k : Int) (x.length : Int))).toNat = k := by omega
    rw [this]
    exact List.take_of_length_le (by simp)
  · have : (max 0 (min (k : Int) (x.length : Int))).toNat = x.length := by omega
    rw [this, List.drop_of_length_le (Nat.le_refl _), List.drop_of_length_le (by omega)]
    simp
theorem pySl_to {α : Type} (x : List α) (k : Nat) : pySl none (some (k : Int)) x = x.take k := by
  unfold pySl bnd
  have h : ¬ ((k : Int) < 0) := by omega
  simp only [h, if_false, List.drop_zero, Nat.sub_zero]
  by_cases hk : k ≤ x.length
  · have : (max 0 (min (k : Int) (x.length : Int))).toNat = k := by omega
    rw [this]
  · have : (max 0 (min (k : Int) (x.length : Int))).toNat = x.length := by omega
    rw [this, List.take_of_length_le (Nat.le_refl _), List.take_of_length_le (by omega)]
theorem pySl_le {α : Type} (l u : Option Int) (x : List α) : (pySl l u x).length ≤ x.length := by
  unfold pySl
  simp only [List.length_take, List.length_drop]; omega
theorem Reps.sl {h : Heap} {X : Addr → Prop} {vs : List Value} {ps : List P} (l u : Option Int) (r : Reps h X vs ps) : Reps h X (pySl l u vs) (pySl l u ps) := by
  unfold pySl
  rw [r.length]
  exact (r.drop _).take _

/-- a part of a slice -/
noncomputable def SemPt (w : World) (n : Nat) (env : Env) (ρ : Rho) (e : Option Expr) (o : Option Int) : Prop :=
  ∀ (A : Around) (X : Addr → Prop) (s : Shared) (Q : Value → Shared → Prop) (E : Value → Shared → Prop), Ok w n env ρ A X s →
    (∀ v s', Ext s s' → (∃ y : Option (Int × Tok), v = partValue y ∧ y.map (·.1) = o) → Q v s') → wpAny (model pr w) A (evalPart e env) Q E s

theorem isPart_of {v : Value} {o : Option Int} (h : ∃ y : Option (Int × Tok), v = partValue y ∧ y.map (·.1) = o) : IsPart v o := by
  obtain ⟨y, rfl, rfl⟩ := h
  cases y with
  | none => exact .none
  | some q => exact .int _ _

section
variable {w : World} {n : Nat} {env : Env} {ρ : Rho}
theorem SemPt.none : SemPt w n env ρ none none := fun A X s Q E ok k => wpAny_pure (k _ _ (.refl s) ⟨.none, rfl, rfl⟩)
theorem SemPt.some {e : Expr} {i : Int} (h : SemE w n env ρ e (.int i)) : SemPt w n env ρ (some e) (some i) := fun A X s Q E ok k =>
  evalPart_some_step (h A X s Q E ok fun v s' e r => by cases r; exact k _ _ e ⟨.some (i, _), rfl, rfl⟩)

theorem SemE.slS {value : Expr} {lower upper : Option Expr} {p pos : Pos} {x : List Nat} {l u : Option Int} (hv : SemE w n env ρ value (.str x)) (hl : SemPt w n env ρ lower l) (hu : SemPt w n env ρ upper u) (hz : x.length ≤ 16777216)
    (ht : ∀ o r, letTemporaryGo value o r = pure () := by intro _ _; rfl) : SemE w n env ρ (.Subscript value (.Slice lower upper none p) pos) (.str (pySl l u x)) := by
  intro A X s Q E ok k
  refine wpAny_Subscript_str_slice (hv A X s _ E ok fun o s₁ e₁ r => ?_) ht
  cases r with
  | str _ t =>
  refine hl A X s₁ _ E (ok.ext e₁) fun vl s₂ e₂ h₂ => hu A X s₂ _ E (ok.ext (e₁.trans e₂)) fun vu s₃ e₃ h₃ => ?_
  obtain ⟨yl, rfl, rfl⟩ := h₂
  obtain ⟨yu, rfl, rfl⟩ := h₃
  refine ⟨S x, t, yl, yu, rfl, rfl, rfl, ?_⟩
  unfold sliceMade slicePicked
  have hlen : (S x).length = x.length := by simp [Str.length]
  simp only [Option.map_none, Option.getD_none]
  rw [hlen, idx_eq]
  have hp : ((List.range (bnd (yu.map (·.1)) x.length x.length - bnd (yl.map (·.1)) 0 x.length)).map (bnd (yl.map (·.1)) 0 x.length + ·)).filterMap ((S x).cps[·]?) = pySl (yl.map (·.1)) (yu.map (·.1)) x := by
    rw [pick_run]; rfl
  split
  · rename_i hc
    have hl2 : bnd (yl.map (·.1)) 0 x.length ≤ x.length := bnd_le (Nat.zero_le _)
    have hu2 : bnd (yu.map (·.1)) x.length x.length ≤ x.length := bnd_le (Nat.le_refl _)
    simp only [List.length_map, List.length_range, Bool.and_eq_true, beq_iff_eq] at hc
    have e : pySl (yl.map (·.1)) (yu.map (·.1)) x = x := by
      unfold pySl
      have h0 : bnd (yl.map (·.1)) 0 x.length = 0 := by omega
      rw [h0]
      simp only [List.drop_zero]
      exact List.take_of_length_le (by omega)
    refine k _ _ (((e₁.trans e₂).trans e₃).trans (.push s₃ _)) ?_
    rw [e]; exact .str x t
  · rw [hp]
    refine ⟨?_, k _ _ (((e₁.trans e₂).trans e₃).trans ((Ext.push s₃ _).trans (.tok _ _))) (.str _ _)⟩
    rw [sL]
    show (pySl _ _ x).toArray.size ≤ _
    rw [List.size_toArray]
    exact Nat.le_trans (pySl_le _ _ _) hz

theorem SemE.slL {value : Expr} {lower upper : Option Expr} {p pos : Pos} {x : List P} {l u : Option Int} (hv : SemE w n env ρ value (.list x)) (hl : SemPt w n env ρ lower l) (hu : SemPt w n env ρ upper u) (hz : x.length ≤ 16777216) :
    SemE w n env ρ (.Subscript value (.Slice lower upper none p) pos) (.list (pySl l u x)) := by
  intro A X s Q E ok k
  refine PyProof.Rows.Subscript_ (hv A X s _ E ok fun o s₁ e₁ r => ?_)
  cases r with
  | @list a vs ne _ ho hx r =>
  refine wpAny_Slice (hl A X s₁ _ E (ok.ext e₁) fun vl s₂ e₂ h₂ => hu A X s₂ _ E (ok.ext (e₁.trans e₂)) fun vu s₃ e₃ h₃ => ?_)
  have e := e₂.trans e₃
  rw [evalPart_none]
  refine wpAny_pure ?_
  have hl₃ : (s₃.heap.push { cls := .type "slice", data := .fields #[vl, vu, .none] }).IsList a vs.toArray := Heap.IsList.push ⟨_, e.keep _ _ ho, rfl, ne, rfl⟩ _
  show wpAny _ A (subscriptTail value (.Slice lower upper none p) (.ref a) (.ref s₃.heap.objs.size)) Q E { s₃ with heap := s₃.heap.push { cls := .type "slice", data := .fields #[vl, vu, .none] } }
  unfold subscriptTail
  have hT : ({ s₃ with heap := s₃.heap.push { cls := .type "slice", data := .fields #[vl, vu, .none] } } : Shared).TypeIs (.ref a) "list" := hl₃.typeIs
  refine wpAny_bind ?_
  rw [getitemInPython_of_ne hT.not_modules]
  refine wpAny_bind (wpAny_specialOf hT list_getitem_lookup ?_)
  have fin : wpAny (model pr w) A (subscripted (.Slice lower upper none p) false (.ref a) (.ref s₃.heap.objs.size)) (fun r s₄ => wpAny (model pr w) A (letTemporaryGo value (.ref a) r >>= fun _ => pure r) Q E s₄) E { s₃ with heap := s₃.heap.push { cls := .type "slice", data := .fields #[vl, vu, .none] } } := by
    show wpAny _ A (operate [_, _] (getItem _ _)) _ E _
    refine wpAny_operating (wpAny_getItem_list_slice hl₃ (Heap.IsSliceOf.new ..) (isPart_of h₂) (isPart_of h₃) .none (by simp) ?_ (by rw [sL, List.size_toArray, r.length]; exact hz))
    refine wpAny_bind (wpAny_letTemporaryGo (wpAny_pure ?_))
    rw [pick_eq]
    have e' := e.trans (Ext.push s₃ { cls := .type "slice", data := .fields #[vl, vu, .none] })
    have e'' := e'.trans (Ext.push { s₃ with heap := s₃.heap.push { cls := .type "slice", data := .fields #[vl, vu, .none] } } { cls := .type "list", data := .seq (pySl l u vs).toArray })
    refine k _ _ (e₁.trans e'') (.list (Heap.get?_push_size _ rfl) ?_ ((r.sl l u).ext e''))
    exact (ok.f.x.keeps (e₁.trans e').keep).fresh (Nat.le_refl _)
  first
    | exact wpAny_pure (wpAny_bind fin)
    | exact wpAny_bind (wpAny_pure (wpAny_bind fin))
    | exact wpAny_bind fin

theorem idxL {p : Pos} {value slice : Expr} {x : List P} {k : Nat} {q : P} (hv : SemE w n env ρ value (.list x)) (hi : SemE w n env ρ slice (.int (k : Int))) (hq : x[k]? = some q) (hk : k < 2 ^ 62)
    (hs : ∀ o i, subscripted slice false o i = operate [o, i] (getItem o i) := by intro _ _; rfl) : SemE w n env ρ (.Subscript value slice p) q := by
  intro A X s Q E ok kk
  refine PyProof.Rows.Subscript_ (hv A X s _ E ok fun o s₁ e₁ r => hi A X s₁ _ E (ok.ext e₁) fun i s₂ e₂ ri => ?_)
  have r := r.ext e₂
  cases ri
  cases r with
  | @list a vs ne _ ho hx r =>
  have hl : s₂.heap.IsList a vs.toArray := ⟨_, ho, rfl, ne, rfl⟩
  obtain ⟨v, hv'⟩ : ∃ v, vs[k]? = some v := by
    have : k < vs.length := by rw [r.length]; exact (List.getElem?_eq_some_iff.mp hq).1
    exact ⟨vs[k], List.getElem?_eq_some_iff.mpr ⟨this, rfl⟩⟩
  obtain ⟨q', hq', rq⟩ := r.get k v hv'
  rw [hq] at hq'; cases hq'
  unfold subscriptTail
  refine wpAny_bind ?_
  rw [getitemInPython_of_ne hl.typeIs.not_modules]
  refine wpAny_bind (wpAny_specialOf hl.typeIs list_getitem_lookup ?_)
  have fin : ∀ u, wpAny (model pr w) A (subscripted slice false (.ref a) (.int (k : Int) u)) (fun r s₄ => wpAny (model pr w) A (letTemporaryGo value (.ref a) r >>= fun _ => pure r) Q E s₄) E s₂ := by
    intro u
    rw [hs]
    refine wpAny_operating (wpAny_getItem_list hl (by omega) (by omega) (x := v) (by simpa using hv') ?_)
    exact wpAny_bind (wpAny_letTemporaryGo (wpAny_pure (kk _ _ (e₁.trans e₂) rq)))
  first
    | exact wpAny_pure (wpAny_bind (fin _))
    | exact wpAny_bind (wpAny_pure (wpAny_bind (fin _)))
    | exact wpAny_bind (fin _)
theorem SemE.idxL {p : Pos} {value slice : Expr} {x : List P} {i : Int} {k : Nat} {q : P} (hv : SemE w n env ρ value (.list x)) (hi : SemE w n env ρ slice (.int i)) (hik : i = (k : Int)) (hq : x[k]? = some q) (hk : k < 2 ^ 62)
    (hs : ∀ o i, subscripted slice false o i = operate [o, i] (getItem o i) := by intro _ _; rfl) : SemE w n env ρ (.Subscript value slice p) q := by
  subst hik; exact Mine.idxL hv hi hq hk hs

theorem SemE.idxT {p : Pos} {value slice : Expr} {x : List P} {i : Int} {k : Nat} {q : P} (hv : SemE w n env ρ value (.tup x)) (hi : SemE w n env ρ slice (.int i)) (hik : i = (k : Int)) (hq : x[k]? = some q) (hk : k < 2 ^ 62)
    (hs : ∀ o i, subscripted slice false o i = operate [o, i] (getItem o i) := by intro _ _; rfl) (ht : ∀ o r, letTemporaryGo value o r = pure () := by intro _ _; rfl) : SemE w n env ρ (.Subscript value slice p) q := by
  subst hik
  intro A X s Q E ok kk
  refine PyProof.Rows.Subscript_ (hv A X s _ E ok fun o s₁ e₁ r => hi A X s₁ _ E (ok.ext e₁) fun i s₂ e₂ ri => ?_)
  have r := r.ext e₂
  cases ri
  cases r with
  | @tup a vs ne _ ho hx r =>
  have hl : IsTup s₂.heap a vs.toArray := ⟨_, ho, rfl, ne, rfl⟩
  obtain ⟨v, hv'⟩ : ∃ v, vs[k]? = some v := by
    have : k < vs.length := by rw [r.length]; exact (List.getElem?_eq_some_iff.mp hq).1
    exact ⟨vs[k], List.getElem?_eq_some_iff.mpr ⟨this, rfl⟩⟩
  obtain ⟨q', hq', rq⟩ := r.get k v hv'
  rw [hq] at hq'; cases hq'
  have hlt : k < vs.length := (List.getElem?_eq_some_iff.mp hv').1
  exact item_tupleL hl (by omega) (by omega) (j := k) (by
    unfold seqIndex?
    have h : ¬ ((k : Int) < 0) := by omega
    simp only [h, if_false]
    rw [if_pos (by simp only [Bool.and_eq_true, decide_eq_true_eq]; omega)]
    simp) hv' (kk _ _ (e₁.trans e₂) rq) (hs _ _) (ht _)

theorem SemE.idxS {p : Pos} {value slice : Expr} {x : List Nat} {i : Int} {k : Nat} {c : Nat} (hv : SemE w n env ρ value (.str x)) (hi : SemE w n env ρ slice (.int i)) (hik : seqIndex? i x.length = some k) (hq : x[k]? = some c) (hz : x.length ≤ 16777216) (hf : -(2 ^ 62) ≤ i ∧ i ≤ 2 ^ 62)
    (hs : ∀ o i, subscripted slice false o i = operate [o, i] (getItem o i) := by intro _ _; rfl) : SemE w n env ρ (.Subscript value slice p) (.str [c]) := by
  intro A X s Q E ok kk
  refine PyProof.Rows.Subscript_ (hv A X s _ E ok fun o s₁ e₁ r => hi A X s₁ _ E (ok.ext e₁) fun i s₂ e₂ ri => ?_)
  cases ri
  cases r
  rename_i t u
  refine subscriptTail_builtin (typeIs_str _ _ _) F.slot_str_getitem.lookup (PyProof.Rows.getItem_str (c := c) ?_ ?_ (kk _ _ ((e₁.trans e₂).trans (.tok s₂ _)) (.str [c] _))) (hs _ _) (fun r => ?_)
  · simp only [Bool.or_eq_false_iff, decide_eq_false_iff_not]; omega
  · rw [show (S x).length = x.length by simp [Str.length], hik]
    simpa using hq
  · unfold letTemporaryGo; split <;> first | rfl | (rename_i h; cases h)

theorem SemE.listD {es : List Expr} {pos : Pos} {ps : List P} (h : SemA w n env ρ es ps) (hz : ps.length ≤ 16777216) : SemE w n env ρ (.List es pos) (.list ps) := by
  intro A X s Q E ok k
  rw [arm_eval_List]
  refine wpAny_bind (wpAny_standAt (wpAny_bind (h pos A X s _ E ok fun vs s₁ e₁ r => wpAny_newList ?_ ?_)))
  · exact k _ _ (e₁.trans (.push s₁ _)) (.list (Heap.get?_push_size _ rfl) ((ok.f.x.keeps e₁.keep).fresh (Nat.le_refl _)) (r.ext (.push s₁ _)))
  · rw [sL, r.length]; exact hz
theorem SemE.tupD {es : List Expr} {k0 : _} {pos : Pos} {ps : List P} (h : SemA w n env ρ es ps) (hz : ps.length ≤ 16777216) : SemE w n env ρ (.Tuple es k0 pos) (.tup ps) := by
  intro A X s Q E ok k
  rw [arm_eval_Tuple]
  refine wpAny_bind (wpAny_standAt (wpAny_bind (h pos A X s _ E ok fun vs s₁ e₁ r => wpAny_newTuple ?_ ?_)))
  · exact k _ _ (e₁.trans (.push s₁ _)) (.tup (Heap.get?_push_size _ rfl) ((ok.f.x.keeps e₁.keep).fresh (Nat.le_refl _)) (r.ext (.push s₁ _)))
  · rw [sL, r.length]; exact hz

theorem SemE.addL {l r : Expr} {pos : Pos} {x y : List P} (hl : SemE w n env ρ l (.list x)) (hr : SemE w n env ρ r (.list y)) (hz : x.length + y.length ≤ 16777216) : SemE w n env ρ (.BinOp l .Add r pos) (.list (x ++ y)) :=
  bin hl hr fun A X s Q E a b _ xo ra rb k => by
    cases ra with
    | @list a vs ne _ ho hx ra =>
    cases rb with
    | @list b ws ne2 _ ho2 hx2 rb =>
    have e : vs.toArray ++ ws.toArray = (vs ++ ws).toArray := by simp
    refine concat_meets ⟨_, ho, rfl⟩ ⟨_, ho2, rfl⟩ noFill_list_add seq_list_add PySem.F.slot_list_add PySem.F.entry_list_add (PySem.F.args_list_add_2 _ _) (list_addW a b vs.toArray ws.toArray _ _ none none #[] #[] (by rw [sL]; simpa [ra.length, rb.length] using hz)) ⟨ho, ho2, ?_⟩
    rw [e]
    exact k _ _ (.push s _) (.list (Heap.get?_push_size _ rfl) (xo.fresh (Nat.le_refl _)) ((ra.append rb).ext (.push s _)))

/-- f may be called with plain arguments -/
noncomputable def Callable (w : World) (f : Value) : Prop :=
  ∀ (A : Around) (s : Shared) (Q E : Value → Shared → Prop) (env : Env) (pos : Pos) (e : Expr) (rest : List Expr), (KK w).In s.heap → starEach (e :: rest) env = (false, eval e env) :: starEach rest env → (backTo pos (starEach rest env)).any (·.1) = false →
    wpAny (model pr w) A (spliced (backTo pos (starEach (e :: rest) env))) (fun vs s₁ => (KK w).In s₁.heap ∧ wpAny (model pr w) A (call f vs) Q E s₁) E s → wpAny (model pr w) A (callWith pos f [] (backTo pos (starEach (e :: rest) env)) []) Q E s
theorem callable_fn {f : Addr} (h : keepIn (KK w) (.ref f) = true) : Callable w (.ref f) := fun A s Q E env pos e rest kin he hp hh => by
  have := callWith_K (f := .ref f) (first := []) (Q := Q) (E := E) (A := A) (M := model pr w) kin h (by simpa using hh) he hp
  exact this
theorem callable_bi {id : String} : Callable w (.builtin id) := fun A s Q E env pos e rest kin he hp hh => PyProof.Rows.callWith_builtin1 (wpAny_mono hh (fun _ _ h => h.2) fun _ _ h => h) he hp
theorem callable_ty {T : String} : Callable w (.type T) := fun A s Q E env pos e rest kin he hp hh => by
  rw [he] at hh ⊢
  exact PySem.callWith_type (by show (false || (backTo pos (starEach rest env)).any (·.1)) = false; rw [hp]; rfl) (Calls.evalArgs_plain (wpAny_mono hh (fun _ _ h => by simpa using h.2) fun _ _ h => h))

/-- a name yields the value f, no datum -/
noncomputable def NameV (w : World) (n : Nat) (env : Env) (ρ : Rho) (x : Str) (f : Value) : Prop :=
  ∀ (A : Around) (X : Addr → Prop) (s : Shared) (Q E : Value → Shared → Prop) (pos : Pos), Ok w n env ρ A X s → Q f s → wpAny (model pr w) A (eval (.Name x pos) env) Q E s
theorem NameV.glob {x : Str} {v : Value} (e : nsIn (KK w) mainGlobals x = some (some v)) (hx : env.kindOf x = some .globalImplicit := by rfl) (hd : (x == ("__debug__" : Str)) = false := by decide) : NameV w n env ρ x v :=
  fun A X s Q E pos ok h => glob_any ok e hx hd h
theorem NameV.bi {x : Str} {v : Value} (e : nsIn (KK w) mainGlobals x = some none) (hv : bootBuiltins x = some v) (hn : x ≠ "__name__" := by decide) (hx : env.kindOf x = some .globalImplicit := by rfl) (hd : (x == ("__debug__" : Str)) = false := by decide) : NameV w n env ρ x v :=
  fun A X s Q E pos ok h => bi_any ok e hv hn hx hd h

theorem SemE.call {m : Nat} {x : Str} {np pos : Pos} {e : Expr} {rest : List Expr} {f : Value} {ps : List P} {q : P} (hf : NameV w n env ρ x f) (hc : Callable w f) (ha : SemA w n env ρ (e :: rest) ps) (h : SemC w m f ps q) (hm : m ≤ n)
    (he : starEach (e :: rest) env = (false, eval e env) :: starEach rest env := by rfl) (hp : (backTo pos (starEach rest env)).any (·.1) = false := by rfl)
    (hev : eval (.Call (.Name x np) (e :: rest) [] pos) env = (do callWith pos (← eval (.Name x np) env) [] (backTo pos (starEach (e :: rest) env)) (backToKw pos (keywordEach [] env))) := by rfl) : SemE w n env ρ (.Call (.Name x np) (e :: rest) [] pos) q := by
  intro A X s Q E ok k
  refine PyProof.Rows.Call_ (hf A X s _ E np ok (hc A s Q E env pos e rest ok.g.kin he hp (ha pos A X s _ E ok fun vs s₁ e₁ r => ?_))) hev
  exact ⟨(ok.ext e₁).g.kin, h A X s₁ vs Q E (ok.room.le hm) (ok.ext e₁).g (ok.f.x.keeps e₁.keep) r fun v s' e₂ rv => k v s' (e₁.trans e₂) rv⟩
end
end Mine
end

section
open PySem PySem.W PyProof.Rows
set_option autoImplicit false
set_option linter.all false
set_option maxRecDepth 100000
namespace Mine

noncomputable def tailT (elt : Expr) (gens : List Comprehension) (scope : Scope) (pos : Pos) (d : Nat) (target : Expr) (ifs : List Expr) (it acc : Value) (env : Env) (v : Value) : Sem Fin := do
  letOwnedTupleGo target it v
  assign target env v
  let mut ok := true
  for c in ifs do
    if ok then ok ← isTrue c env (eval c env)
  if ok then
    match gens[d + 1]? with
    | some g' =>
      let x ← eval g'.iter env
      standAt g'.iter.pos
      let x ← if g'.is_async != 0 then foldedIterable g'.iter x else foldedSetIterable g'.iter env x
      let _ ← runOwn (.compStart (.ListComp elt gens scope pos) (d + 1) (← holding [x] (if g'.is_async != 0 then asyncIter x else pyIter x)) acc env) env
    | none => (do let _ ← call (.builtin "list.append") [acc, ← eval elt env])
  again (.compLoop (.ListComp elt gens scope pos) d it acc env)

theorem compTurn_tail {elt : Expr} {gens : List Comprehension} {scope : Scope} {pos : Pos} {d : Nat} {target iter : Expr} {ifs : List Expr} (hg : gens[d]? = some ⟨target, iter, ifs, 0⟩) (it acc : Value) (env : Env) :
    compTurn (.ListComp elt gens scope pos) d it acc env = (do
      standAt iter.pos
      match ← pyNext it with
      | none => pure (.done .next)
      | some v => tailT elt gens scope pos d target ifs it acc env v) := by
  unfold compTurn
  simp only [hg]
  rfl
end Mine
end

section
open PySem PySem.W PyProof.Rows
set_option autoImplicit false
set_option linter.all false
set_option maxRecDepth 100000
namespace Mine

theorem Ns_unique {h : Heap} {a : Addr} {m m' : Str → Option Value} (x : h.Ns a m) (y : h.Ns a m') : m = m' := by
  obtain ⟨o, es, ep, ho, hd, hk, hf⟩ := x
  obtain ⟨o', es', ep', ho', hd', hk', hf'⟩ := y
  rw [ho] at ho'; cases ho'
  rw [hd] at hd'; cases hd'
  funext n
  exact (hf n).symm.trans (hf' n)

theorem Ext.mk' {s s' : Shared} (x : Same s s') (k : ∀ b o, s.heap.get? b = some o → s'.heap.get? b = some o) : Ext s s' := ⟨x, k⟩

section
variable {w : World} {n : Nat} {env : Env} {ρ : Rho} {A : Around} {X : Addr → Prop} {s : Shared} {Q : Unit → Shared → Prop} {E : Value → Shared → Prop}

theorem store_loc {x : Str} {v : Value} {p : P} (ok : Ok w n env ρ A X s) (r : Rep s.heap X v p) (hk : env.kindOf x = some .local)
    (h : ∀ s', Same s s' → (∀ b o, b ≠ env.locals → s.heap.get? b = some o → s'.heap.get? b = some o) → Ok w n env ((x, p) :: ρ) A X s' → Q () s') :
    wpAny (model pr w) A (storeName env x v) Q E s := by
  obtain ⟨m, hn⟩ := ok.f.ns
  refine wpAny_storeName_local hk hn (fun h' hn' hs => ?_) (by rw [ok.f.kind]; rfl)
  have kp : ∀ b o, b ≠ env.locals → s.heap.get? b = some o → h'.get? b = some o := fun b o hb e => (hs.2 b hb).trans e
  have rk : ∀ {v : Value} {p : P}, Rep s.heap X v p → Rep h' X v p := fun r => r.mono fun b o nx e => ⟨kp b o (fun q => nx (q ▸ ok.f.lx)) e, nx⟩
  refine h _ ⟨h', s.toks + 1, rfl⟩ kp ⟨ok.room, ok.g.keepLow fun b o hb e => kp b o (fun q => ?_) e, ⟨ok.f.kind, ok.f.glob, ok.f.bi, ⟨_, hn'⟩, ok.f.lx, fun k c e => ?_, ok.f.apart, ⟨ok.f.x.high, fun b hb => ?_⟩⟩, fun k q e => ?_⟩
  · have := ok.f.x.high _ ok.f.lx; rw [q] at hb; exact absurd hb (Nat.not_lt.mpr this)
  · obtain ⟨a, b, v, hv⟩ := ok.f.cellx k c e
    exact ⟨a, b, v, hv.sameBut hs b⟩
  · by_cases hbl : b = env.locals
    · obtain ⟨o, _, _, ho, _⟩ := hn'
      exact ⟨o, hbl ▸ ho⟩
    · obtain ⟨o, ho⟩ := ok.f.x.live b hb
      exact ⟨o, kp b o hbl ho⟩
  · rw [List.lookup_cons] at e
    cases hkx : k == x with
    | true =>
      rw [hkx] at e; cases e
      have := beq_iff_eq.mp hkx; subst this
      exact .loc hk hn' (by simp) (rk r)
    | false =>
      rw [hkx] at e
      have hne : k ≠ x := fun q => by subst q; simp at hkx
      cases ok.vars k q e with
      | loc hk' hn₀ hv r' =>
        have := Ns_unique hn₀ hn; subst this
        exact .loc hk' hn' (by simp [hne, hv]) (rk r')
      | cell hk' hc hv r' => exact .cell hk' hc (hv.sameBut hs (ok.f.cellx _ _ hc).2.1) (rk r')

theorem store_cell {x : Str} {c : Addr} {v : Value} {p : P} (ok : Ok w n env ρ A X s) (r : Rep s.heap X v p) (hk : env.kindOf x = some .cell) (hc : env.cells.lookup x = some c)
    (h : ∀ s', Same s s' → (∀ b o, b ≠ c → s.heap.get? b = some o → s'.heap.get? b = some o) → Ok w n env ((x, p) :: ρ) A X s' → Q () s') :
    wpAny (model pr w) A (storeName env x v) Q E s := by
  obtain ⟨cx, cl, v₀, hv₀⟩ := ok.f.cellx _ _ hc
  refine wpAny_storeName_cell ok.f.kind hk hc hv₀ fun h' hc' hs => ?_
  have kp : ∀ b o, b ≠ c → s.heap.get? b = some o → h'.get? b = some o := fun b o hb e => (hs.2 b hb).trans e
  have rk : ∀ {v : Value} {p : P}, Rep s.heap X v p → Rep h' X v p := fun r => r.mono fun b o nx e => ⟨kp b o (fun q => nx (q ▸ cx)) e, nx⟩
  refine h _ ⟨h', s.toks, rfl⟩ kp ⟨ok.room, ok.g.keepLow fun b o hb e => kp b o (fun q => ?_) e, ⟨ok.f.kind, ok.f.glob, ok.f.bi, ?_, ok.f.lx, fun k c' e => ?_, ok.f.apart, ⟨ok.f.x.high, fun b hb => ?_⟩⟩, fun k q e => ?_⟩
  · have := ok.f.x.high _ cx; rw [q] at hb; exact absurd hb (Nat.not_lt.mpr this)
  · obtain ⟨m, hm⟩ := ok.f.ns
    exact ⟨m, hm.sameBut hs (Ne.symm cl)⟩
  · obtain ⟨a, b, v, hv⟩ := ok.f.cellx k c' e
    refine ⟨a, b, ?_⟩
    by_cases hcc : c' = c
    · exact ⟨_, hcc ▸ hc'⟩
    · exact ⟨v, hv.sameBut hs hcc⟩
  · by_cases hbl : b = c
    · obtain ⟨o, ho, _⟩ := hc'
      exact ⟨o, hbl ▸ ho⟩
    · obtain ⟨o, ho⟩ := ok.f.x.live b hb
      exact ⟨o, kp b o hbl ho⟩
  · rw [List.lookup_cons] at e
    cases hkx : k == x with
    | true =>
      rw [hkx] at e; cases e
      have := beq_iff_eq.mp hkx; subst this
      exact .cell hk hc hc' (rk r)
    | false =>
      rw [hkx] at e
      have hne : k ≠ x := fun q => by subst q; simp at hkx
      cases ok.vars k q e with
      | loc hk' hn₀ hv r' => exact .loc hk' (hn₀.sameBut hs (Ne.symm cl)) hv (rk r')
      | cell hk' hc₂ hv r' =>
        refine .cell hk' hc₂ (hv.sameBut hs fun q => hne ?_) (rk r')
        exact name_of_addr ok.f.apart (mem_of_lookup hc₂) (q ▸ mem_of_lookup hc)

theorem Ok.weak {ρ' : Rho} (ok : Ok w n env ρ A X s) (h : ∀ x p, ρ'.lookup x = some p → ρ.lookup x = some p) : Ok w n env ρ' A X s := ⟨ok.room, ok.g, ok.f, fun x p e => ok.vars x p (h x p e)⟩
end

noncomputable abbrev lstO (vs : List Value) (k : Nat) : Obj := { cls := .type "list", data := .seq vs.toArray k }

/-- where a turn of a comprehension has come -/
structure BP (w : World) (n : Nat) (cenv : Env) (ρ : Rho) (A : Around) (X : Addr → Prop) (D : Addr) (s : Shared) (ys : List Value) (outs : List P) (s' : Shared) : Prop where
  same : Same s s'
  keep : ∀ b o, b ≠ cenv.locals → b ≠ D → s.heap.get? b = some o → s'.heap.get? b = some o
  acc : ∃ vs k, s'.heap.get? D = some (lstO (ys ++ vs) k) ∧ Reps s'.heap X vs outs
  ok : Ok w n cenv ρ A X s'

noncomputable def owners : List String := ["enumerate", "zip", "dict_itemiterator", "dict_reverseitemiterator", "odict_iterator", "itertools.zip_longest", "itertools.pairwise"]
/-- an iterator that hands on no tuple of its own -/
noncomputable def Idle (h : Heap) (I : Addr) : Prop := ∃ o n, h.get? I = some o ∧ o.cls = .type n ∧ owners.contains n = false
theorem Idle.go {w : World} {A : Around} {s : Shared} {I : Addr} (hI : Idle s.heap I) {target : Expr} {v : Value} {Q : Unit → Shared → Prop} {E : Value → Shared → Prop} (h : Q () s) : wpAny (model pr w) A (letOwnedTupleGo target (.ref I) v) Q E s := by
  obtain ⟨o, n, ho, hc, hn⟩ := hI
  have key : ∀ a, wpAny (model pr w) A (do
      let o ← load I
      match o.cls, o.data with
      | .type n, .fields vs =>
        if owners.contains n && vs[0]? == some (rawInt a) then
          rule "for.unpacks-the-owned-tuple"
          updateField I 0 .none
      | _, _ => pure ()) Q E s := fun a => by
    refine wpAny_bind (wpAny_load ho ?_)
    rw [hc]
    split
    · rename_i e _
      cases e
      rw [hn, Bool.false_and]
      simp only [Bool.false_eq_true, if_false]
      exact wpAny_pure h
    · exact wpAny_pure h
  unfold letOwnedTupleGo
  split
  · cases v <;> first | exact wpAny_pure h | exact key _
  · cases v <;> first | exact wpAny_pure h | exact key _
  · exact wpAny_pure h

noncomputable def SemItem (w : World) (n : Nat) (cenv : Env) (ρ : Rho) (T : Nat) (elt : Expr) (gens : List Comprehension) (scope : Scope) (pos : Pos) (d : Nat) (target : Expr) (ifs : List Expr) (p : P) (outs : List P) : Prop :=
  ∀ (A : Around) (X : Addr → Prop) (s : Shared) (D I : Addr) (ys : List Value) (k : Nat) (v : Value) (Q : Shared → Prop) (E : Value → Shared → Prop),
    Ok w n cenv ρ A X s → T ≤ s.toks → X D → D ≠ cenv.locals → s.heap.get? D = some (lstO ys k) → ys.length + outs.length ≤ 16777216 → Rep s.heap X v p →
    Idle s.heap I → (∀ s', BP w n cenv ρ A X D s ys outs s' → Q s') →
    wpAny (model pr w) A (tailT elt gens scope pos d target ifs (.ref I) (.ref D) cenv v) (fun fin s' => fin = .again (.compLoop (.ListComp elt gens scope pos) d (.ref I) (.ref D) cenv) ∧ Q s') E s

/-- v walks over ps -/
noncomputable def IterTo (w : World) (A : Around) (X : Addr → Prop) (v : Value) (ps : List P) (s : Shared) : Prop :=
  ∀ (Q E : Value → Shared → Prop),
    (∀ (I : Addr) (h : Heap) (fp : List Addr) (Pf : Nat → Value → Prop) (St : Nat → Heap → Prop), (∀ b o, s.heap.get? b = some o → h.get? b = some o) → s.heap.objs.size ≤ I → (∃ o, h.get? I = some o) →
      (∀ b ∈ fp, (b = I ∨ ¬ X b) ∧ ∃ o, h.get? b = some o) → Walks pr w A I fp [I] ps.length Pf St → St 0 h → (∀ i h, St i h → ∃ o, h.get? I = some o) → (∀ i v, Pf i v → ∀ p, ps[i]? = some p → Rep h (fun b => X b ∨ b = I) v p) → (∀ i h, St (i + 1) h → Idle h I) → Q (.ref I) { s with heap := h }) →
    wpAny (model pr w) A (pyIter v) Q E s

theorem IterTo.list {w : World} {A : Around} {X : Addr → Prop} {s : Shared} {v : Value} {ps : List P} (hh : A.handled = none) (r : Rep s.heap X v (.list ps)) : IterTo w A X v ps s := by
  intro Q E h
  cases r with
  | @list a vs k _ ho hx r =>
  have hl : s.heap.IsList a vs.toArray := ⟨_, ho, rfl, k, rfl⟩
  refine wpAny_pyIter_list hl ?_
  have hlt : a < s.heap.objs.size := Heap.lt_size ho
  have hlen : vs.toArray.size = ps.length := by rw [List.size_toArray, r.length]
  have W := Walks.list (prog := pr) (w := w) (A := A) hh s.heap.objs.size a (Nat.ne_of_lt hlt) vs.toArray
  rw [hlen] at W
  have up : ∀ b o, s.heap.get? b = some o → (s.heap.push { cls := .type "list_iterator", data := .fields #[.ref a, .int 0 0] }).get? b = some o := fun b o e => Heap.get?_push_of_some _ e
  refine h s.heap.objs.size _ _ _ _ up (Nat.le_refl _) ⟨_, Heap.get?_push_size _ rfl⟩ (fun b hb => ?_) W ⟨⟨_, Heap.get?_push_size _ rfl, rfl, rfl⟩, Heap.IsList.push hl _⟩ (fun i h st => let ⟨o, e, _⟩ := st.1; ⟨o, e⟩) (fun i u hi p hp => ?_) (fun i h st => let ⟨o, e, hc, _⟩ := st.1; ⟨o, _, e, hc, by decide⟩)
  · rcases List.mem_cons.mp hb with rfl | hb
    · exact ⟨.inl rfl, _, Heap.get?_push_size _ rfl⟩
    · rw [List.mem_singleton.mp hb]; exact ⟨.inr hx, _, up _ _ ho⟩
  · have hi' : vs[i]? = some u := by simpa using hi
    obtain ⟨q, hq, rq⟩ := r.get i u hi'
    rw [hp] at hq; cases hq
    exact rq.mono fun b o nx e => ⟨up b o e, fun q => q.elim nx fun q => by rw [q, Heap.get_size _ _ (Nat.le_refl _)] at e; cases e⟩

theorem IterTo.tup {w : World} {A : Around} {X : Addr → Prop} {s : Shared} {v : Value} {ps : List P} (hh : A.handled = none) (r : Rep s.heap X v (.tup ps)) : IterTo w A X v ps s := by
  intro Q E h
  cases r with
  | @tup a vs k _ ho hx r =>
  have hl : IsTup s.heap a vs.toArray := ⟨_, ho, rfl, k, rfl⟩
  refine wpAny_pyIter_tuple hl ?_
  have hlt : a < s.heap.objs.size := Heap.lt_size ho
  have hlen : vs.toArray.size = ps.length := by rw [List.size_toArray, r.length]
  have W := Walks.tuple (prog := pr) (w := w) (A := A) hh s.heap.objs.size a (Nat.ne_of_lt hlt) vs.toArray
  rw [hlen] at W
  have up : ∀ b o, s.heap.get? b = some o → (s.heap.push { cls := .type "tuple_iterator", data := .fields #[.ref a, .int 0 0] }).get? b = some o := fun b o e => Heap.get?_push_of_some _ e
  refine h s.heap.objs.size _ _ _ _ up (Nat.le_refl _) ⟨_, Heap.get?_push_size _ rfl⟩ (fun b hb => ?_) W ⟨⟨_, Heap.get?_push_size _ rfl, rfl, rfl⟩, let ⟨o, e, q⟩ := hl; ⟨o, up _ _ e, q⟩⟩ (fun i h st => let ⟨o, e, _⟩ := st.1; ⟨o, e⟩) (fun i u hi p hp => ?_) (fun i h st => let ⟨o, e, hc, _⟩ := st.1; ⟨o, _, e, hc, by decide⟩)
  · rcases List.mem_cons.mp hb with rfl | hb
    · exact ⟨.inl rfl, _, Heap.get?_push_size _ rfl⟩
    · rw [List.mem_singleton.mp hb]; exact ⟨.inr hx, _, up _ _ ho⟩
  · have hi' : vs[i]? = some u := by simpa using hi
    obtain ⟨q, hq, rq⟩ := r.get i u hi'
    rw [hp] at hq; cases hq
    exact rq.mono fun b o nx e => ⟨up b o e, fun q => q.elim nx fun q => by rw [q, Heap.get_size _ _ (Nat.le_refl _)] at e; cases e⟩

theorem IterTo.range {w : World} {A : Around} {X : Addr → Prop} {s : Shared} {r : Addr} {a b : Int} {t u v : Tok} {n : Nat} (hh : A.handled = none) (hr : IsRange s.heap r a b 1 t u v) (hsm : Builtin.Range.small a b 1 = true) (hn : Builtin.Range.rangeSize a b 1 = ((n : Nat) : Int)) :
    IterTo w A X (.ref r) ((List.range n).map fun (i : Nat) => P.int (a + (i : Int))) s := by
  intro Q E h
  refine wpAny_pyIter_range hr hsm ?_
  have W := LCg.range_walks (prog := pr) (w := w) (A := A) (I := s.heap.objs.size) hh a n
  rw [show n = ((List.range n).map fun (i : Nat) => P.int (a + (i : Int))).length by simp] at W
  refine h s.heap.objs.size _ _ _ _ (fun _ _ e => Heap.get?_push_of_some _ e) (Nat.le_refl _) ⟨_, Heap.get?_push_size _ rfl⟩ (fun b hb => ?_) W (by
    show IsRangeIter _ _ _ _ _
    rw [hn]; simpa using Heap.get?_push_size _ rfl) (fun i h st => ⟨_, st⟩) (fun i u hi p hp => ?_) (fun i h st => ⟨_, _, st, rfl, by decide⟩)
  · rw [List.mem_singleton.mp hb]; exact ⟨.inl rfl, _, Heap.get?_push_size _ rfl⟩
  · obtain ⟨t, rfl⟩ := hi
    simp only [List.getElem?_map, Option.map_eq_some_iff] at hp
    obtain ⟨j, hj, rfl⟩ := hp
    obtain ⟨h1, h2⟩ := List.getElem?_eq_some_iff.mp hj
    rw [List.getElem_range] at h2
    subst h2
    exact .int _ _
end Mine
end

section
open PySem PySem.W PyProof.Rows
set_option autoImplicit false
set_option linter.all false
set_option maxRecDepth 100000
namespace Mine

theorem Ok.change {w : World} {n : Nat} {env : Env} {ρ : Rho} {A : Around} {X X₀ Y : Addr → Prop} {s s' : Shared} (ok : Ok w n env ρ A X s) (sub : ∀ b, X₀ b → X b) (lx : X₀ env.locals) (cx : ∀ n c, env.cells.lookup n = some c → X₀ c)
    (hy : ∀ b, Y b → X b ∧ b ≠ env.locals ∧ ∀ n c, env.cells.lookup n = some c → c ≠ b) (live : ∀ b, X₀ b → Y b → ∃ o, s'.heap.get? b = some o) (keep : ∀ b o, ¬ Y b → s.heap.get? b = some o → s'.heap.get? b = some o) :
    Ok w n env ρ A X₀ s' := by
  have rk : ∀ {v : Value} {p : P}, Rep s.heap X v p → Rep s'.heap X₀ v p := fun r => r.mono fun b o nx e => ⟨keep b o (fun q => nx (hy b q).1) e, fun q => nx (sub b q)⟩
  have kl : ∀ o, s.heap.get? env.locals = some o → s'.heap.get? env.locals = some o := fun o e => keep _ o (fun q => (hy _ q).2.1 rfl) e
  have kc : ∀ n c o, env.cells.lookup n = some c → s.heap.get? c = some o → s'.heap.get? c = some o := fun n c o e q => keep _ o (fun z => (hy _ z).2.2 n c e rfl) q
  refine ⟨ok.room, ok.g.keepLow fun b o hb e => keep b o (fun q => ?_) e, ⟨ok.f.kind, ok.f.glob, ok.f.bi, ?_, lx, fun k c e => ?_, ok.f.apart, ⟨fun b hb => ok.f.x.high b (sub b hb), fun b hb => ?_⟩⟩, fun k q e => ?_⟩
  · exact absurd (ok.f.x.high b (hy b q).1) (Nat.not_le.mpr hb)
  · obtain ⟨m, hm⟩ := ok.f.ns
    exact ⟨m, Heap.Ns.at'' hm kl⟩
  · obtain ⟨a, b, v, o, ho, hv⟩ := ok.f.cellx k c e
    exact ⟨cx _ _ e, b, v, o, kc k c o e ho, hv⟩
  · by_cases h : Y b
    · exact live b hb h
    · obtain ⟨o, ho⟩ := ok.f.x.live b (sub b hb)
      exact ⟨o, keep b o h ho⟩
  · cases ok.vars k q e with
    | loc hk hn hv r => exact .loc hk (Heap.Ns.at'' hn kl) hv (rk r)
    | cell hk hc hv r =>
      obtain ⟨o, ho, hd⟩ := hv
      exact .cell hk hc ⟨o, kc _ _ o hc ho, hd⟩ (rk r)

noncomputable def restT (elt : Expr) (gens : List Comprehension) (scope : Scope) (pos : Pos) (d : Nat) (ifs : List Expr) (it acc : Value) (env : Env) : Sem Fin := do
  let mut ok := true
  for c in ifs do
    if ok then ok ← isTrue c env (eval c env)
  if ok then
    match gens[d + 1]? with
    | some g' =>
      let x ← eval g'.iter env
      standAt g'.iter.pos
      let x ← if g'.is_async != 0 then foldedIterable g'.iter x else foldedSetIterable g'.iter env x
      let _ ← runOwn (.compStart (.ListComp elt gens scope pos) (d + 1) (← holding [x] (if g'.is_async != 0 then asyncIter x else pyIter x)) acc env) env
    | none => (do let _ ← call (.builtin "list.append") [acc, ← eval elt env])
  again (.compLoop (.ListComp elt gens scope pos) d it acc env)

theorem tailT_rest {elt : Expr} {gens : List Comprehension} {scope : Scope} {pos : Pos} {d : Nat} {target : Expr} {ifs : List Expr} {it acc : Value} {env : Env} {v : Value} :
    tailT elt gens scope pos d target ifs it acc env v = (do letOwnedTupleGo target it v; assign target env v; restT elt gens scope pos d ifs it acc env) := rfl

noncomputable def SemRest (w : World) (n : Nat) (cenv : Env) (ρ : Rho) (T : Nat) (elt : Expr) (gens : List Comprehension) (scope : Scope) (pos : Pos) (d : Nat) (ifs : List Expr) (outs : List P) : Prop :=
  ∀ (A : Around) (X : Addr → Prop) (s : Shared) (D I : Addr) (ys : List Value) (k : Nat) (Q : Shared → Prop) (E : Value → Shared → Prop),
    Ok w n cenv ρ A X s → T ≤ s.toks → X D → D ≠ cenv.locals → s.heap.get? D = some (lstO ys k) → ys.length + outs.length ≤ 16777216 → (∀ s', BP w n cenv ρ A X D s ys outs s' → Q s') →
    wpAny (model pr w) A (restT elt gens scope pos d ifs (.ref I) (.ref D) cenv) (fun fin s' => fin = .again (.compLoop (.ListComp elt gens scope pos) d (.ref I) (.ref D) cenv) ∧ Q s') E s

section
variable {w : World} {n T : Nat} {cenv : Env} {ρ : Rho} {elt : Expr} {gens : List Comprehension} {scope : Scope} {pos : Pos} {d : Nat} {ifs : List Expr}

theorem SemItem.name {x : Str} {px : Pos} {p : P} {outs : List P} (hx : cenv.kindOf x = some .local) (hρ : ρ.lookup x = none) (h : SemRest w n cenv ((x, p) :: ρ) T elt gens scope pos d ifs outs) :
    SemItem w n cenv ρ T elt gens scope pos d (.Name x px) ifs p outs := by
  intro A X s D I ys k v Q E ok hT hD hDC hl hz r ht hQ
  rw [tailT_rest]
  refine wpAny_bind (ht.go (wpAny_bind (wpAny_assign_Name (wpAny_with_toks hT (wpAny_mono (store_loc ok r hx fun s₁ sm kp ok₁ => fun hT₁ => ?_) (fun _ _ h => h) fun _ _ e _ => e)))))
  refine h A X s₁ D I ys k Q E ok₁ hT₁ hD hDC (kp _ _ hDC hl) hz fun s' b => hQ s' ⟨sm.trans b.same, fun b' o h1 h2 e => b.keep b' o h1 h2 (kp b' o h1 e), b.acc, b.ok.weak fun y q e => ?_⟩
  rw [List.lookup_cons]
  cases hyx : y == x with
  | true => rw [beq_iff_eq.mp hyx, hρ] at e; cases e
  | false => exact e

theorem list_cell {env : Env} {h : Heap} {X : Addr → Prop} (f : Frm env h X) {D : Addr} {ys : List Value} {k : Nat} (hl : h.get? D = some (lstO ys k)) : ∀ n c, env.cells.lookup n = some c → c ≠ D := fun n c e q => by
  obtain ⟨_, _, v, o, ho, hd⟩ := f.cellx n c e
  rw [q, hl] at ho; cases ho; cases hd

theorem SemRest.emit (A : Around) (X : Addr → Prop) (s : Shared) (D : Addr) (ys : List Value) (k : Nat) (v : Value) (p : P) (Q : Shared → Prop) (E : Value → Shared → Prop) (ok : Ok w n cenv ρ A X s) (hD : X D) (hDC : D ≠ cenv.locals)
    (hl : s.heap.get? D = some (lstO ys k)) (hz : ys.length + 1 ≤ 16777216) (r : Rep s.heap X v p) (hQ : ∀ s', BP w n cenv ρ A X D s ys [p] s' → Q s') : wpAny (model pr w) A (call (.builtin "list.append") [.ref D, v]) (fun _ => Q) E s := by
  refine append_at hl (fun h' hs hD' => hQ _ ⟨⟨h', s.toks, rfl⟩, fun b o h1 h2 e => (hs.2 b h2).trans e, ⟨[v], k + 1, ?_, .cons ?_ .nil⟩, ?_⟩) (by rw [sL, List.size_toArray]; omega)
  · show h'.get? D = _; rw [hD']; simp [lstO]
  · exact r.mono fun b o nx e => ⟨(hs.2 b fun q => nx (q ▸ hD)).trans e, nx⟩
  · exact ok.change (X₀ := X) (Y := fun b => b = D) (fun _ h => h) ok.f.lx (fun n c e => (ok.f.cellx n c e).1) (fun b q => by subst q; exact ⟨hD, hDC, list_cell ok.f hl⟩)
      (fun b _ q => ⟨_, q ▸ hD'⟩) fun b o q e => (hs.2 b q).trans e

theorem SemRest.leaf {p : P} (hg : gens[d + 1]? = none) (h : SemE w n cenv ρ elt p) : SemRest w n cenv ρ T elt gens scope pos d [] [p] := by
  intro A X s D I ys k Q E ok hT hD hDC hl hz hQ
  unfold restT
  simp only [hg, List.forIn_nil]
  refine wpAny_bind (wpAny_pure ?_)
  simp only [if_true]
  refine wpAny_bind (wpAny_bind (h A X s _ E ok fun v s₁ e₁ r => wpAny_bind (SemRest.emit (ρ := ρ) (cenv := cenv) (n := n) A X s₁ D ys k v p _ E (ok.ext e₁) hD hDC (e₁.keep _ _ hl) hz r fun s' b => wpAny_pure (wpAny_pure ⟨rfl, ?_⟩))))
  exact hQ s' ⟨Same.trans e₁.same b.same, fun b' o h1 h2 e => b.keep b' o h1 h2 (e₁.keep _ _ e), b.acc, b.ok⟩

theorem SemRest.leafIf {c : Expr} {t : Bool} {p : P} (hg : gens[d + 1]? = none) (hc : SemT w n cenv ρ c t) (h : t = true → SemE w n cenv ρ elt p) : SemRest w n cenv ρ T elt gens scope pos d [c] (if t then [p] else []) := by
  intro A X s D I ys k Q E ok hT hD hDC hl hz hQ
  unfold restT
  simp only [hg]
  refine wpAny_bind (wpAny_tests_one (hc A X s _ E ok fun s₀ e₀ => ?_))
  have hl₀ := e₀.keep _ _ hl
  cases t with
  | false =>
    simp only [Bool.false_eq_true, if_false]
    exact wpAny_pure ⟨rfl, hQ s₀ ⟨e₀.same, fun b o _ _ e => e₀.keep _ _ e, ⟨[], k, by simpa using hl₀, by simpa using Reps.nil⟩, ok.ext e₀⟩⟩
  | true =>
    simp only [if_true] at hz ⊢
    refine wpAny_bind (wpAny_bind (h rfl A X s₀ _ E (ok.ext e₀) fun v s₁ e₁ r => wpAny_bind (SemRest.emit (ρ := ρ) (cenv := cenv) (n := n) A X s₁ D ys k v p _ E ((ok.ext e₀).ext e₁) hD hDC (e₁.keep _ _ hl₀) hz r fun s' b => wpAny_pure (wpAny_pure ⟨rfl, ?_⟩))))
    exact hQ s' ⟨Same.trans (Same.trans e₀.same e₁.same) b.same, fun b' o h1 h2 e => b.keep b' o h1 h2 (e₁.keep _ _ (e₀.keep _ _ e)), by simpa using b.acc, b.ok⟩

/-- an expression whose value is walked over -/
noncomputable def SemI (w : World) (n : Nat) (env : Env) (ρ : Rho) (e : Expr) (ps : List P) : Prop :=
  ∀ (A : Around) (X : Addr → Prop) (s : Shared) (Q : Value → Shared → Prop) (E : Value → Shared → Prop), Ok w n env ρ A X s →
    (∀ v s', Ext s s' → IterTo w A X v ps s' → Q v s') → wpAny (model pr w) A (eval e env) Q E s
noncomputable def SemIT (w : World) (n : Nat) (env : Env) (ρ : Rho) (T : Nat) (e : Expr) (ps : List P) : Prop :=
  ∀ (A : Around) (X : Addr → Prop) (s : Shared) (Q : Value → Shared → Prop) (E : Value → Shared → Prop), Ok w n env ρ A X s → T ≤ s.toks →
    (∀ v s', Ext s s' → IterTo w A X v ps s' → Q v s') → wpAny (model pr w) A (eval e env) Q E s
theorem SemI.toT {env : Env} {e : Expr} {ps : List P} {T : Nat} (h : SemI w n env ρ e ps) : SemIT w n env ρ T e ps := fun A X s Q E ok _ k => h A X s Q E ok k
theorem SemI.list {env : Env} {e : Expr} {ps : List P} (h : SemE w n env ρ e (.list ps)) : SemI w n env ρ e ps := fun A X s Q E ok k => h A X s Q E ok fun v s' e r => k v s' e (IterTo.list ok.room.hd r)
theorem SemI.tup {env : Env} {e : Expr} {ps : List P} (h : SemE w n env ρ e (.tup ps)) : SemI w n env ρ e ps := fun A X s Q E ok k => h A X s Q E ok fun v s' e r => k v s' e (IterTo.tup ok.room.hd r)

/-- the loop of one clause -/
theorem compLoop_sem {A : Around} {X X₀ : Addr → Prop} {s : Shared} {D I : Addr} {ys : List Value} {k : Nat} {R : Result → Shared → Prop} {target iter : Expr} {ps : List P} {g : P → List P} {fp : List Addr} {Pf : Nat → Value → Prop} {St : Nat → Heap → Prop} {h₀ : Heap}
    (hg : gens[d]? = some ⟨target, iter, ifs, 0⟩) (ok : Ok w n cenv ρ A X s) (hT : T ≤ s.toks) (hXX : ∀ b, X b ↔ (X₀ b ∨ b = I)) (hI₀ : ¬ X₀ I) (hD : X₀ D) (hDC : D ≠ cenv.locals) (hl : s.heap.get? D = some (lstO ys k)) (hz : ys.length + (ps.flatMap g).length ≤ 16777216)
    (hL₀ : X₀ cenv.locals) (hC₀ : ∀ n c, cenv.cells.lookup n = some c → X₀ c) (hfp : ∀ b ∈ fp, (b = I ∨ ¬ X₀ b) ∧ ∃ o, s.heap.get? b = some o) (W : Walks pr w A I fp [I] ps.length Pf St) (hst : St 0 s.heap) (hlive : ∀ i h, St i h → ∃ o, h.get? I = some o)
    (hitem : ∀ i v, Pf i v → ∀ p, ps[i]? = some p → Rep s.heap X v p) (item : ∀ p ∈ ps, SemItem w n cenv ρ T elt gens scope pos d target ifs p (g p)) (hidle : ∀ i h, St (i + 1) h → Idle h I)
    (hR : ∀ s', Same s s' → (∀ b o, b ≠ cenv.locals → b ≠ D → b ≠ I → s.heap.get? b = some o → s'.heap.get? b = some o) → (∃ vs k', s'.heap.get? D = some (lstO (ys ++ vs) k') ∧ Reps s'.heap X₀ vs (ps.flatMap g)) → Ok w n cenv ρ A X₀ s' → R (.ok .next) s') :
    codeAny (model pr w) A (.compLoop (.ListComp elt gens scope pos) d (.ref I) (.ref D) cenv) R s := by
  have hIL : I ≠ cenv.locals := fun q => hI₀ (q ▸ hL₀)
  have hID : I ≠ D := fun q => hI₀ (q ▸ hD)
  have hIc : ∀ n c, cenv.cells.lookup n = some c → c ≠ I := fun n c e q => hI₀ (q ▸ hC₀ n c e)
  have hXI : X I := (hXX I).mpr (.inr rfl)
  have hXD : X D := (hXX D).mpr (.inl hD)
  have sub : ∀ b, X₀ b → X b := fun b h => (hXX b).mpr (.inl h)
  refine codeAny_loop rfl (fun j s' => ∃ i vs k', j = ps.length + 1 - i ∧ i ≤ ps.length ∧ Same s s' ∧ (∀ b o, b ≠ cenv.locals → b ≠ D → b ≠ I → s.heap.get? b = some o → s'.heap.get? b = some o) ∧
    s'.heap.get? D = some (lstO (ys ++ vs) k') ∧ Reps s'.heap X vs ((ps.take i).flatMap g) ∧ Ok w n cenv ρ A X s' ∧ St i s'.heap ∧ T ≤ s'.toks) ?_ (ps.length + 1) ⟨0, [], k, rfl, Nat.zero_le _, ⟨s.heap, s.toks, rfl⟩, fun _ _ _ _ _ e => e, by simpa using hl, by simpa using Reps.nil, ok, hst, hT⟩
  rintro j s' ⟨i, vs, k', rfl, hi, sm, kp, hl', rv, ok', st', hT'⟩
  show wpAny _ A ((compTurn (.ListComp elt gens scope pos) d (.ref I) (.ref D) cenv).onRaise (fun x => do noteFrame x cenv; theTreesLotGoes x)) _ _ s'
  refine wpAny_noted ?_
  rw [compTurn_tail hg]
  refine wpAny_bind (wpAny_standAt (wpAny_bind ?_))
  by_cases hlt : i < ps.length
  · refine wpAny_with_toks hT' (wpAny_mono (W.item i s' (fun v s => T ≤ s.toks → _) _ hlt st' fun v h' tk hPv hst' hk => fun hTk => ?_) (fun _ _ h => h) fun _ _ e _ => e)
    have hk' : ∀ b o, b ≠ I → s'.heap.get? b = some o → h'.get? b = some o := fun b o hb e => hk b o (by simpa using hb) e
    obtain ⟨oI, hoI⟩ := hlive _ _ hst'
    have ok₁ : Ok w n cenv ρ A X { s' with heap := h', toks := tk } := ok'.change (X₀ := X) (Y := fun b => b = I) (fun _ h => h) ok'.f.lx (fun n c e => (ok'.f.cellx n c e).1) (fun b q => by subst q; exact ⟨hXI, hIL, hIc⟩) (fun b _ q => ⟨oI, q ▸ hoI⟩) fun b o q e => hk' b o q e
    have hp : ps[i]? = some ps[i] := List.getElem?_eq_some_iff.mpr ⟨hlt, rfl⟩
    have hr : Rep h' X v ps[i] := (hitem i v hPv _ hp).mono fun b o nx e => ⟨hk' b o (fun q => nx (q ▸ hXI)) (kp b o (fun q => nx (q ▸ ok.f.lx)) (fun q => nx (q ▸ hXD)) (fun q => nx (q ▸ hXI)) e), nx⟩
    have hsplit : ps.take (i + 1) = ps.take i ++ [ps[i]] := by rw [List.take_add_one, hp]; rfl
    have hlen : ((ps.take i).flatMap g).length + (g ps[i]).length ≤ (ps.flatMap g).length := by
      have e : ps.flatMap g = (ps.take (i + 1)).flatMap g ++ (ps.drop (i + 1)).flatMap g := by rw [← List.flatMap_append, List.take_append_drop]
      rw [e, List.length_append, hsplit, List.flatMap_append, List.length_append]
      simp
    refine wpAny_with_toks hTk (wpAny_mono (item ps[i] (List.getElem_mem hlt) A X _ D I (ys ++ vs) k' v (fun s₂ => BP w n cenv ρ A X D { s' with heap := h', toks := tk } (ys ++ vs) (g ps[i]) s₂) _ ok₁ hTk hXD hDC (hk' _ _ (Ne.symm hID) hl') (by rw [List.length_append, rv.length]; omega) hr (hidle _ _ hst') fun s₂ b => b) (fun fin s₂ hf hT₂ => ?_) fun _ _ e _ => e)
    obtain ⟨rfl, b⟩ := hf
    refine ⟨rfl, ps.length + 1 - (i + 1), by omega, ?_⟩
    obtain ⟨ws, k₂, hl₂, rw₂⟩ := b.acc
    refine ⟨i + 1, vs ++ ws, k₂, by omega, hlt, (sm.trans ⟨h', tk, rfl⟩).trans b.same, fun c o h1 h2 h3 e => b.keep c o h1 h2 (hk' c o h3 (kp c o h1 h2 h3 e)), by rw [← List.append_assoc]; exact hl₂, ?_, b.ok, ?_, hT₂⟩
    · rw [hsplit, List.flatMap_append]
      refine Reps.append (rv.mono fun c o nx e => ⟨b.keep c o (fun q => nx (q ▸ ok.f.lx)) (fun q => nx (q ▸ hXD)) (hk' c o (fun q => nx (q ▸ hXI)) e), nx⟩) ?_
      simpa using rw₂
    · refine W.frame _ _ _ hst' fun c hc o e => ?_
      rcases (hfp c hc).1 with rfl | hn
      · exact b.keep _ o hIL hID e
      · exact b.keep _ o (fun q => hn (q ▸ hL₀)) (fun q => hn (q ▸ hD)) e
  · have hin : i = ps.length := by omega
    subst hin
    refine W.done s' _ _ st' fun h' tk hk => ?_
    have hk' : ∀ b o, b ≠ I → s'.heap.get? b = some o → h'.get? b = some o := fun b o hb e => hk b o (by simpa using hb) e
    rw [List.take_length] at rv
    refine wpAny_pure ?_
    refine hR _ (sm.trans ⟨h', tk, rfl⟩) (fun b o h1 h2 h3 e => hk' b o h3 (kp b o h1 h2 h3 e)) ⟨vs, k', hk' _ _ (Ne.symm hID) hl', rv.mono fun b o nx e => ⟨hk' b o (fun q => nx (q ▸ hXI)) e, fun q => nx (sub b q)⟩⟩ ?_
    exact ok'.change (X₀ := X₀) (Y := fun b => b = I) sub hL₀ hC₀ (fun b q => by subst q; exact ⟨hXI, hIL, hIc⟩) (fun b hb q => absurd (q ▸ hb) hI₀) fun b o q e => hk' b o q e

theorem compStart_sem {A : Around} {D I : Addr} {R : Result → Shared → Prop} {s : Shared} {target iter : Expr} (hg : gens[d]? = some ⟨target, iter, ifs, 0⟩)
    (h0 : codeAny (model pr w) A (.compLoop (.ListComp elt gens scope pos) d (.ref I) (.ref D) cenv) R s) (hs : ∀ (Q : Value → Shared → Prop) (E : Value → Shared → Prop), Q (.ref I) s → wpAny (model pr w) A (pyIter (.ref I)) Q E s) :
    codeAny (model pr w) A (.compStart (.ListComp elt gens scope pos) d (.ref I) (.ref D) cenv) R s := by
  refine codeAny_of_tree ?_
  show wpAny _ A ((compStart (.ListComp elt gens scope pos) d (.ref I) (.ref D) cenv).onRaise (fun x => do noteFrame x cenv; standAt theWindowsPlace)) _ _ s
  refine wpAny_notedAt ?_
  unfold compStart
  have hc : (clausesOf (.ListComp elt gens scope pos))[d]? = some ⟨target, iter, ifs, 0⟩ := hg
  simp only [hc]
  show wpAny _ _ (ask >>= _) _ _ s
  refine wpAny_bind (wpAny_askSetting (wpAny_ite ?_))
  split
  · first
      | exact wpAny_bind (wpAny_pure (wpAny_pure (And.intro rfl h0)))
      | exact wpAny_pure (And.intro rfl h0)
  · first
      | exact wpAny_bind (wpAny_rule (wpAny_bind (wpAny_standAt (wpAny_bind (hs _ _ (wpAny_pure (And.intro rfl h0)))))))
      | (refine wpAny_bind (wpAny_rule ?_); show wpAny _ _ (standAt iter.pos >>= _) _ _ s; exact wpAny_bind (wpAny_standAt (wpAny_bind (hs _ _ (wpAny_pure (And.intro rfl h0))))))

theorem Ok.addI {ρ : Rho} {A : Around} {X : Addr → Prop} {s s' : Shared} {I : Addr} (ok : Ok w n cenv ρ A X s) (k : ∀ b o, s.heap.get? b = some o → s'.heap.get? b = some o) (hI : s.heap.objs.size ≤ I) (hI2 : ∃ o, s'.heap.get? I = some o) :
    Ok w n cenv ρ A (fun b => X b ∨ b = I) s' := by
  have hx : ¬ X I := ok.f.x.fresh hI
  have rk : ∀ {v : Value} {p : P}, Rep s.heap X v p → Rep s'.heap (fun b => X b ∨ b = I) v p := fun r => r.mono fun b o nx e => ⟨k b o e, fun q => q.elim nx fun q => by rw [q, Heap.get_size _ _ hI] at e; cases e⟩
  refine ⟨ok.room, ok.g.keeps k, ⟨ok.f.kind, ok.f.glob, ok.f.bi, (ok.f.keeps k).ns, .inl ok.f.lx, fun n c e => ?_, ok.f.apart, ⟨fun b hb => ?_, fun b hb => ?_⟩⟩, fun x p e => ?_⟩
  · obtain ⟨a, b, c⟩ := (ok.f.keeps k).cellx n c e
    exact ⟨.inl a, b, c⟩
  · rcases hb with hb | rfl
    · exact ok.f.x.high b hb
    · exact Nat.le_trans ok.g.high hI
  · rcases hb with hb | rfl
    · exact (ok.f.x.keeps k).live b hb
    · exact hI2
  · cases ok.vars x p e with
    | loc hk hn hv r => exact .loc hk (hn.keeps k) hv (rk r)
    | cell hk hc hv r => exact .cell hk hc (hv.keeps k) (rk r)

theorem SemRest.nestT {target iter : Expr} {ifs' : List Expr} {ps : List P} {g : P → List P} (hg : gens[d + 1]? = some ⟨target, iter, ifs', 0⟩) (hi : SemIT w n cenv ρ T iter ps) (hf : ∀ x, foldedSetIterable iter cenv x = pure x)
    (item : ∀ p ∈ ps, SemItem w n cenv ρ T elt gens scope pos (d + 1) target ifs' p (g p)) : SemRest w n cenv ρ T elt gens scope pos d [] (ps.flatMap g) := by
  intro A X s D I ys k Q E ok hT hD hDC hl hz hQ
  unfold restT
  simp only [hg, List.forIn_nil]
  refine wpAny_bind (wpAny_pure ?_)
  simp only [if_true]
  refine wpAny_bind (wpAny_with_toks hT (wpAny_mono (hi A X s (fun v s => T ≤ s.toks → _) E ok hT fun x s₁ e₁ hx => fun hT₁ => ?_) (fun _ _ h => h) fun _ _ e _ => e))
  have ok₁ := ok.ext e₁
  show wpAny _ A (standAt iter.pos >>= fun _ => foldedSetIterable iter cenv x >>= fun x => holding [x] (pyIter x) >>= fun it => runOwn (.compStart (.ListComp elt gens scope pos) (d + 1) it (.ref D) cenv) cenv >>= fun _ => again _) _ E s₁
  refine wpAny_bind (wpAny_standAt (wpAny_bind (wpAny_of_eq (hf x) (wpAny_bind (wpAny_holding (wpAny_with_toks hT₁ (wpAny_mono (hx (fun v s => T ≤ s.toks → _) E fun J h fp Pf St up hJ hJ2 hfp W hst hlive hitem hidle => fun hT₂ => ?_) (fun _ _ h => h) fun _ _ e _ => e)))))))
  have ok₂ : Ok w n cenv ρ A (fun b => X b ∨ b = J) { s₁ with heap := h } := ok₁.addI up hJ hJ2
  have hnX : ¬ X J := ok₁.f.x.fresh hJ
  refine wpAny_bind (wpAny_runOwn (h := none) ?_)
  have hnone : A.mark none = A := rfl
  rw [hnone]
  refine compStart_sem (cenv := cenv) (ifs := ifs') hg ?_ (fun Q E q => W.self 0 _ Q E hst q)
  refine compLoop_sem (X := fun b => X b ∨ b = J) (X₀ := X) (ys := ys) (k := k) (g := g) (ρ := ρ) (n := n) (h₀ := h) hg ok₂ hT₂ (fun b => Iff.rfl) hnX hD hDC (up _ _ (e₁.keep _ _ hl)) hz ok.f.lx (fun n c e => (ok.f.cellx n c e).1) hfp W hst hlive ?_ item hidle ?_
  · exact hitem
  · intro s' sm kp acc ok'
    exact wpAny_pure ⟨rfl, hQ s' ⟨(Same.trans e₁.same (Same.trans ⟨h, s₁.toks, rfl⟩ sm)), fun b o h1 h2 e => kp b o h1 h2 (fun q => by have z := e₁.keep _ _ e; rw [q, Heap.get_size _ _ hJ] at z; cases z) (up _ _ (e₁.keep _ _ e)), acc, ok'⟩⟩
theorem SemRest.nest {target iter : Expr} {ifs' : List Expr} {ps : List P} {g : P → List P} (hg : gens[d + 1]? = some ⟨target, iter, ifs', 0⟩) (hi : SemI w n cenv ρ iter ps) (hf : ∀ x, foldedSetIterable iter cenv x = pure x)
    (item : ∀ p ∈ ps, SemItem w n cenv ρ T elt gens scope pos (d + 1) target ifs' p (g p)) : SemRest w n cenv ρ T elt gens scope pos d [] (ps.flatMap g) := SemRest.nestT hg hi.toT hf item
end
end Mine
end

section
open PySem PySem.W PyProof.Rows
set_option autoImplicit false
set_option linter.all false
set_option maxRecDepth 100000
namespace Mine
section
variable {w : World} {n : Nat} {env : Env} {ρ ρc : Rho} {elt : Expr} {gs : List Comprehension} {scope : Scope} {pos : Pos} {ifs : List Expr}

/-- what is known when a comprehension has ended -/
structure Done (w : World) (X : Addr → Prop) (s : Shared) (outs : List P) (D C : Addr) (s' : Shared) : Prop where
  ext : Ext s s'
  dc : D ≠ C
  xd : ¬ X D
  xc : ¬ X C
  freshD : s.heap.get? D = none
  freshC : s.heap.get? C = none
  lo : 283 ≤ C
  ns : ∃ m, s'.heap.Ns C m
  acc : ∃ vs k, s'.heap.get? D = some (lstO vs k) ∧ Reps s'.heap (fun b => X b ∨ b = C) vs outs

theorem comp_core {A : Around} {X : Addr → Prop} {s : Shared} {E : Value → Shared → Prop} {target iter : Expr} {outs : List P} {cl : List (Str × Addr)} (ok : Ok w n env ρ A X s) (RR : Value → Addr → Result → Shared → Prop)
    (hi : wpAny (model pr w) A (eval iter env) (fun v s₁ => Ext s s₁ ∧ ∃ T ps g, T ≤ s₁.toks ∧ IterTo w A X v ps s₁ ∧ ps.flatMap g = outs ∧ ∀ C, ∀ p ∈ ps, SemItem w n (compEnvC scope cl C env) ρc T elt (⟨target, iter, ifs, 0⟩ :: gs) scope pos 0 target ifs p (g p)) E s)
    (hcell : ∀ y ∈ scope.names, y.2 ≠ .cell) (hkind : scope.kind = .function) (hnames : ∀ x ∈ scope.names, x.2 = .local → scope.names.lookup x.1 = some .local)
    (hcl : ∀ n c, cl.lookup n = some c → env.cells.lookup n = some c) (hap : cl.Pairwise fun x y => x.2 ≠ y.2)
    (hρ : ∀ x p, ρc.lookup x = some p → ρ.lookup x = some p ∧ env.kindOf x = some .cell ∧ (∀ C, (compEnvC scope cl C env).kindOf x = some .cell) ∧ cl.lookup x = env.cells.lookup x)
    (hz : outs.length ≤ 16777216)
    (hR : ∀ D C s', Done w X s outs D C s' → RR (.ref D) C (.ok .next) s') :
    wpAny (model pr w) A (eval iter env) (fun x s₁ => wpAny (model pr w) A (pyIter x) (fun it s₂ => wpAny (model pr w) A (newList []) (fun acc s₃ =>
      wpAny (model pr w) A (newFunctionEnv scope env.globals cl [] env.qual none .none (some env)) (fun cenv s₄ =>
        codeAny (model pr w) A (.compStart (.ListComp elt (⟨target, iter, ifs, 0⟩ :: gs) scope pos) 0 it acc { cenv with scope := relabel scope env }) (RR acc cenv.locals) s₄) E s₃) E s₂) E s₁) E s := by
  refine wpAny_mono hi (fun x s₁ hh => ?_) fun _ _ e => e
  obtain ⟨e₁, T, ps, g, hT₁, hx, hout, item⟩ := hh
  refine wpAny_with_toks hT₁ (wpAny_mono (hx (fun v s => T ≤ s.toks → _) E fun I h fp Pf St up hI hI2 hfp W hst hlive hitem hidle => fun hT₂ => ?_) (fun _ _ h => h) fun _ _ e _ => e)
  have ok₁ := ok.ext e₁
  have eI : Ext s₁ { s₁ with heap := h } := .ofH up
  have hIX : ¬ X I := ok₁.f.x.fresh hI
  have ok₂ : Ok w n env ρ A X { s₁ with heap := h } := ok₁.ext eI
  refine wpAny_newObj_type (wpAny_newFunctionEnv hcell (by intro y hy; simp at hy) (fun h₁ hns₁ hsb₁ => ?_) hkind)
  dsimp only at hns₁ hsb₁ ⊢
  generalize hH2 : h.push { cls := .type "list", dict := none, data := .seq ([] : List Value).toArray } = H2 at hns₁ hsb₁ ⊢
  have hC : H2.objs.size = h.objs.size + 1 := by rw [← hH2, Heap.size_push]
  generalize hDe : h.objs.size = D at hC ⊢
  generalize hCe : H2.objs.size = C at hC hns₁ hsb₁ ⊢
  have hDC' : @Ne Nat D C := by omega
  have hDC : D ≠ C := hDC'
  obtain ⟨oI, hoI⟩ := hI2
  have hIlt : @LT.lt Nat instLTNat I D := hDe ▸ Heap.lt_size hoI
  have old : ∀ b o, h.get? b = some o → h₁.get? b = some o := fun b o e => by
    have hb : @LT.lt Nat instLTNat b D := hDe ▸ Heap.lt_size e
    have hb' : @Ne Nat b C := by omega
    exact hsb₁.extBut b o hb' (Heap.get?_push_of_some _ (hH2 ▸ Heap.get?_push_of_some _ e))
  have hacc : h₁.get? D = some (lstO [] 0) := hsb₁.extBut _ _ hDC (Heap.get?_push_of_some _ (by rw [← hH2, ← hDe]; exact Heap.get?_push_size _ rfl))
  have nD : ∀ b o, h.get? b = some o → b ≠ D ∧ b ≠ C := fun b o e => by
    have hb : @LT.lt Nat instLTNat b D := hDe ▸ Heap.lt_size e
    have hb' : @Ne Nat b C := by omega
    have hb'' : @Ne Nat b D := by omega
    exact ⟨hb'', hb'⟩
  have hXlive : ∀ b, X b → b ≠ D ∧ b ≠ C ∧ b ≠ I := fun b hb => by
    obtain ⟨o, ho⟩ := ok₁.f.x.live b hb
    have h1 := nD b o (up _ _ ho)
    refine ⟨h1.1, h1.2, fun q => hIX (q ▸ hb)⟩
  -- the addresses that turn
  let X₀ : Addr → Prop := fun b => X b ∨ b = D ∨ b = C
  let X' : Addr → Prop := fun b => X₀ b ∨ b = I
  have hI₀ : ¬ X₀ I := fun q => q.elim hIX fun q => q.elim (fun q => Nat.lt_irrefl D (q ▸ hIlt)) fun q => by have q' : @Eq Nat I C := q; omega
  have lo : 283 ≤ D := hDe ▸ ok₂.g.high
  have okc : Ok w n (compEnvC scope cl C env) ρc A X' { s₁ with heap := h₁, toks := s₁.toks + ([] : List (Str × Value)).length } := by
    refine ⟨ok.room, ok₂.g.keeps old, ⟨hkind, ok.f.glob, ok.f.bi, ⟨_, hns₁⟩, .inl (.inr (.inr rfl)), fun k c e => ?_, hap, ⟨fun b hb => ?_, fun b hb => ?_⟩⟩, fun x p e => ?_⟩
    · obtain ⟨a, b, v, hv⟩ := (ok₂.f.keeps old).cellx k c (hcl k c e)
      exact ⟨.inl (.inl a), (hXlive c a).2.1, v, hv⟩
    · rcases hb with (hb | hb | hb) | hb
      · exact ok.f.x.high b hb
      · rw [hb]; exact lo
      · have lo' : @LE.le Nat instLENat 283 D := lo
        have : @LE.le Nat instLENat 283 C := by omega
        rw [hb]; exact this
      · rw [hb]; exact Nat.le_trans ok₁.g.high hI
    · rcases hb with (hb | hb | hb) | hb
      · obtain ⟨o, ho⟩ := ok₂.f.x.live b hb
        exact ⟨o, old _ _ ho⟩
      · rw [hb]; exact ⟨_, hacc⟩
      · obtain ⟨o, _, _, ho, _⟩ := hns₁
        rw [hb]; exact ⟨o, ho⟩
      · rw [hb]; exact ⟨oI, old _ _ hoI⟩
    · obtain ⟨h1, h2, h3, h4⟩ := hρ x p e
      have hv := ok₁.vars x p h1
      cases hv with
      | loc hk _ _ _ => rw [h2] at hk; cases hk
      | cell hk hc hv r =>
        refine .cell (h3 C) (by show cl.lookup x = _; rw [h4]; exact hc) ((hv.keeps up).keeps old) (r.mono fun b o nx e => ⟨old _ _ (up _ _ e), fun q => ?_⟩)
        have hn := nD b o (up _ _ e)
        rcases q with (q | q | q) | q
        · exact nx q
        · exact hn.1 q
        · exact hn.2 q
        · rw [q, Heap.get_size _ _ hI] at e; cases e
  have hst₁ : St 0 h₁ := W.frame _ _ _ hst fun b _ o e => old b o e
  refine compStart_sem (ifs := ifs) rfl ?_ fun Q E q => W.self 0 _ Q E hst₁ q
  refine compLoop_sem (T := T) (X := X') (X₀ := X₀) (ys := []) (k := 0) (g := g) (ρ := ρc) (n := n) (h₀ := h) rfl okc (Nat.le_trans hT₂ (Nat.le_add_right _ _)) (fun b => Iff.rfl) hI₀ (.inr (.inl rfl)) hDC hacc (by rw [hout]; simpa using hz) (.inr (.inr rfl)) (fun n c e => .inl ((ok.f.cellx n c (hcl n c e)).1)) (fun b hb => ?_) W hst₁ hlive ?_ (item C) hidle ?_
  · obtain ⟨h1, o, ho⟩ := hfp b hb
    refine ⟨h1.imp id fun nx q => ?_, o, old _ _ ho⟩
    have hn := nD b o ho
    rcases q with q | q | q
    · exact nx q
    · exact hn.1 q
    · exact hn.2 q
  · intro i v hP p hp
    refine (hitem i v hP p hp).mono fun b o nx e => ⟨old b o e, fun q => ?_⟩
    have hn := nD b o e
    rcases q with (q | q | q) | q
    · exact nx (.inl q)
    · exact hn.1 q
    · exact hn.2 q
    · exact nx (.inr q)
  · intro s' sm kp ⟨vs, k', hl', rv⟩ ok'
    rw [hout] at rv
    have nn : ∀ b : Addr, @LE.le Nat instLENat h.objs.size b → s.heap.get? b = none := fun b hb => by
      cases e : s.heap.get? b with
      | none => rfl
      | some o => exact absurd (Heap.lt_size (up _ _ (e₁.keep _ _ e))) (Nat.not_lt.mpr hb)
    refine hR D C s' ⟨⟨Same.trans e₁.same (Same.trans ⟨_, _, rfl⟩ sm), fun b o e => ?_⟩, hDC, fun q => (hXlive D q).1 rfl, fun q => (hXlive C q).2.1 rfl, nn D (Nat.le_of_eq hDe), nn C (by omega), ?_, ok'.f.ns, vs, k', by simpa using hl', rv.mono fun b o nx e => ⟨e, fun q => nx (q.elim .inl fun q => .inr (.inr q))⟩⟩
    · have e' := e₁.keep _ _ e
      have hn := nD b o (up _ _ e')
      refine kp b o hn.2 hn.1 (fun q => ?_) (old _ _ (up _ _ e'))
      rw [q, Heap.get_size _ _ hI] at e'; cases e'
    · have lo' : @LE.le Nat instLENat 283 D := lo
      have : @LE.le Nat instLENat 283 C := by omega
      exact this

theorem SemE.compT {target iter : Expr} {outs : List P} {cl : List (Str × Addr)} (T₀ : Nat)
    (hi : ∀ (A : Around) (X : Addr → Prop) (s : Shared) (E : Value → Shared → Prop), Ok w n env ρ A X s → T₀ ≤ s.toks → wpAny (model pr w) A (eval iter env) (fun v s₁ => Ext s s₁ ∧ ∃ T ps g, T ≤ s₁.toks ∧ IterTo w A X v ps s₁ ∧ ps.flatMap g = outs ∧ ∀ C, ∀ p ∈ ps, SemItem w n (compEnvC scope cl C env) ρc T elt (⟨target, iter, ifs, 0⟩ :: gs) scope pos 0 target ifs p (g p)) E s)
    (hf : ∀ x, foldedSetIterable iter env x = pure x)
    (hclos : closureFor scope env = pure cl) (hcell : ∀ y ∈ scope.names, y.2 ≠ .cell) (hkind : scope.kind = .function) (hnames : ∀ x ∈ scope.names, x.2 = .local → scope.names.lookup x.1 = some .local)
    (hcl : ∀ n c, cl.lookup n = some c → env.cells.lookup n = some c) (hap : cl.Pairwise fun x y => x.2 ≠ y.2)
    (hρ : ∀ x p, ρc.lookup x = some p → ρ.lookup x = some p ∧ env.kindOf x = some .cell ∧ (∀ C, (compEnvC scope cl C env).kindOf x = some .cell) ∧ cl.lookup x = env.cells.lookup x)
    (hz : outs.length ≤ 16777216)
    (hev : eval (.ListComp elt (⟨target, iter, ifs, 0⟩ :: gs) scope pos) env = comprehension (.ListComp elt (⟨target, iter, ifs, 0⟩ :: gs) scope pos) scope env (firstIterPos (⟨target, iter, ifs, 0⟩ :: gs) pos) (newList []) false (eval iter env) := by rfl)
    {A : Around} {X : Addr → Prop} {s : Shared} {Q : Value → Shared → Prop} {E : Value → Shared → Prop} (ok : Ok w n env ρ A X s) (hT₀ : T₀ ≤ s.toks) (kQ : ∀ v s', Ext s s' → Rep s'.heap X v (.list outs) → Q v s') :
    wpAny (model pr w) A (eval (.ListComp elt (⟨target, iter, ifs, 0⟩ :: gs) scope pos) env) Q E s := by
  rw [hev]
  refine wpAny_comprehension_free (use := none) rfl hf hclos hkind hnames (comp_core ok _ (hi A X s E ok hT₀) hcell hkind hnames hcl hap hρ hz fun D C s' d => ?_)
  obtain ⟨m', hn'⟩ := d.ns
  refine ⟨m', hn', fun h'' hs'' => ?_⟩
  obtain ⟨vs, k', hl', rv⟩ := d.acc
  refine kQ _ _ ⟨Same.trans d.ext.same ⟨h'', s'.toks, rfl⟩, fun b o e => hs''.extBut b o (fun q => ?_) (d.ext.keep b o e)⟩ (.list (vs := vs) (n := k') (hs''.extBut D _ d.dc hl') d.xd (rv.mono fun b o nx e => ⟨hs''.extBut b o (fun q => nx (.inr q)) e, fun q => nx (.inl q)⟩))
  rw [q, d.freshC] at e; cases e

theorem SemI.core {iter : Expr} {ps : List P} {g : P → List P} {outs : List P} {cl : List (Str × Addr)} {target : Expr} (hi : SemI w n env ρ iter ps) (ho : ps.flatMap g = outs)
    (item : ∀ C, ∀ p ∈ ps, SemItem w n (compEnvC scope cl C env) ρc 0 elt (⟨target, iter, ifs, 0⟩ :: gs) scope pos 0 target ifs p (g p)) (A : Around) (X : Addr → Prop) (s : Shared) (E : Value → Shared → Prop) (ok : Ok w n env ρ A X s) (_ : 0 ≤ s.toks) :
    wpAny (model pr w) A (eval iter env) (fun v s₁ => Ext s s₁ ∧ ∃ T ps g, T ≤ s₁.toks ∧ IterTo w A X v ps s₁ ∧ ps.flatMap g = outs ∧ ∀ C, ∀ p ∈ ps, SemItem w n (compEnvC scope cl C env) ρc T elt (⟨target, iter, ifs, 0⟩ :: gs) scope pos 0 target ifs p (g p)) E s :=
  hi A X s _ E ok fun v s' e hx => ⟨e, 0, ps, g, Nat.zero_le _, hx, ho, item⟩

theorem SemE.comp {target iter : Expr} {ps : List P} {g : P → List P} {cl : List (Str × Addr)} (hi : SemI w n env ρ iter ps) (hf : ∀ x, foldedSetIterable iter env x = pure x)
    (hclos : closureFor scope env = pure cl) (hcell : ∀ y ∈ scope.names, y.2 ≠ .cell) (hkind : scope.kind = .function) (hnames : ∀ x ∈ scope.names, x.2 = .local → scope.names.lookup x.1 = some .local)
    (hcl : ∀ n c, cl.lookup n = some c → env.cells.lookup n = some c) (hap : cl.Pairwise fun x y => x.2 ≠ y.2)
    (hρ : ∀ x p, ρc.lookup x = some p → ρ.lookup x = some p ∧ env.kindOf x = some .cell ∧ (∀ C, (compEnvC scope cl C env).kindOf x = some .cell) ∧ cl.lookup x = env.cells.lookup x)
    (item : ∀ C, ∀ p ∈ ps, SemItem w n (compEnvC scope cl C env) ρc 0 elt (⟨target, iter, ifs, 0⟩ :: gs) scope pos 0 target ifs p (g p)) (hz : (ps.flatMap g).length ≤ 16777216)
    (hev : eval (.ListComp elt (⟨target, iter, ifs, 0⟩ :: gs) scope pos) env = comprehension (.ListComp elt (⟨target, iter, ifs, 0⟩ :: gs) scope pos) scope env (firstIterPos (⟨target, iter, ifs, 0⟩ :: gs) pos) (newList []) false (eval iter env) := by rfl) :
    SemE w n env ρ (.ListComp elt (⟨target, iter, ifs, 0⟩ :: gs) scope pos) (.list (ps.flatMap g)) :=
  fun A X s Q E ok kQ => SemE.compT 0 (hi.core rfl item) hf hclos hcell hkind hnames hcl hap hρ hz hev ok (Nat.zero_le _) kQ
end

theorem Ok.addI' {w : World} {n : Nat} {cenv : Env} {ρ : Rho} {A : Around} {X : Addr → Prop} {s s' : Shared} {I : Addr} (ok : Ok w n cenv ρ A X s) (k : ∀ b o, s.heap.get? b = some o → s'.heap.get? b = some o) (hx : ¬ X I) (hn : s.heap.get? I = none) (lo : 283 ≤ I) (hI2 : ∃ o, s'.heap.get? I = some o) :
    Ok w n cenv ρ A (fun b => X b ∨ b = I) s' := by
  have rk : ∀ {v : Value} {p : P}, Rep s.heap X v p → Rep s'.heap (fun b => X b ∨ b = I) v p := fun r => r.mono fun b o nx e => ⟨k b o e, fun q => q.elim nx fun q => by rw [q, hn] at e; cases e⟩
  refine ⟨ok.room, ok.g.keeps k, ⟨ok.f.kind, ok.f.glob, ok.f.bi, (ok.f.keeps k).ns, .inl ok.f.lx, fun n c e => ?_, ok.f.apart, ⟨fun b hb => ?_, fun b hb => ?_⟩⟩, fun x p e => ?_⟩
  · obtain ⟨a, b, c⟩ := (ok.f.keeps k).cellx n c e
    exact ⟨.inl a, b, c⟩
  · rcases hb with hb | rfl
    · exact ok.f.x.high b hb
    · exact lo
  · rcases hb with hb | rfl
    · exact (ok.f.x.keeps k).live b hb
    · exact hI2
  · cases ok.vars x p e with
    | loc hk hn hv r => exact .loc hk (hn.keeps k) hv (rk r)
    | cell hk hc hv r => exact .cell hk hc (hv.keeps k) (rk r)
end Mine
end

section
open PySem PySem.W PyProof.Rows
set_option autoImplicit false
set_option linter.all false
set_option maxRecDepth 100000
namespace Mine

theorem len1 {p : List Value → Prop} (h : ∀ a, p [a]) : ∀ vs : List Value, vs.length = 1 → p vs
  | [a], _ => h a
theorem len2 {p : List Value → Prop} (h : ∀ a b, p [a, b]) : ∀ vs : List Value, vs.length = 2 → p vs
  | [a, b], _ => h a b
theorem len3 {p : List Value → Prop} (h : ∀ a b c, p [a, b, c]) : ∀ vs : List Value, vs.length = 3 → p vs
  | [a, b, c], _ => h a b c
theorem mem1 {p : Nat → Str → Prop} {a : Str} (h : ∀ k, p k a) : ∀ k, ∀ x ∈ [a], p k x := fun k x hx => by
  rcases List.mem_singleton.mp hx with rfl
  exact h k
theorem mem2 {p : Nat → Str → Prop} {a b : Str} (h : ∀ k, p k a) (h2 : ∀ k, p k b) : ∀ k, ∀ x ∈ [a, b], p k x := fun k x hx => by
  rcases List.mem_cons.mp hx with rfl | hx
  · exact h k
  · exact mem1 h2 k x hx
theorem mem3 {p : Nat → Str → Prop} {a b c : Str} (h : ∀ k, p k a) (h2 : ∀ k, p k b) (h3 : ∀ k, p k c) : ∀ k, ∀ x ∈ [a, b, c], p k x := fun k x hx => by
  rcases List.mem_cons.mp hx with rfl | hx
  · exact h k
  · exact mem2 h2 h3 k x hx

noncomputable def own (env : Env) (b : Addr) : Prop := b = env.locals ∨ ∃ n, env.cells.lookup n = some b

structure ExtO (env : Env) (s s' : Shared) : Prop where
  same : Same s s'
  keep : ∀ b o, ¬ own env b → s.heap.get? b = some o → s'.heap.get? b = some o
theorem ExtO.refl (env : Env) (s : Shared) : ExtO env s s := ⟨⟨s.heap, s.toks, rfl⟩, fun _ _ _ e => e⟩
theorem ExtO.trans {env : Env} {s s' s'' : Shared} (x : ExtO env s s') (y : ExtO env s' s'') : ExtO env s s'' := ⟨x.same.trans y.same, fun b o n e => y.keep b o n (x.keep b o n e)⟩
theorem Ext.toO {env : Env} {s s' : Shared} (x : Ext s s') : ExtO env s s' := ⟨x.same, fun b o _ e => x.keep b o e⟩

inductive Out where
  | next (ρ : Rho) | ret (p : P)

noncomputable def Post (w : World) (n : Nat) (env : Env) (A : Around) (X : Addr → Prop) (s : Shared) (o : Out) (Q : Flow → Shared → Prop) : Prop := match o with
  | .next ρ' => ∀ s', ExtO env s s' → Ok w n env ρ' A X s' → Q .next s'
  | .ret p => ∀ v s', ExtO env s s' → Rep s'.heap X v p → Q (.ret v) s'
theorem Post.from {w : World} {n : Nat} {env : Env} {A : Around} {X : Addr → Prop} {s s' : Shared} {o : Out} {Q : Flow → Shared → Prop} (e : ExtO env s s') (k : Post w n env A X s o Q) : Post w n env A X s' o Q := by
  cases o with
  | next ρ' => exact fun s₂ e₂ ok => k s₂ (e.trans e₂) ok
  | ret p => exact fun v s₂ e₂ r => k v s₂ (e.trans e₂) r

noncomputable def SemB (w : World) (n : Nat) (env : Env) (ρ : Rho) (body : List Stmt) (o : Out) : Prop :=
  ∀ (A : Around) (X : Addr → Prop) (s : Shared) (Q : Flow → Shared → Prop) (E : Value → Shared → Prop), Ok w n env ρ A X s → Post w n env A X s o Q → wpAny (model pr w) A (execs body env) Q E s
noncomputable def SemS (w : World) (n : Nat) (env : Env) (ρ : Rho) (st : Stmt) (o : Out) : Prop :=
  ∀ (A : Around) (X : Addr → Prop) (s : Shared) (Q : Flow → Shared → Prop) (E : Value → Shared → Prop), Ok w n env ρ A X s → Post w n env A X s o Q → wpAny (model pr w) A (exec st env) Q E s

section
variable {w : World} {n : Nat} {env : Env} {ρ : Rho}
theorem SemB.nil : SemB w n env ρ [] (.next ρ) := fun A X s Q E ok k => wpAny_execs_nil (k s (.refl _ _) ok)
theorem SemB.cons {st : Stmt} {rest : List Stmt} {ρ' : Rho} {o : Out} (h : SemS w n env ρ st (.next ρ')) (hr : SemB w n env ρ' rest o) : SemB w n env ρ (st :: rest) o :=
  fun A X s Q E ok k => wpAny_execs_cons (h A X s _ E ok fun s' e ok' => hr A X s' Q E ok' (k.from e))
theorem SemB.consR {st : Stmt} {rest : List Stmt} {p : P} (h : SemS w n env ρ st (.ret p)) : SemB w n env ρ (st :: rest) (.ret p) :=
  fun A X s Q E ok k => wpAny_execs_cons (h A X s _ E ok fun v s' e r => k v s' e r)
theorem SemB.weak {ρ' : Rho} {body : List Stmt} {o : Out} (h : SemB w n env ρ' body o) (hw : ∀ x p, ρ'.lookup x = some p → ρ.lookup x = some p) : SemB w n env ρ body o := fun A X s Q E ok k => h A X s Q E (ok.weak hw) k
theorem SemB.post {ρ₁ ρ₂ : Rho} {body : List Stmt} (h : SemB w n env ρ body (.next ρ₁)) (hw : ∀ x p, ρ₂.lookup x = some p → ρ₁.lookup x = some p) : SemB w n env ρ body (.next ρ₂) :=
  fun A X s Q E ok k => h A X s Q E ok fun s' e ok' => k s' e (ok'.weak hw)
theorem SemS.ret {e : Expr} {pos : Pos} {p : P} (h : SemE w n env ρ e p) : SemS w n env ρ (.Return (some e) pos) (.ret p) :=
  fun A X s Q E ok k => wpAny_Return_some (h A X s _ E ok fun v s' e r => k v s' e.toO r)

/-- a name that may be stored under -/
noncomputable def Storable (env : Env) (x : Str) : Prop := env.kindOf x = some .local ∨ (env.kindOf x = some .cell ∧ (env.cells.lookup x).isSome = true)
theorem store_any {A : Around} {X : Addr → Prop} {s : Shared} {x : Str} {v : Value} {p : P} {Q : Unit → Shared → Prop} {E : Value → Shared → Prop} (ok : Ok w n env ρ A X s) (r : Rep s.heap X v p) (hx : Storable env x)
    (h : ∀ s', ExtO env s s' → Ok w n env ((x, p) :: ρ) A X s' → Q () s') : wpAny (model pr w) A (storeName env x v) Q E s := by
  rcases hx with hx | ⟨hx, hc⟩
  · exact store_loc ok r hx fun s' sm kp ok' => h s' ⟨sm, fun b o nb e => kp b o (fun q => nb (.inl q)) e⟩ ok'
  · obtain ⟨c, hc⟩ := Option.isSome_iff_exists.mp hc
    exact store_cell ok r hx hc fun s' sm kp ok' => h s' ⟨sm, fun b o nb e => kp b o (fun q => nb (.inr ⟨x, q ▸ hc⟩)) e⟩ ok'

theorem SemS.assign {x : Str} {px pos : Pos} {e : Expr} {p : P} (h : SemE w n env ρ e p) (hx : Storable env x) (hs : swapsWith e (some (.Name x px)) pos.line env = pure false := by rfl) : SemS w n env ρ (.Assign [.Name x px] e pos) (.next ((x, p) :: ρ)) :=
  fun A X s Q E ok k => wpAny_Assign_Name (h A X s _ E ok fun v s' e r => store_any (ok.ext e) r hx fun s₂ e₂ ok₂ => k s₂ (e.toO.trans e₂) ok₂) hs

theorem SemS.ite {t : Expr} {b : Bool} {body orelse : List Stmt} {pos : Pos} {o : Out} (ht : SemT w n env ρ t b) (h1 : b = true → SemB w n env ρ body o) (h2 : b = false → SemB w n env ρ orelse o) : SemS w n env ρ (.If t body orelse pos) o := by
  intro A X s Q E ok k
  refine wpAny_If (ht A X s _ E ok fun s' e => ?_)
  cases b with
  | true => simp only [if_true]; exact h1 rfl A X s' Q E (ok.ext e) (k.from e.toO)
  | false => simp only [Bool.false_eq_true, if_false]; exact h2 rfl A X s' Q E (ok.ext e) (k.from e.toO)

theorem SemS.aug {x : Str} {px pos : Pos} {op : Operator} {e : Expr} {i j r : Int} (hv : ρ.lookup x = some (.int i)) (h : SemE w n env ρ e (.int j)) (hx : Storable env x)
    (hop : ∀ (A : Around) (s : Shared) (Q E : Value → Shared → Prop) (t u : Tok), (∀ t tk, Q (.int r t) { s with toks := tk }) → wpAny (model pr w) A (inplaceOp op (.int i t) (.int j u)) Q E s) : SemS w n env ρ (.AugAssign (.Name x px) op e pos) (.next ((x, .int r) :: ρ)) := by
  intro A X s Q E ok k
  have ld : wpAny (model pr w) A (loadName env x) (fun old s₁ => wpAny (model pr w) A (eval e env) (fun v s₂ => wpAny (model pr w) A (inplaceOp op old v) (fun r s₃ => wpAny (model pr w) A (storeName env x r) (fun _ => Q .next) E s₃) E s₂) E s₁) E s := by
    have rest : ∀ t, wpAny (model pr w) A (eval e env) (fun v s₂ => wpAny (model pr w) A (inplaceOp op (.int i t) v) (fun r s₃ => wpAny (model pr w) A (storeName env x r) (fun _ => Q .next) E s₃) E s₂) E s := fun t =>
      h A X s _ E ok fun v s₂ e₂ r₂ => by
        cases r₂
        refine hop A s₂ _ E t _ fun t' tk => ?_
        have e₃ := e₂.trans (.tok s₂ tk)
        exact store_any (ok.ext e₃) (.int r t') hx fun s₄ e₄ ok₄ => k s₄ (e₃.toO.trans e₄) ok₄
    cases ok.vars x _ hv with
    | loc hk hn hv r => cases r with | int _ t => exact wpAny_loadName_local ok.f.kind hk hn hv (rest t)
    | cell hk hc hv r => cases r with | int _ t => exact wpAny_loadName_cell ok.f.kind hk hc hv (rest t)
  exact wpAny_AugAssign_Name ld
end

theorem bindL_miss (kd : Str → Option NameKind) : ∀ (binds : List (Str × Value)) (m : Str → Option Value) (x : Str), x ∉ binds.map (·.1) → bindL kd binds m x = m x
  | [], _, _, _ => rfl
  | (n, v) :: r, m, x, h => by
    simp only [List.map_cons, List.mem_cons, not_or] at h
    rw [bindL, bindL_miss kd r _ x h.2]
    split
    · simp [h.1]
    · rfl
theorem bindC_miss (kd : Str → Option NameKind) : ∀ (binds : List (Str × Value)) (m : Str → Option Value) (x : Str), x ∉ binds.map (·.1) → bindC kd binds m x = m x
  | [], _, _, _ => rfl
  | (n, v) :: r, m, x, h => by
    simp only [List.map_cons, List.mem_cons, not_or] at h
    rw [bindC, bindC_miss kd r _ x h.2]
    split
    · rfl
    · simp [h.1]
theorem bindL_hit (kd : Str → Option NameKind) : ∀ (binds : List (Str × Value)) (m : Str → Option Value) (x : Str) (v : Value), (binds.map (·.1)).Nodup → (x, v) ∈ binds → kd x = some .local → bindL kd binds m x = some v
  | (n, u) :: r, m, x, v, hn, hm, hk => by
    simp only [List.map_cons, List.nodup_cons] at hn
    rcases List.mem_cons.mp hm with e | hm
    · cases e
      rw [bindL, bindL_miss kd r _ n hn.1, if_pos hk]; simp
    · rw [bindL]; exact bindL_hit kd r _ x v hn.2 hm hk
theorem bindC_hit (kd : Str → Option NameKind) : ∀ (binds : List (Str × Value)) (m : Str → Option Value) (x : Str) (v : Value), (binds.map (·.1)).Nodup → (x, v) ∈ binds → kd x ≠ some .local → bindC kd binds m x = some v
  | (n, u) :: r, m, x, v, hn, hm, hk => by
    simp only [List.map_cons, List.nodup_cons] at hn
    rcases List.mem_cons.mp hm with e | hm
    · cases e
      rw [bindC, bindC_miss kd r _ n hn.1, if_neg hk]; simp
    · rw [bindC]; exact bindC_hit kd r _ x v hn.2 hm hk

theorem zip_lookup {h : Heap} {X : Addr → Prop} : ∀ {ns : List Str} {vs : List Value} {ps : List P}, Reps h X vs ps → ∀ x p, (ns.zip ps).lookup x = some p → ∃ v, (x, v) ∈ ns.zip vs ∧ Rep h X v p
  | [], _, _, _, x, p, e => by simp at e
  | _ :: _, _, _, .nil, x, p, e => by simp at e
  | n :: ns, _, _, .cons (v := v) (p := q) a r, x, p, e => by
    rw [List.zip_cons_cons, List.lookup_cons] at e
    cases hx : x == n with
    | true => rw [hx] at e; cases e; exact ⟨v, by rw [beq_iff_eq.mp hx]; exact .head _, a⟩
    | false =>
      rw [hx] at e
      obtain ⟨u, hu, ru⟩ := zip_lookup r x p e
      exact ⟨u, .tail _ hu, ru⟩

theorem cellsFrom_pairs : ∀ (names : List (Str × NameKind)) (h : Heap) (lo : Nat), (cellsFrom lo names []).length = (cellsFrom lo names []).length := fun _ _ _ => rfl

theorem SemC.fn {w : World} {n : Nat} {f : Addr} {oc : Value} {od : Option Addr} {osl : Array (Option Value)} {fd : FuncData} {ns : List Str} {ps : List P} {body : List Stmt} {q : P}
    (ho : (KK w).lookup f = some ⟨oc, od, .func fd, osl⟩) (hcd : codeIn (KK w) fd.code fd.qualname = true) (hbody : fd.body = .stmts body) (hbind : ∀ vs : List Value, vs.length = ps.length → bindArgs fd ⟨vs, []⟩ = pure (ns.zip vs))
    (hlen : ns.length = ps.length) (hnd : ns.Nodup) (hkind : ∀ k, ∀ x ∈ ns, fd.scope.names.lookup x = some .local ∨ (fd.scope.names.lookup x = some .cell ∧ ((cellsFrom k fd.scope.names []).lookup x).isSome = true))
    (h : ∀ L, SemB w n (callEnvC fd L f) (ns.zip ps) body (.ret q)) (hclo : fd.closure = [] := by rfl) (hg : fd.globals = mainGlobals := by rfl) (hb : fd.builtins = builtinsNs := by rfl)
    (hco : fd.scope.isCoroutine = false := by rfl) (hgen : fd.scope.isGenerator = false := by rfl) (hk : fd.scope.kind = .function := by rfl) : SemC w (n + 1) (.ref f) ps q := by
  intro A X s vs Q E room g xo r k
  refine wpAny_call (codeAny_call_cells (by have := room.dp; omega) (g.kin _ _ ho) rfl g.nolimit (codeRec_of g.kin hcd) hbody (hbind vs r.length) hclo (fun x hx => hkind _ x.1 (List.of_mem_zip hx).1) (fun s₁ x => ?_) hco hgen hk)
  have hkeep := x.toInCall.keep
  have hsz : ∀ b, own (callEnvC fd s.heap.objs.size f) b → s.heap.objs.size ≤ b := fun b hb => by
    rcases hb with hb | ⟨m, hm⟩
    · exact Nat.le_of_eq hb.symm
    · exact Nat.le_of_lt (x.above m b (mem_of_lookup hm))
  have hnotown : ∀ b o, s.heap.get? b = some o → ¬ own (callEnvC fd s.heap.objs.size f) b := fun b o e q => absurd (Heap.lt_size e) (Nat.not_lt.mpr (hsz b q))
  have hnames : (ns.zip vs).map (·.1) = ns := List.map_fst_zip (by rw [hlen, r.length]; exact Nat.le_refl _)
  have ok : Ok w n (callEnvC fd s.heap.objs.size f) (ns.zip ps) (A.deeper (callEnvC fd s.heap.objs.size f)) (fun b => X b ∨ own (callEnvC fd s.heap.objs.size f) b) s₁ := by
    refine ⟨room.deeper, g.keeps hkeep, ⟨hk, hg, hb, ⟨_, x.toInCall.ns⟩, .inr (.inl rfl), fun m c e => ⟨.inr (.inr ⟨m, e⟩), fun q => ?_, ⟨_, x.cell m c e⟩⟩, x.apart, ⟨fun b hb => ?_, fun b hb => ?_⟩⟩, fun y p e => ?_⟩
    · have := x.above m c (mem_of_lookup e)
      rw [q] at this; exact Nat.lt_irrefl _ this
    · exact hb.elim (xo.high b) fun q => Nat.le_trans g.high (hsz b q)
    · rcases hb with hb | hb | ⟨m, hm⟩
      · obtain ⟨o, e⟩ := xo.live b hb
        exact ⟨o, hkeep _ _ e⟩
      · obtain ⟨o, _, _, e, _⟩ := x.toInCall.ns
        exact ⟨o, hb ▸ e⟩
      · obtain ⟨o, e, _⟩ := x.cell m b hm
        exact ⟨o, e⟩
    · obtain ⟨v, hv, rv⟩ := zip_lookup r y p e
      have rv' : Rep s₁.heap (fun b => X b ∨ own (callEnvC fd s.heap.objs.size f) b) v p := rv.mono fun b o nx e => ⟨hkeep b o e, fun q => q.elim nx (hnotown b o e)⟩
      have hkn : (callEnvC fd s.heap.objs.size f).kindOf y = fd.scope.names.lookup y := rfl
      rcases hkind (s.heap.objs.size + 1) y (List.of_mem_zip hv).1 with hl | ⟨hl, hc⟩
      · exact .loc (by rw [hkn]; exact hl) x.toInCall.ns (bindL_hit _ _ _ y v (by rw [hnames]; exact hnd) hv (by rw [hkn]; exact hl)) rv'
      · obtain ⟨c, hc⟩ := Option.isSome_iff_exists.mp hc
        refine .cell (c := c) (by rw [hkn]; exact hl) hc ?_ rv'
        have := x.cell y c hc
        rwa [bindC_hit _ _ _ y v (by rw [hnames]; exact hnd) hv (by rw [hkn, hl]; decide)] at this
  refine h s.heap.objs.size _ _ s₁ _ _ ok fun v s' e rv => ?_
  have e' : Ext s s' := ⟨by
    obtain ⟨h₁, tk₁, rfl⟩ := x.toInCall.same
    exact Same.trans ⟨h₁, tk₁, rfl⟩ e.same, fun b o eb => e.keep b o (hnotown b o eb) (hkeep b o eb)⟩
  exact k v s' e' (rv.mono fun b o nx e => ⟨e, fun q => nx (.inl q)⟩)
end Mine
end

section
open PySem PySem.W PyProof.Rows
set_option autoImplicit false
set_option linter.all false
set_option maxRecDepth 100000
namespace Mine

/-- the order of texts -/
noncomputable def ltL : List Nat → List Nat → Bool
  | _, [] => false
  | [], _ :: _ => true
  | a :: as, b :: bs => if a < b then true else if a = b then ltL as bs else false
theorem ltL_eq : ∀ x y : List Nat, ltL x y = decide (x < y)
  | [], [] => by simp [ltL]
  | _ :: _, [] => by simp [ltL]
  | [], _ :: _ => by simp [ltL]
  | a :: as, b :: bs => by
    rw [ltL, ltL_eq as bs]
    by_cases h : a < b
    · simp [h, List.cons_lt_cons_iff]
    · by_cases h2 : a = b
      · subst h2; simp [List.cons_lt_cons_iff]
      · simp [h, h2, List.cons_lt_cons_iff]

noncomputable def minL : List (List Nat) → List Nat
  | [] => []
  | x :: xs => xs.foldl (fun b y => if ltL y b then y else b) x

theorem argBest_lt (bt : Nat → Nat → Bool) : ∀ j, argBest bt j ≤ j
  | 0 => Nat.le_refl _
  | j + 1 => by
    rw [argBest]
    split
    · exact Nat.le_refl _
    · exact Nat.le_succ_of_le (argBest_lt bt j)
theorem argBest_min (x : List Nat) (xs : List (List Nat)) (bt : Nat → Nat → Bool) (hbt : ∀ i j a b, (x :: xs)[i]? = some a → (x :: xs)[j]? = some b → bt i j = ltL a b) :
    ∀ j, j ≤ xs.length → (x :: xs)[argBest bt j]? = some ((xs.take j).foldl (fun b y => if ltL y b then y else b) x)
  | 0, _ => by simp [argBest]
  | j + 1, h => by
    have ih := argBest_min x xs bt hbt j (by omega)
    have hj : xs[j]? = some xs[j] := List.getElem?_eq_some_iff.mpr ⟨h, rfl⟩
    have hj' : (x :: xs)[j + 1]? = some xs[j] := by rw [List.getElem?_cons_succ]; exact hj
    rw [List.take_add_one, hj, List.foldl_append]
    simp only [Option.toList_some, List.foldl_cons, List.foldl_nil]
    rw [argBest, hbt _ _ _ _ hj' ih]
    split
    · exact hj'
    · exact ih

section
variable {w : World} {n : Nat} {env : Env} {ρ : Rho}

theorem SemC.lenS {x : List Nat} (hz : x.length ≤ 16777216) : SemC w n (.builtin "len") [.str x] (.int x.length) := by
  intro A X s vs Q E room g xo r k
  cases r with
  | cons a r => cases r; cases a; exact PyProof.Rows.len_str (by simp [Str.length]; omega) (by
      rw [show ((S x).length : Int) = x.length by simp [Str.length]]
      exact k _ _ (.tok s _) (.int _ _))
theorem SemC.lenL {x : List P} (hz : x.length ≤ 16777216) : SemC w n (.builtin "len") [.list x] (.int x.length) := by
  intro A X s vs Q E room g xo r k
  cases r with
  | cons a r =>
    cases r
    cases a with
    | @list a vs ne _ ho hx r =>
      refine PyProof.Rows.len_list (items := vs.toArray) ⟨_, ho, rfl, ne, rfl⟩ (by rw [List.size_toArray, r.length]; omega) ?_
      rw [List.size_toArray, r.length]
      exact k _ _ (.tok s _) (.int _ _)

theorem SemI.range2 {np pos : Pos} {e₁ e₂ : Expr} {a b : Int} (h : SemA w n env ρ [e₁, e₂] [.int a, .int b]) (ha : -(2 ^ 62) ≤ a ∧ a < 2 ^ 62) (hb : -(2 ^ 62) ≤ b ∧ b < 2 ^ 62) (hn : NameV w n env ρ (Str.ofString "range") (.type "range"))
    (he : starEach [e₁, e₂] env = (false, eval e₁ env) :: starEach [e₂] env := by rfl) (hp : (backTo pos (starEach [e₂] env)).any (·.1) = false := by rfl)
    (hev : eval (.Call (.Name (Str.ofString "range") np) [e₁, e₂] [] pos) env = (do callWith pos (← eval (.Name (Str.ofString "range") np) env) [] (backTo pos (starEach [e₁, e₂] env)) (backToKw pos (keywordEach [] env))) := by rfl) :
    SemI w n env ρ (.Call (.Name (Str.ofString "range") np) [e₁, e₂] [] pos) ((List.range (b - a).toNat).map fun (i : Nat) => P.int (a + (i : Int))) := by
  intro A X s Q E ok k
  refine PyProof.Rows.Call_ (hn A X s _ E np ok (callable_ty (w := w) A s Q E env pos e₁ [e₂] ok.g.kin he hp (h pos A X s _ E ok fun vs s₁ e₁' r => ⟨(ok.ext e₁').g.kin, ?_⟩))) hev
  cases r with
  | cons r1 r =>
  cases r with
  | cons r2 r =>
  cases r; cases r1; cases r2
  refine call_range_2 (k _ _ (e₁'.trans ((Ext.push s₁ _).trans (.tok _ _))) ?_)
  exact IterTo.range ok.room.hd (IsRange.new ..) (small_one ha.1 ha.2 hb.1 hb.2) (rangeSize_nat a b)
theorem SemI.range1 {np pos : Pos} {e₁ : Expr} {b : Int} (h : SemA w n env ρ [e₁] [.int b]) (hb : -(2 ^ 62) ≤ b ∧ b < 2 ^ 62) (hn : NameV w n env ρ (Str.ofString "range") (.type "range"))
    (he : starEach [e₁] env = (false, eval e₁ env) :: starEach [] env := by rfl) (hp : (backTo pos (starEach [] env)).any (·.1) = false := by rfl)
    (hev : eval (.Call (.Name (Str.ofString "range") np) [e₁] [] pos) env = (do callWith pos (← eval (.Name (Str.ofString "range") np) env) [] (backTo pos (starEach [e₁] env)) (backToKw pos (keywordEach [] env))) := by rfl) :
    SemI w n env ρ (.Call (.Name (Str.ofString "range") np) [e₁] [] pos) ((List.range b.toNat).map fun (i : Nat) => P.int (i : Int)) := by
  intro A X s Q E ok k
  refine PyProof.Rows.Call_ (hn A X s _ E np ok (callable_ty (w := w) A s Q E env pos e₁ [] ok.g.kin he hp (h pos A X s _ E ok fun vs s₁ e₁' r => ⟨(ok.ext e₁').g.kin, ?_⟩))) hev
  cases r with
  | cons r1 r =>
  cases r; cases r1
  refine call_range_1 (k _ _ (e₁'.trans ((Ext.push s₁ _).trans (.tok _ _))) ?_)
  have e0 : ((List.range b.toNat).map fun (i : Nat) => P.int (i : Int)) = (List.range (b - 0).toNat).map fun (i : Nat) => P.int (0 + (i : Int)) := by simp
  rw [e0]
  exact IterTo.range ok.room.hd (IsRange.new ..) (small_one (by decide) (by decide) hb.1 hb.2) (rangeSize_nat 0 b)

theorem SemC.minS {x : List Nat} {xs : List (List Nat)} : SemC w n (.builtin "min") [.list ((x :: xs).map .str)] (.str (minL (x :: xs))) := by
  intro A X s vs Q E room g xo r k
  cases r with
  | cons a r =>
  cases r
  have hi := IterTo.list (w := w) (A := A.in1) room.hd a
  refine call_min_walk (hi _ E fun I h fp Pf St up hI hI2 hfp W hst hlive hitem hidle => ?_)
  have hst' : ∀ i v, Pf i v → ∀ a, (x :: xs)[i]? = some a → ∃ t, v = .str (S a) t := fun i v hP a ha => by
    have := hitem i v hP (.str a) (by rw [List.getElem?_map, ha]; rfl)
    cases this; exact ⟨_, rfl⟩
  let bt : Nat → Nat → Bool := fun i j => ltL ((x :: xs).getD i []) ((x :: xs).getD j [])
  have hbt : ∀ i j a b, (x :: xs)[i]? = some a → (x :: xs)[j]? = some b → bt i j = ltL a b := fun i j a b ha hb => by
    show ltL ((x :: xs).getD i []) ((x :: xs).getD j []) = _
    rw [List.getD_eq_getElem?_getD, List.getD_eq_getElem?_getD, ha, hb]; rfl
  have Wn := W
  have hlen : ((x :: xs).map P.str).length = xs.length + 1 := by simp
  have W' := W.bound
  refine ⟨I, fp, [I], _, _, St, bt, rfl, W', hst, fun b hb => ?_, by rw [hlen]; omega, ?_, fun v h' tk hP hk => ?_⟩
  · obtain ⟨_, o, ho⟩ := hfp b hb
    exact Heap.lt_size ho
  · intro i j vi vj s' Q' E' hi' hj' hQ
    have gi : i < (x :: xs).length := by have := hi'.1; rw [hlen] at this; simpa using this
    have gj : j < (x :: xs).length := by have := hj'.1; rw [hlen] at this; simpa using this
    obtain ⟨t, rfl⟩ := hst' i vi hi'.2 _ (List.getElem?_eq_some_iff.mpr ⟨gi, rfl⟩)
    obtain ⟨u, rfl⟩ := hst' j vj hj'.2 _ (List.getElem?_eq_some_iff.mpr ⟨gj, rfl⟩)
    rw [hbt i j _ _ (List.getElem?_eq_some_iff.mpr ⟨gi, rfl⟩) (List.getElem?_eq_some_iff.mpr ⟨gj, rfl⟩), ltL_eq] at hQ
    exact PyProof.Rows.lt_str (x := S ((x :: xs)[i])) (y := S ((x :: xs)[j])) (by simpa using hQ)
  · have hb := argBest_min x xs bt hbt xs.length (Nat.le_refl _)
    rw [List.take_length] at hb
    rw [hlen] at hP
    obtain ⟨t, rfl⟩ := hst' _ v hP.2 _ hb
    exact k _ _ (Ext.of fun b o e => hk b o (by
      simp only [List.mem_singleton]
      intro q; rw [q, Heap.get_size _ _ hI] at e; cases e) (up _ _ e)) (.str _ t)

theorem SemE.conv {e : Expr} {p p' : P} (h : SemE w n env ρ e p) (hp : p = p') : SemE w n env ρ e p' := hp ▸ h
theorem SemE.slFrom {value lower : Expr} {p pos : Pos} {x : List Nat} {i : Int} (hv : SemE w n env ρ value (.str x)) (hl : SemE w n env ρ lower (.int i)) (hi : 0 ≤ i) (hz : x.length ≤ 16777216)
    (ht : ∀ o r, letTemporaryGo value o r = pure () := by intro _ _; rfl) : SemE w n env ρ (.Subscript value (.Slice (some lower) none none p) pos) (.str (x.drop i.toNat)) := by
  obtain ⟨k, rfl⟩ := Int.eq_ofNat_of_zero_le hi
  have := SemE.slS (p := p) (pos := pos) hv (SemPt.some hl) SemPt.none hz ht
  rw [pySl_from] at this
  simpa using this
theorem SemE.slTo {value upper : Expr} {p pos : Pos} {x : List Nat} {i : Int} (hv : SemE w n env ρ value (.str x)) (hl : SemE w n env ρ upper (.int i)) (hi : 0 ≤ i) (hz : x.length ≤ 16777216)
    (ht : ∀ o r, letTemporaryGo value o r = pure () := by intro _ _; rfl) : SemE w n env ρ (.Subscript value (.Slice none (some upper) none p) pos) (.str (x.take i.toNat)) := by
  obtain ⟨k, rfl⟩ := Int.eq_ofNat_of_zero_le hi
  have := SemE.slS (p := p) (pos := pos) hv SemPt.none (SemPt.some hl) hz ht
  rw [pySl_to] at this
  simpa using this
theorem SemE.lslTo {value upper : Expr} {p pos : Pos} {x : List P} {i : Int} (hv : SemE w n env ρ value (.list x)) (hl : SemE w n env ρ upper (.int i)) (hi : 0 ≤ i) (hz : x.length ≤ 16777216) :
    SemE w n env ρ (.Subscript value (.Slice none (some upper) none p) pos) (.list (x.take i.toNat)) := by
  obtain ⟨k, rfl⟩ := Int.eq_ofNat_of_zero_le hi
  have := SemE.slL (p := p) (pos := pos) hv SemPt.none (SemPt.some hl) hz
  rw [pySl_to] at this
  simpa using this
theorem SemE.lslFrom {value lower : Expr} {p pos : Pos} {x : List P} {i : Int} (hv : SemE w n env ρ value (.list x)) (hl : SemE w n env ρ lower (.int i)) (hi : 0 ≤ i) (hz : x.length ≤ 16777216) :
    SemE w n env ρ (.Subscript value (.Slice (some lower) none none p) pos) (.list (x.drop i.toNat)) := by
  obtain ⟨k, rfl⟩ := Int.eq_ofNat_of_zero_le hi
  have := SemE.slL (p := p) (pos := pos) hv (SemPt.some hl) SemPt.none hz
  rw [pySl_from] at this
  simpa using this

theorem SemC.ord {c : Nat} : SemC w n (.builtin "ord") [.str [c]] (.int c) := by
  intro A X s vs Q E room g xo r k
  cases r with
  | cons a r => cases r; cases a; exact P.ord_of_char (k _ _ (.tok s _) (.int _ _))
theorem SemC.chr {c : Nat} (hc : c ≤ 1114111) : SemC w n (.builtin "chr") [.int c] (.str [c]) := by
  intro A X s vs Q E room g xo r k
  cases r with
  | cons a r => cases r; cases a; exact P.chr_of_int (by simp; omega) (k _ _ (.tok s _) (.str [c] _))
end
end Mine
end

section
open PySem PySem.W PyProof.Rows
set_option autoImplicit false
set_option linter.all false
set_option maxRecDepth 100000
namespace Mine

/-- one list of the block's own, which it changes in place -/
noncomputable def OwOk (a : Option Addr) (ps : List P) (env : Env) (X : Addr → Prop) (s : Shared) : Prop := match a with
  | none => True
  | some a => X a ∧ ¬ own env a ∧ ∃ vs k, s.heap.get? a = some (lstO vs k) ∧ Reps s.heap X vs ps
noncomputable def owA (a : Option Addr) (b : Addr) : Prop := a = some b

structure ExtK (env : Env) (a : Option Addr) (s s' : Shared) : Prop where
  same : Same s s'
  keep : ∀ b o, ¬ own env b → ¬ owA a b → s.heap.get? b = some o → s'.heap.get? b = some o
theorem ExtK.refl (env : Env) (a : Option Addr) (s : Shared) : ExtK env a s s := ⟨⟨s.heap, s.toks, rfl⟩, fun _ _ _ _ e => e⟩
theorem ExtK.trans {env : Env} {a : Option Addr} {s s' s'' : Shared} (x : ExtK env a s s') (y : ExtK env a s' s'') : ExtK env a s s'' := ⟨x.same.trans y.same, fun b o n m e => y.keep b o n m (x.keep b o n m e)⟩
theorem ExtO.toK {env : Env} {a : Option Addr} {s s' : Shared} (x : ExtO env s s') : ExtK env a s s' := ⟨x.same, fun b o n _ e => x.keep b o n e⟩
theorem Ext.toK {env : Env} {a : Option Addr} {s s' : Shared} (x : Ext s s') : ExtK env a s s' := x.toO.toK
theorem OwOk.ext {a : Option Addr} {ps : List P} {env : Env} {X : Addr → Prop} {s s' : Shared} (x : OwOk a ps env X s) (e : ExtO env s s') (hX : ∀ b, own env b → X b) : OwOk a ps env X s' := by
  cases a with
  | none => trivial
  | some a =>
    obtain ⟨h1, h2, vs, k, h3, h4⟩ := x
    exact ⟨h1, h2, vs, k, e.keep _ _ h2 h3, h4.mono fun b o nx eb => ⟨e.keep b o (fun q => nx (hX b q)) eb, nx⟩⟩
theorem Frm.ownX {env : Env} {h : Heap} {X : Addr → Prop} (f : Frm env h X) : ∀ b, own env b → X b := fun b hb => hb.elim (fun q => q ▸ f.lx) fun ⟨n, e⟩ => (f.cellx n b e).1

inductive OutK where
  | next (ρ : Rho) (ps : List P) | ret (p : P)

noncomputable def PostK (w : World) (n : Nat) (env : Env) (a : Option Addr) (A : Around) (X : Addr → Prop) (s : Shared) (o : OutK) (Q : Flow → Shared → Prop) : Prop := match o with
  | .next ρ' ps' => ∀ s', ExtK env a s s' → Ok w n env ρ' A X s' → OwOk a ps' env X s' → Q .next s'
  | .ret p => ∀ v s', ExtK env a s s' → Rep s'.heap (fun b => X b ∧ ¬ owA a b) v p → Q (.ret v) s'
theorem PostK.from {w : World} {n : Nat} {env : Env} {a : Option Addr} {A : Around} {X : Addr → Prop} {s s' : Shared} {o : OutK} {Q : Flow → Shared → Prop} (e : ExtK env a s s') (k : PostK w n env a A X s o Q) : PostK w n env a A X s' o Q := by
  cases o with
  | next ρ' ps' => exact fun s₂ e₂ ok ow => k s₂ (e.trans e₂) ok ow
  | ret p => exact fun v s₂ e₂ r => k v s₂ (e.trans e₂) r

noncomputable def SemK (w : World) (n : Nat) (env : Env) (a : Option Addr) (ρ : Rho) (ps : List P) (body : List Stmt) (o : OutK) : Prop :=
  ∀ (A : Around) (X : Addr → Prop) (s : Shared) (Q : Flow → Shared → Prop) (E : Value → Shared → Prop), Ok w n env ρ A X s → OwOk a ps env X s → PostK w n env a A X s o Q → wpAny (model pr w) A (execs body env) Q E s
noncomputable def SemKS (w : World) (n : Nat) (env : Env) (a : Option Addr) (ρ : Rho) (ps : List P) (st : Stmt) (o : OutK) : Prop :=
  ∀ (A : Around) (X : Addr → Prop) (s : Shared) (Q : Flow → Shared → Prop) (E : Value → Shared → Prop), Ok w n env ρ A X s → OwOk a ps env X s → PostK w n env a A X s o Q → wpAny (model pr w) A (exec st env) Q E s

section
variable {w : World} {n : Nat} {env : Env} {a : Option Addr} {ρ : Rho} {ps : List P}
theorem SemK.nil : SemK w n env a ρ ps [] (.next ρ ps) := fun A X s Q E ok ow k => wpAny_execs_nil (k s (.refl _ _ _) ok ow)
theorem SemK.cons {st : Stmt} {rest : List Stmt} {ρ' : Rho} {ps' : List P} {o : OutK} (h : SemKS w n env a ρ ps st (.next ρ' ps')) (hr : SemK w n env a ρ' ps' rest o) : SemK w n env a ρ ps (st :: rest) o :=
  fun A X s Q E ok ow k => wpAny_execs_cons (h A X s _ E ok ow fun s' e ok' ow' => hr A X s' Q E ok' ow' (k.from e))
theorem SemK.consR {st : Stmt} {rest : List Stmt} {p : P} (h : SemKS w n env a ρ ps st (.ret p)) : SemK w n env a ρ ps (st :: rest) (.ret p) :=
  fun A X s Q E ok ow k => wpAny_execs_cons (h A X s _ E ok ow fun v s' e r => k v s' e r)
theorem SemKS.ofS {st : Stmt} {ρ' : Rho} (h : SemS w n env ρ st (.next ρ')) : SemKS w n env a ρ ps st (.next ρ' ps) :=
  fun A X s Q E ok ow k => h A X s Q E ok fun s' e ok' => k s' e.toK ok' (ow.ext e ok.f.ownX)
theorem SemKS.retS {st : Stmt} {p : P} (h : SemS w n env ρ st (.ret p)) : SemKS w n env a ρ ps st (.ret p) :=
  fun A X s Q E ok ow k => h A X s Q E ok fun v s' e r => k v s' e.toK (r.mono fun b o nx e => ⟨e, fun q => nx q.1⟩)
theorem SemK.weak {ρ' : Rho} {body : List Stmt} {o : OutK} (h : SemK w n env a ρ' ps body o) (hw : ∀ x p, ρ'.lookup x = some p → ρ.lookup x = some p) : SemK w n env a ρ ps body o := fun A X s Q E ok ow k => h A X s Q E (ok.weak hw) ow k
theorem SemK.post {ρ₁ ρ₂ : Rho} {ps' : List P} {body : List Stmt} (h : SemK w n env a ρ ps body (.next ρ₁ ps')) (hw : ∀ x p, ρ₂.lookup x = some p → ρ₁.lookup x = some p) : SemK w n env a ρ ps body (.next ρ₂ ps') :=
  fun A X s Q E ok ow k => h A X s Q E ok ow fun s' e ok' ow' => k s' e (ok'.weak hw) ow'
theorem SemKS.ite {t : Expr} {b : Bool} {body orelse : List Stmt} {pos : Pos} {o : OutK} (ht : SemT w n env ρ t b) (h1 : b = true → SemK w n env a ρ ps body o) (h2 : b = false → SemK w n env a ρ ps orelse o) : SemKS w n env a ρ ps (.If t body orelse pos) o := by
  intro A X s Q E ok ow k
  refine wpAny_If (ht A X s _ E ok fun s' e => ?_)
  have ow' := ow.ext e.toO ok.f.ownX
  cases b with
  | true => simp only [if_true]; exact h1 rfl A X s' Q E (ok.ext e) ow' (k.from e.toK)
  | false => simp only [Bool.false_eq_true, if_false]; exact h2 rfl A X s' Q E (ok.ext e) ow' (k.from e.toK)
theorem SemB.ofK {body : List Stmt} {o : OutK} (h : SemK w n env none ρ [] body o) : SemB w n env ρ body (match o with | .next ρ' _ => .next ρ' | .ret p => .ret p) := by
  intro A X s Q E ok k
  refine h A X s Q E ok trivial ?_
  cases o with
  | next ρ' ps' => exact fun s' e ok' _ => k s' ⟨e.same, fun b o n ex => e.keep b o n (fun q => by cases q) ex⟩ ok'
  | ret p => exact fun v s' e r => k v s' ⟨e.same, fun b o n ex => e.keep b o n (fun q => by cases q) ex⟩ (r.mono fun b o nx e => ⟨e, fun q => nx ⟨q, fun z => by cases z⟩⟩)
theorem SemS.ofKS {st : Stmt} {ρ' : Rho} {ps' : List P} (h : SemKS w n env none ρ [] st (.next ρ' ps')) : SemS w n env ρ st (.next ρ') :=
  fun A X s Q E ok k => h A X s Q E ok trivial fun s' e ok' _ => k s' ⟨e.same, fun b o n ex => e.keep b o n (fun q => by cases q) ex⟩ ok'
theorem SemK.ofB {body : List Stmt} {ρ' : Rho} (h : SemB w n env ρ body (.next ρ')) : SemK w n env a ρ ps body (.next ρ' ps) :=
  fun A X s Q E ok ow k => h A X s Q E ok fun s' e ok' => k s' e.toK ok' (ow.ext e ok.f.ownX)

/-- what a while comes to -/
inductive WhileTo (w : World) (n : Nat) (env : Env) (a : Option Addr) (test : Expr) (body : List Stmt) : Rho → List P → Rho → List P → Prop
  | done {ρ : Rho} {ps : List P} (h : SemT w n env ρ test false) : WhileTo w n env a test body ρ ps ρ ps
  | step {ρ ρ₁ ρ' : Rho} {ps ps₁ ps' : List P} (h : SemT w n env ρ test true) (hb : SemK w n env a ρ ps body (.next ρ₁ ps₁)) (r : WhileTo w n env a test body ρ₁ ps₁ ρ' ps') : WhileTo w n env a test body ρ ps ρ' ps'

theorem SemKS.while {test : Expr} {body : List Stmt} {pos : Pos} {ρ' : Rho} {ps' : List P} (h : WhileTo w n env a test body ρ ps ρ' ps') : SemKS w n env a ρ ps (.While test body [] pos) (.next ρ' ps') := by
  intro A X s Q E ok ow k
  refine wpAny_While ?_
  have key : ∀ (R : Result → Shared → Prop) (s : Shared), Ok w n env ρ A X s → OwOk a ps env X s → (∀ s', ExtK env a s s' → Ok w n env ρ' A X s' → OwOk a ps' env X s' → R (.ok .next) s') → codeAny (model pr w) A (.whileLoop test body [] env) R s := by
    clear k ow ok
    induction h with
    | done ht =>
      intro R s ok ow k
      refine codeAny_of_tree ?_
      show wpAny _ A ((whileTurn test body [] env).onRaise (fun x => do noteFrame x env; theTreesLotGoes x)) _ _ s
      refine wpAny_noted ?_
      simp only [whileTurn]
      refine wpAny_bind (ht A X s _ _ ok fun s' e => ?_)
      simp only [Bool.false_eq_true, if_false]
      exact wpAny_bind (wpAny_execs_nil (wpAny_pure (k s' e.toK (ok.ext e) (ow.ext e.toO ok.f.ownX))))
    | step ht hb r ih =>
      intro R s ok ow k
      refine codeAny_of_tree ?_
      show wpAny _ A ((whileTurn test body [] env).onRaise (fun x => do noteFrame x env; theTreesLotGoes x)) _ _ s
      refine wpAny_noted ?_
      simp only [whileTurn]
      refine wpAny_bind (ht A X s _ _ ok fun s' e => ?_)
      simp only [if_true]
      refine wpAny_bind (hb A X s' _ _ (ok.ext e) (ow.ext e.toO ok.f.ownX) fun s₂ e₂ ok₂ ow₂ => ?_)
      exact wpAny_pure ⟨rfl, ih R s₂ ok₂ ow₂ fun s₃ e₃ ok₃ ow₃ => k s₃ ((e.toK.trans e₂).trans e₃) ok₃ ow₃⟩
  exact key _ s ok ow fun s' e ok' ow' => k s' e ok' ow'

/-- what a for over these items comes to -/
inductive ForTo (w : World) (n : Nat) (env : Env) (a : Option Addr) (x : Str) (body : List Stmt) : List P → Rho → List P → Rho → List P → Prop
  | nil {ρ : Rho} {ps : List P} : ForTo w n env a x body [] ρ ps ρ ps
  | cons {p : P} {qs : List P} {ρ ρ₁ ρ' : Rho} {ps ps₁ ps' : List P} (hb : SemK w n env a ((x, p) :: ρ) ps body (.next ρ₁ ps₁)) (r : ForTo w n env a x body qs ρ₁ ps₁ ρ' ps') : ForTo w n env a x body (p :: qs) ρ ps ρ' ps'

theorem OwOk.addr {X : Addr → Prop} {s : Shared} (x : OwOk a ps env X s) : ∀ b, owA a b → X b ∧ ¬ own env b := by
  intro b hb
  cases a with
  | none => cases hb
  | some a => cases hb; exact ⟨x.1, x.2.1⟩

theorem Frm.same_own {env : Env} {h : Heap} {X : Addr → Prop} (f : Frm env h X) {I : Addr} (hI : ¬ X I) : ¬ own env I := fun q => hI (f.ownX I q)

theorem SemKS.for {x : Str} {px pos : Pos} {iter : Expr} {items : List P} {body : List Stmt} {ρ' : Rho} {ps' : List P} (hi : SemI w n env ρ iter items) (h : ForTo w n env a x body items ρ ps ρ' ps') (hx : Storable env x) (hf : ∀ y, foldedSetIterable iter env y = pure y := by intro _; rfl) :
    SemKS w n env a ρ ps (.For (.Name x px) iter body [] pos) (.next ρ' ps') := by
  intro A X s Q E ok ow k
  refine wpAny_For (hi A X s _ E ok fun v s₁ e₁ hv => hv _ E fun I hp fp Pf St up hI hI2 hfp W hst hlive hitem hidle => ?_) hf
  have ok₁ := ok.ext e₁
  have hIX : ¬ X I := ok₁.f.x.fresh hI
  have hIo : ¬ own env I := ok.f.same_own hIX
  have hIa : ¬ owA a I := fun q => hIX (ow.addr I q).1
  let X' : Addr → Prop := fun b => X b ∨ b = I
  have ok₂ : Ok w n env ρ A X' { s₁ with heap := hp } := ok₁.addI up hI hI2
  have ow₁ : OwOk a ps env X s₁ := ow.ext e₁.toO ok.f.ownX
  have ow₂ : OwOk a ps env X' { s₁ with heap := hp } := by
    cases a with
    | none => trivial
    | some a =>
      obtain ⟨h1, h2, vs, kk, h3, h4⟩ := ow₁
      refine ⟨.inl h1, h2, vs, kk, up _ _ h3, h4.mono fun b o nx e => ⟨up b o e, fun q => q.elim nx fun q => by rw [q, Heap.get_size _ _ hI] at e; cases e⟩⟩
  refine codeAny_forLoop_any (fun j s' => ∃ i ρi pi, j = items.length + 1 - i ∧ i ≤ items.length ∧ ForTo w n env a x body (items.drop i) ρi pi ρ' ps' ∧ Same { s₁ with heap := hp } s' ∧ (∀ b o, ¬ own env b → ¬ owA a b → b ≠ I → hp.get? b = some o → s'.heap.get? b = some o) ∧
    Ok w n env ρi A X' s' ∧ OwOk a pi env X' s' ∧ St i s'.heap) ?_ (items.length + 1) ⟨0, ρ, ps, rfl, Nat.zero_le _, by simpa using h, ⟨hp, s₁.toks, rfl⟩, fun _ _ _ _ _ e => e, ok₂, ow₂, hst⟩
  rintro j s' ⟨i, ρi, pi, rfl, hi', hto, sm, kp, ok', ow', st'⟩
  by_cases hlt : i < items.length
  · refine W.item i s' _ _ hlt st' fun v h' tk hPv hst' hk => ?_
    have hk' : ∀ b o, b ≠ I → s'.heap.get? b = some o → h'.get? b = some o := fun b o hb e => hk b o (by simpa using hb) e
    obtain ⟨oI, hoI⟩ := hlive _ _ hst'
    have hIL : I ≠ env.locals := fun q => hIo (.inl q)
    have hIc : ∀ n c, env.cells.lookup n = some c → c ≠ I := fun n c e q => hIo (.inr ⟨n, q ▸ e⟩)
    have ok₃ : Ok w n env ρi A X' { s' with heap := h', toks := tk } := ok'.change (X₀ := X') (Y := fun b => b = I) (fun _ h => h) ok'.f.lx (fun n c e => (ok'.f.cellx n c e).1) (fun b q => by subst q; exact ⟨.inr rfl, hIL, hIc⟩) (fun b _ q => ⟨oI, q ▸ hoI⟩) fun b o q e => hk' b o q e
    have ow₃ : OwOk a pi env X' { s' with heap := h', toks := tk } := by
      cases a with
      | none => trivial
      | some a =>
        obtain ⟨h1, h2, vs, kk, h3, h4⟩ := ow'
        exact ⟨h1, h2, vs, kk, hk' _ _ (fun q => hIa (q ▸ rfl)) h3, h4.mono fun b o nx e => ⟨hk' b o (fun q => nx (.inr q)) e, nx⟩⟩
    have hpi : items[i]? = some items[i] := List.getElem?_eq_some_iff.mpr ⟨hlt, rfl⟩
    have hr : Rep h' X' v items[i] := (hitem i v hPv _ hpi).mono fun b o nx e => ⟨hk' b o (fun q => nx (.inr q)) (kp b o (fun q => nx (.inl (ok.f.ownX b q))) (fun q => nx (.inl (ow.addr b q).1)) (fun q => nx (.inr q)) e), nx⟩
    have hd : items.drop i = items[i] :: items.drop (i + 1) := List.drop_eq_getElem_cons hlt
    rw [hd] at hto
    cases hto with
    | @cons _ _ _ ρ₁ _ _ ps₁ _ hb r =>
    refine wpAny_of_eq (show letOwnedTupleGo (.Name x px) (.ref I) v = pure () from rfl) ?_
    refine wpAny_assign_Name (store_any ok₃ hr hx fun s₄ e₄ ok₄ => ?_)
    refine hb A X' s₄ _ _ ok₄ (ow₃.ext e₄ ok₃.f.ownX) fun s₅ e₅ ok₅ ow₅ => ?_
    refine ⟨items.length + 1 - (i + 1), by omega, i + 1, _, _, rfl, hlt, r, ((sm.trans ⟨h', tk, rfl⟩).trans e₄.same).trans e₅.same, fun b o h1 h2 h3 e => e₅.keep b o h1 h2 (e₄.keep b o h1 (hk' b o h3 (kp b o h1 h2 h3 e))), ok₅, ow₅, ?_⟩
    refine W.frame _ _ _ hst' fun c hc o e => ?_
    have : ¬ own env c ∧ ¬ owA a c := by
      rcases (hfp c hc).1 with q | hn
      · rw [q]; exact ⟨hIo, hIa⟩
      · exact ⟨fun q => hn (ok.f.ownX c q), fun q => hn (ow.addr c q).1⟩
    exact e₅.keep c o this.1 this.2 (e₄.keep c o this.1 e)
  · have hin : i = items.length := by omega
    subst hin
    rw [List.drop_length] at hto
    cases hto
    refine W.done s' _ _ st' fun h' tk hk => ?_
    have hk' : ∀ b o, b ≠ I → s'.heap.get? b = some o → h'.get? b = some o := fun b o hb e => hk b o (by simpa using hb) e
    refine wpAny_execs_nil (k _ ⟨?_, fun b o h1 h2 e => ?_⟩ ?_ ?_)
    · exact Same.trans e₁.same (Same.trans ⟨hp, s₁.toks, rfl⟩ (Same.trans sm ⟨h', tk, rfl⟩))
    · have e' := e₁.keep _ _ e
      have hbI : b ≠ I := fun q => by rw [q, Heap.get_size _ _ hI] at e'; cases e'
      exact hk' b o hbI (kp b o h1 h2 hbI (up _ _ e'))
    · exact ok'.change (X₀ := X) (Y := fun b => b = I) (fun _ h => .inl h) ok.f.lx (fun n c e => (ok.f.cellx n c e).1) (fun b q => by subst q; exact ⟨.inr rfl, fun q => hIo (.inl q), fun n c e q => hIo (.inr ⟨n, q ▸ e⟩)⟩) (fun b hb q => absurd (q ▸ hb) hIX) fun b o q e => hk' b o q e
    · cases a with
      | none => trivial
      | some a =>
        obtain ⟨h1, h2, vs, kk, h3, h4⟩ := ow'
        exact ⟨(ow.addr a rfl).1, h2, vs, kk, hk' _ _ (fun q => hIa (q ▸ rfl)) h3, h4.mono fun b o nx e => ⟨hk' b o (fun q => nx (.inr q)) e, fun q => nx (.inl q)⟩⟩
end
end Mine
end

section
open PySem PySem.W PyProof.Rows
set_option autoImplicit false
set_option linter.all false
set_option maxRecDepth 100000
namespace Mine

theorem SemE.comp1 {w : World} {n : Nat} {env : Env} {ρ : Rho} (ρc : Rho) {elt : Expr} {scope : Scope} {pos px : Pos} {x : Str} {iter : Expr} {ps : List P} (f : P → P) {cl : List (Str × Addr)} (hi : SemI w n env ρ iter ps)
    (elt' : ∀ C, ∀ p ∈ ps, SemE w n (compEnvC scope cl C env) ((x, p) :: ρc) elt (f p)) (hz : ps.length ≤ 16777216)
    (hρ : ∀ x p, ρc.lookup x = some p → ρ.lookup x = some p ∧ env.kindOf x = some .cell ∧ (∀ C, (compEnvC scope cl C env).kindOf x = some .cell) ∧ cl.lookup x = env.cells.lookup x)
    (hcl : ∀ n c, cl.lookup n = some c → env.cells.lookup n = some c) (hap : cl.Pairwise fun x y => x.2 ≠ y.2)
    (hclos : closureFor scope env = pure cl := by rfl) (hx : ∀ C, (compEnvC scope cl C env).kindOf x = some .local := by intro _; rfl) (hx0 : ρc.lookup x = none := by rfl) (hf : ∀ x, foldedSetIterable iter env x = pure x := by intro _; rfl)
    (hcell : ∀ y ∈ scope.names, y.2 ≠ .cell := by decide) (hkind : scope.kind = .function := by rfl) (hnames : ∀ x ∈ scope.names, x.2 = .local → scope.names.lookup x.1 = some .local := by decide)
    (hev : eval (.ListComp elt [⟨.Name x px, iter, [], 0⟩] scope pos) env = comprehension (.ListComp elt [⟨.Name x px, iter, [], 0⟩] scope pos) scope env (firstIterPos [⟨.Name x px, iter, [], 0⟩] pos) (newList []) false (eval iter env) := by rfl) :
    SemE w n env ρ (.ListComp elt [⟨.Name x px, iter, [], 0⟩] scope pos) (.list (ps.map f)) := by
  have e : ps.map f = ps.flatMap fun p => [f p] := List.map_eq_flatMap
  rw [e]
  refine SemE.comp (ρc := ρc) (cl := cl) (g := fun p => [f p]) hi hf hclos hcell hkind hnames hcl hap hρ (fun C p hp => ?_) (by rw [← e, List.length_map]; exact hz) hev
  exact SemItem.name (hx C) hx0 (SemRest.leaf rfl (elt' C p hp))

theorem no_rho {ρ : Rho} {env : Env} {scope : Scope} {cl : List (Str × Addr)} : ∀ x p, List.lookup x ([] : Rho) = some p → ρ.lookup x = some p ∧ env.kindOf x = some .cell ∧ (∀ C, (compEnvC scope cl C env).kindOf x = some .cell) ∧ cl.lookup x = env.cells.lookup x :=
  fun x p e => by cases e
theorem one_rho {ρ : Rho} {env : Env} {scope : Scope} {cl : List (Str × Addr)} {y : Str} {q : P} (h1 : ρ.lookup y = some q) (h2 : env.kindOf y = some .cell) (h3 : ∀ C, (compEnvC scope cl C env).kindOf y = some .cell) (h4 : cl.lookup y = env.cells.lookup y) :
    ∀ x p, List.lookup x ([(y, q)] : Rho) = some p → ρ.lookup x = some p ∧ env.kindOf x = some .cell ∧ (∀ C, (compEnvC scope cl C env).kindOf x = some .cell) ∧ cl.lookup x = env.cells.lookup x := by
  intro x p e
  rw [List.lookup_cons] at e
  cases hx : x == y with
  | true => rw [hx] at e; cases e; rw [beq_iff_eq.mp hx]; exact ⟨h1, h2, h3, h4⟩
  | false => rw [hx] at e; cases e

theorem g_len (w : World) : nsIn (KK w) mainGlobals (Str.ofString "len") = some none := by kernel_rfl!
theorem g_min (w : World) : nsIn (KK w) mainGlobals (Str.ofString "min") = some none := by kernel_rfl!
theorem g_range (w : World) : nsIn (KK w) mainGlobals (Str.ofString "range") = some none := by kernel_rfl!

noncomputable def least (x : List Nat) (k : Nat) : List Nat := minL ((List.range (x.length - k)).map fun i => x.drop (k + i))
noncomputable def dropP (x : List Nat) : P → P
  | .int i => .str (x.drop i.toNat)
  | _ => .none

theorem c_least (w : World) (x : List Nat) (k : Nat) (hk : k < x.length) (hz : x.length ≤ 1000) : SemC w 5 (.ref 233) [.str x, .int k] (.str (least x k)) := by
  refine SemC.fn (n := 4) (ns := [Str.ofString "word", Str.ofString "first"]) rfl (by kernel_rfl!) rfl ?_ rfl (by decide) ?_ ?_
  · exact len2 fun _ _ => rfl
  · exact mem2 (fun _ => .inr ⟨rfl, rfl⟩) (fun _ => .inl rfl)
  · intro L
    refine SemB.consR (SemS.ret ?_)
    have hm : SemC w 4 (.builtin "min") [.list (((List.range ((x.length : Int) - k).toNat).map fun (i : Nat) => P.int ((k : Int) + (i : Int))).map (dropP x))] (.str (least x k)) := by
      have e : (((List.range ((x.length : Int) - k).toNat).map fun (i : Nat) => P.int ((k : Int) + (i : Int))).map (dropP x)) = ((List.range (x.length - k)).map fun i => x.drop (k + i)).map P.str := by
        have e1 : ((x.length : Int) - k).toNat = x.length - k := by omega
        rw [e1, List.map_map, List.map_map]
        apply List.map_congr_left
        intro i _
        show P.str (x.drop ((k : Int) + i).toNat) = _
        have : ((k : Int) + i).toNat = k + i := by omega
        rw [this]; rfl
      rw [e]
      obtain ⟨m, hm⟩ : ∃ m, x.length - k = m + 1 := ⟨x.length - k - 1, by omega⟩
      have e2 : (List.range (x.length - k)).map (fun i => x.drop (k + i)) = x.drop k :: (List.range m).map (fun i => x.drop (k + (i + 1))) := by
        rw [hm, List.range_succ_eq_map, List.map_cons, List.map_map]; rfl
      unfold least
      rw [e2]
      exact SemC.minS
    refine SemE.call (NameV.bi (g_min w) rfl) callable_bi (SemA.cons ?_ SemA.nil) hm (Nat.le_refl _)
    refine SemE.comp1 [(Str.ofString "word", .str x)] (dropP x) (SemI.range2 (SemA.cons (SemE.var rfl) (SemA.cons (SemE.call (NameV.bi (g_len w) rfl) callable_bi (SemA.cons (SemE.var rfl) SemA.nil) (SemC.lenS (n := 4) (by omega)) (Nat.le_refl _)) SemA.nil)) (by omega) (by omega) (NameV.bi (g_range w) rfl)) ?_ (by simp; omega) (one_rho rfl rfl (fun _ => rfl) rfl) ?_ ?_
    · intro C p hp
      obtain ⟨i, hi, rfl⟩ := List.mem_map.mp hp
      refine SemE.slFrom (SemE.var rfl) (SemE.var rfl) (by omega) (by omega)
    · intro n c e
      exact e
    · exact List.pairwise_singleton _ _
end Mine
end

section
open PySem PySem.W PyProof.Rows
set_option autoImplicit false
set_option linter.all false
set_option maxRecDepth 100000
namespace Mine

noncomputable def TypeP (T : String) (p : P) : Prop := ∀ (X : Addr → Prop) (s : Shared) (v : Value), Rep s.heap X v p → s.TypeIs v T ∧ ∀ a, v = .ref a → ∃ ob, s.heap.get? a = some ob ∧ ob.dict = none
theorem TypeP.str {x : List Nat} : TypeP "str" (.str x) := fun X s v r => by cases r; exact ⟨typeIs_str _ _ _, fun a e => by cases e⟩
theorem TypeP.int {x : Int} : TypeP "int" (.int x) := fun X s v r => by cases r; exact ⟨typeIs_int _ _ _, fun a e => by cases e⟩
theorem TypeP.list {x : List P} : TypeP "list" (.list x) := fun X s v r => by
  cases r with
  | @list a vs k _ ho hx r => exact ⟨Heap.IsList.typeIs ⟨_, ho, rfl, k, rfl⟩, fun b e => by cases e; exact ⟨_, ho, rfl⟩⟩

section
variable {w : World} {n : Nat} {env : Env} {ρ : Rho}


theorem SemE.meth0 {m : Nat} {o : Expr} {name : Str} {apos pos : Pos} {T id : String} {p q : P} (ho : SemE w n env ρ o p) (pa : PlainAttrs T) (slot : Slot T name id) (ty : typeOf (.builtin id) = pure (.type "method_descriptor")) (hT : TypeP T p)
    (hc : SemC w m (.builtin id) [p] q) (hm : m ≤ n) (hbase : attributeBase o name env (eval o env) = eval o env := by rfl) (hline : (apos.endLine == pos.line) = true := by rfl) : SemE w n env ρ (.Call (.Attribute o name apos) [] [] pos) q := by
  intro A X s Q E ok k
  refine Call_method0 hbase hline (ho A X s _ E ok fun ov s₁ e₁ r => ?_)
  have ht := hT X s₁ ov r
  refine ⟨T, id, pa, slot, ty, ht.1, ht.2, ?_⟩
  refine Calls.callWith_builtin rfl (PyProof.Rows.evalArgs_none ?_)
  exact hc A X s₁ [ov] Q E (ok.room.le hm) (ok.ext e₁).g (ok.f.x.keeps e₁.keep) (.cons r .nil) fun v s' e r => k v s' (e₁.trans e) r

theorem SemE.meth {m : Nat} {o : Expr} {name : Str} {apos pos : Pos} {e : Expr} {rest : List Expr} {T id : String} {p q : P} {ps : List P} (ho : SemE w n env ρ o p) (ha : SemA w n env ρ (e :: rest) ps) (pa : PlainAttrs T) (slot : Slot T name id)
    (ty : typeOf (.builtin id) = pure (.type "method_descriptor")) (hT : TypeP T p) (hc : SemC w m (.builtin id) (p :: ps) q) (hm : m ≤ n) (hbase : attributeBase o name env (eval o env) = eval o env := by rfl)
    (hfew : ((backTo pos (starEach (e :: rest) env)).all (fun x => !x.1) && (backToKw pos (keywordEach [] env)).all (fun x => x.1.isSome) && decide ((e :: rest).length + ([] : List Keyword).length + (if ([] : List Keyword).isEmpty then 0 else 1) < 30)) = true := by rfl)
    (hline : (apos.endLine == pos.line) = true := by rfl) (he : starEach (e :: rest) env = (false, eval e env) :: starEach rest env := by rfl) (hp : (backTo pos (starEach rest env)).any (·.1) = false := by rfl) :
    SemE w n env ρ (.Call (.Attribute o name apos) (e :: rest) [] pos) q := by
  intro A X s Q E ok k
  refine wpAny_Call_method_lateS hbase hfew hline (ho A X s _ E ok fun ov s₁ e₁ r => ?_)
  have ht := hT X s₁ ov r
  refine ⟨T, id, pa, slot, ty, ht.1, ht.2, ?_⟩
  have hsp := ha pos A X s₁ (fun vs s' => wpAny (model pr w) A (PySem.call (.builtin id) (ov :: vs)) Q E s') E (ok.ext e₁) fun vs s₂ e₂ rs =>
    hc A X s₂ (ov :: vs) Q E (ok.room.le hm) ((ok.ext e₁).ext e₂).g (ok.f.x.keeps (e₁.trans e₂).keep) (.cons (r.ext e₂) rs) fun v s' e r => k v s' ((e₁.trans e₂).trans e) r
  rw [he] at hsp ⊢
  exact Calls.callWith_builtin (by show (false || (backTo pos (starEach rest env)).any (·.1)) = false; rw [hp]; rfl) (Calls.evalArgs_plain hsp)

/-- a, b = e -/
theorem SemS.assign2 {x y : Str} {px py tp pos : Pos} {k0 : _} {e : Expr} {p q : P} (h : SemE w n env ρ e (.tup [p, q])) (hx : Storable env x) (hy : Storable env y)
    (hs : swapsWithSole [.Tuple [.Name x px, .Name y py] k0 tp] e pos.line env = pure false := by rfl) (hw : swappedStores [.Tuple [.Name x px, .Name y py] k0 tp] e env = pure none := by rfl) :
    SemS w n env ρ (.Assign [.Tuple [.Name x px, .Name y py] k0 tp] e pos) (.next ((y, q) :: (x, p) :: ρ)) := by
  intro A X s Q E ok k
  refine PyProof.Rows.Assign_Tuple (h A X s _ E ok fun v s₁ e₁ r => ?_) hs hw
  cases r with
  | @tup a vs ne _ ho hx' r =>
  cases r with
  | @cons v1 _ _ _ r1 r =>
  cases r with
  | @cons v2 _ _ _ r2 r =>
  cases r
  refine PyProof.Rows.assign_Tuple_tuple (items := [v1, v2].toArray) ok.room.hd ⟨_, ho, rfl, ne, rfl⟩ rfl rfl fun h' he => ?_
  have e₂ : Ext s₁ { s₁ with heap := h' } := .ofH fun b o eb => he b o (Nat.ne_of_lt (Heap.lt_size eb)) eb
  have ok₂ := (ok.ext e₁).ext e₂
  refine PyProof.Rows.assignInOrder_cons (PyProof.Rows.assign_Name (store_any ok₂ (r1.ext e₂) hx fun s₃ e₃ ok₃ => ?_))
  refine PyProof.Rows.assignInOrder_cons (PyProof.Rows.assign_Name (store_any (p := q) ok₃ ?_ hy fun s₄ e₄ ok₄ => ?_))
  · exact (r2.ext e₂).mono fun b o nx eb => ⟨e₃.keep b o (fun q => nx (ok₂.f.ownX b q)) eb, nx⟩
  · exact PyProof.Rows.assignInOrder_nil (k s₄ (((e₁.trans e₂).toO.trans e₃).trans e₄) ok₄)

/-- a list that no one else holds -/
noncomputable def SemFresh (w : World) (n : Nat) (env : Env) (ρ : Rho) (e : Expr) (ps : List P) : Prop :=
  ∀ (A : Around) (X : Addr → Prop) (s : Shared) (Q : Value → Shared → Prop) (E : Value → Shared → Prop), Ok w n env ρ A X s →
    (∀ a s' vs k, Ext s s' → ¬ X a → s.heap.get? a = none → 283 ≤ a → s'.heap.get? a = some (lstO vs k) → Reps s'.heap (fun b => X b ∨ b = a) vs ps → Q (.ref a) s') → wpAny (model pr w) A (eval e env) Q E s
theorem SemFresh.nil {pos : Pos} : SemFresh w n env ρ (.List [] pos) [] := by
  intro A X s Q E ok k
  rw [arm_eval_List]
  refine wpAny_bind (wpAny_standAt (wpAny_bind (PyProof.Rows.args_nil (wpAny_newList ?_ (Nat.zero_le _)))))
  exact k _ _ [] 0 (.push s _) (ok.f.x.fresh (Nat.le_refl _)) (Heap.get_size _ _ (Nat.le_refl _)) ok.g.high (Heap.get?_push_size _ rfl) .nil

theorem SemB.startOwn {z : Str} {pz pos : Pos} {e : Expr} {ps : List P} {rest : List Stmt} {q : P} (he : SemFresh w n env ρ e ps) (hz : Storable env z)
    (h : ∀ a, SemK w n env (some a) ((z, .val (.ref a)) :: ρ) ps rest (.ret q)) (hs : swapsWith e (some (.Name z pz)) pos.line env = pure false := by rfl) : SemB w n env ρ (.Assign [.Name z pz] e pos :: rest) (.ret q) := by
  intro A X s Q E ok k
  refine wpAny_execs_cons (wpAny_Assign_Name (he A X s _ E ok fun a s₁ vs kk e₁ hXa hna lo hl rv => ?_) hs)
  have ok₁ : Ok w n env ρ A (fun b => X b ∨ b = a) s₁ := ok.addI' e₁.keep hXa hna lo ⟨_, hl⟩
  have hoa : ¬ own env a := ok.f.same_own hXa
  refine store_any ok₁ (.val (.ref a)) hz fun s₂ e₂ ok₂ => ?_
  refine h a A _ s₂ Q E ok₂ ⟨.inr rfl, hoa, vs, kk, e₂.keep _ _ hoa hl, rv.mono fun b o nx eb => ⟨e₂.keep b o (fun q => nx (.inl (ok.f.ownX b q))) eb, nx⟩⟩ fun v s' e' r => ?_
  refine k v s' ⟨Same.trans e₁.same (Same.trans e₂.same e'.same), fun b o nb eb => ?_⟩ (r.mono fun b o nx eb => ⟨eb, fun q => nx ⟨.inl q, fun z => hXa (by cases z; exact q)⟩⟩)
  have eb' := e₁.keep _ _ eb
  refine e'.keep b o nb (fun z => ?_) (e₂.keep b o nb eb')
  cases z
  rw [hna] at eb; cases eb

section
variable {a : Addr} {ps : List P}
theorem Ok.atVal {A : Around} {X : Addr → Prop} {s : Shared} {z : Str} {v : Value} (ok : Ok w n env ρ A X s) (hz : ρ.lookup z = some (.val v)) {pos : Pos} {Q E : Value → Shared → Prop} (h : Q v s) (hd : (z == ("__debug__" : Str)) = false := by decide) :
    wpAny (model pr w) A (eval (.Name z pos) env) Q E s := by
  cases ok.vars z _ hz with
  | loc hk hn hv r => cases r; exact wpAny_Name (wpAny_loadName_local ok.f.kind hk hn hv h) hd
  | cell hk hc hv r => cases r; exact wpAny_Name (wpAny_loadName_cell ok.f.kind hk hc hv h) hd

/-- after the owned list has changed -/
theorem Ok.ownSet {A : Around} {X : Addr → Prop} {s s' : Shared} (ok : Ok w n env ρ A X s) (ha : X a) (hno : ¬ own env a) {ws : List Value} {k : Nat} (hl : s'.heap.get? a = some (lstO ws k)) (kp : ∀ b o, b ≠ a → s.heap.get? b = some o → s'.heap.get? b = some o) : Ok w n env ρ A X s' :=
  ok.change (X₀ := X) (Y := fun b => b = a) (fun _ h => h) ok.f.lx (fun n c e => (ok.f.cellx n c e).1) (fun b q => by subst q; exact ⟨ha, fun q => hno (.inl q), fun n c e q => hno (.inr ⟨n, q ▸ e⟩)⟩) (fun b _ q => ⟨_, q ▸ hl⟩) fun b o q e => kp b o q e

theorem SemKS.insert0 {z : Str} {pz apos pos spos cpos : Pos} {kc : Nat} {e : Expr} {p : P} (hz : ρ.lookup z = some (.val (.ref a))) (he : SemE w n env ρ e p) (hlen : ps.length ≤ 16777216)
    (hbase : attributeBase (.Name z pz) (Str.ofString "insert") env (eval (.Name z pz) env) = eval (.Name z pz) env := by rfl) (hline : (apos.endLine == cpos.line) = true := by rfl) (hi : interactive env = false := by rfl)
    (hst : starEach [.Constant (.int 0) kc pos, e] env = [(false, eval (.Constant (.int 0) kc pos) env), (false, eval e env)] := by rfl) (hd : (z == ("__debug__" : Str)) = false := by decide) :
    SemKS w n env (some a) ρ ps (.Expr (.Call (.Attribute (.Name z pz) (Str.ofString "insert") apos) [.Constant (.int 0) kc pos, e] [] cpos) spos) (.next ρ (p :: ps)) := by
  intro A X s Q E ok ow k
  refine wpAny_Expr ?_ hi rfl
  refine Call_method2 hbase hst hline (ok.atVal hz ?_ hd)
  obtain ⟨xa, na, vs, kk, hl, rv⟩ := ow
  refine ⟨"list", "list.insert", PySem.F.plainAttrs_list, PySem.F.slot_list_insert, PySem.F.type_list_insert, Heap.IsList.typeIs ⟨_, hl, rfl, kk, rfl⟩, fun b e => by cases e; exact ⟨_, hl, rfl⟩, ?_⟩
  refine Calls.callWith_builtin rfl (Calls.evalArgs_plain (Calls.spliced_cons (wpAny_Constant_int (Calls.spliced_cons (he A X _ _ E (ok.ext (.tok s _)) fun v s₁ e₁ r => Calls.spliced_nil ?_)))))
  have hl₁ : s₁.heap.get? a = some (lstO vs kk) := e₁.keep _ _ hl
  have rv₁ : Reps s₁.heap X vs ps := Reps.ext (s := { s with toks := s.toks + 1 }) rv e₁
  refine call_meets PySem.F.slot_list_insert ⟨_, hl₁, rfl⟩ PySem.F.entry_list_insert (PySem.F.args_list_insert_3 _ _ _) (PySem.AutoSeq1.list_insert_list_int_val_1 a vs.toArray kk 0 _ v (by decide) (by rw [sL, List.size_toArray, rv.length]; exact hlen)) ⟨hl₁, ?_⟩
  have hs := Heap.SameBut.update s₁.heap a (Obj.mapSeq fun xs => have k := if (0 : Int) < 0 then ((0 : Int) + (xs.size : Int)).toNat else min (0 : Int).toNat xs.size; (xs.extract 0 k).push v ++ xs.extract k)
  have hnew : (s₁.heap.update a (Obj.mapSeq fun xs => have k := if (0 : Int) < 0 then ((0 : Int) + (xs.size : Int)).toNat else min (0 : Int).toNat xs.size; (xs.extract 0 k).push v ++ xs.extract k)).get? a = some (lstO (v :: vs) (kk + 1)) := by
    rw [Heap.get?_update_self _ hl₁ rfl]
    simp only [lstO, Obj.mapSeq]
    simp
  have kp : ∀ b o, b ≠ a → s₁.heap.get? b = some o → (s₁.heap.update a (Obj.mapSeq fun xs => have k := if (0 : Int) < 0 then ((0 : Int) + (xs.size : Int)).toNat else min (0 : Int).toNat xs.size; (xs.extract 0 k).push v ++ xs.extract k)).get? b = some o := fun b o hb e => (hs.2 b hb).trans e
  refine k _ ⟨Same.trans (Same.trans ⟨s.heap, _, rfl⟩ e₁.same) ⟨_, s₁.toks, rfl⟩, fun b o h1 h2 e => kp b o (fun q => h2 (q ▸ rfl)) (e₁.keep _ _ e)⟩ (((ok.ext (.tok s _)).ext e₁).ownSet xa na hnew kp) ⟨xa, na, v :: vs, kk + 1, hnew, .cons ?_ ?_⟩
  · exact r.mono fun b o nx e => ⟨kp b o (fun q => nx (q ▸ xa)) e, nx⟩
  · exact rv₁.mono fun b o nx e => ⟨kp b o (fun q => nx (q ▸ xa)) e, nx⟩

theorem SemKS.retOwn {z : Str} {pz pos : Pos} (hz : ρ.lookup z = some (.val (.ref a))) (hd : (z == ("__debug__" : Str)) = false := by decide) : SemKS w n env (some a) ρ ps (.Return (some (.Name z pz)) pos) (.ret (.list ps)) := by
  intro A X s Q E ok ow k
  refine wpAny_Return_some (ok.atVal hz ?_ hd)
  obtain ⟨xa, na, vs, kk, hl, rv⟩ := ow
  exact k _ s (.refl _ _ _) (.list hl (fun q => q.2 rfl) (rv.mono fun b o nx e => ⟨e, fun q => nx q.1⟩))
end
end
end Mine
end

section
open PySem PySem.W PyProof.Rows
set_option autoImplicit false
set_option linter.all false
set_option maxRecDepth 100000
namespace Mine

theorem foldMin_mem (xs : List (List Nat)) (x : List Nat) : xs.foldl (fun b y => if ltL y b then y else b) x ∈ x :: xs := by
  induction xs generalizing x with
  | nil => simp
  | cons y ys ih =>
    rw [List.foldl_cons]
    have := ih (if ltL y x then y else x)
    rcases List.mem_cons.mp this with h | h
    · rw [h]; split <;> simp
    · exact .tail _ (.tail _ h)
theorem least_eq {x : List Nat} {k : Nat} (hk : k < x.length) : ∃ j, k ≤ j ∧ j < x.length ∧ least x k = x.drop j := by
  obtain ⟨m, hm⟩ : ∃ m, x.length - k = m + 1 := ⟨x.length - k - 1, by omega⟩
  have e2 : (List.range (x.length - k)).map (fun i => x.drop (k + i)) = x.drop k :: (List.range m).map (fun i => x.drop (k + (i + 1))) := by
    rw [hm, List.range_succ_eq_map, List.map_cons, List.map_map]; rfl
  have h : least x k ∈ (List.range (x.length - k)).map (fun i => x.drop (k + i)) := by
    unfold least
    rw [e2]
    exact foldMin_mem _ _
  obtain ⟨i, hi, e⟩ := List.mem_map.mp h
  have := List.mem_range.mp hi
  exact ⟨k + i, by omega, by omega, e.symm⟩

theorem SemT.conv {w : World} {n : Nat} {env : Env} {ρ : Rho} {e : Expr} {b c : Bool} (h : SemT w n env ρ e b) (hb : b = c) : SemT w n env ρ e c := hb ▸ h
theorem g_least (w : World) : nsIn (KK w) mainGlobals (Str.ofString "_law_least") = some (some (.ref 233)) := by kernel_rfl!
/-- the names that ρ' keeps are those of ρ -/
theorem sub_rho {ρ ρ' : Rho} (h : ρ'.all (fun y => true) = true := by rfl) (k : ∀ y ∈ ρ', ρ.lookup y.1 = some y.2 := by (try simp only [List.zip_cons_cons, List.zip_nil_left, List.zip_nil_right]); repeat (first | exact List.forall_mem_nil _ | refine List.forall_mem_cons.mpr ⟨rfl, ?_⟩)) : ∀ x p, ρ'.lookup x = some p → ρ.lookup x = some p :=
  fun x p e => by
    have : (x, p) ∈ ρ' := by
      clear k h
      induction ρ' with
      | nil => cases e
      | cons a r ih =>
        obtain ⟨y, q⟩ := a
        rw [List.lookup_cons] at e
        split at e
        · rename_i hh; cases e; rw [beq_iff_eq.mp hh]; exact .head _
        · exact .tail _ (ih e)
    exact k _ this

noncomputable def cutF : Nat → List Nat → List (List Nat) → List (List Nat)
  | 0, _, acc => acc
  | m + 1, x, acc => if x.isEmpty then acc else cutF m (x.take (x.length - (least x 0).length)) (least x 0 :: acc)

theorem c_cut (w : World) (x : List Nat) (hz : x.length ≤ 1000) : SemC w 6 (.ref 240) [.str x] (.list ((cutF (x.length + 1) x []).map .str)) := by
  refine SemC.fn (n := 5) (ns := [Str.ofString "word"]) rfl (by kernel_rfl!) rfl ?_ rfl (by decide) ?_ ?_
  · exact len1 fun _ => rfl
  · exact mem1 fun _ => .inl rfl
  · intro L
    refine SemB.startOwn SemFresh.nil (.inl rfl) fun a => ?_
    refine SemK.cons (ρ' := [(Str.ofString "parts", .val (.ref a)), (Str.ofString "word", .str [])]) (ps' := (cutF (x.length + 1) x []).map .str) (SemKS.while ?_) (SemK.consR (SemKS.retOwn rfl))
    have hm : x.length < x.length + 1 := Nat.lt_succ_self _
    have ha : ([] : List (List Nat)).length + (x.length + 1) ≤ 1002 := by simp; omega
    revert hm ha
    generalize x.length + 1 = m
    change _ → _ → WhileTo _ _ _ _ _ _ _ (([] : List (List Nat)).map P.str) _ ((cutF m x ([] : List (List Nat))).map P.str)
    generalize ([] : List (List Nat)) = acc
    intro hm ha
    induction m generalizing x acc with
    | zero => omega
    | succ m ih =>
      by_cases hx : x = []
      · subst hx
        refine WhileTo.done (SemT.conv (SemT.cmp (SemE.var rfl) SemE.strc (CmpR.neS _ _)) rfl)
      · have hc : cutF (m + 1) x acc = cutF m (x.take (x.length - (least x 0).length)) (least x 0 :: acc) := by
          rw [cutF, if_neg (by simpa using hx)]
        rw [hc]
        have h1 : 0 < x.length := List.length_pos_iff.mpr hx
        obtain ⟨j, hj0, hj, hl⟩ := least_eq h1
        have hlen : (least x 0).length = x.length - j := by rw [hl, List.length_drop]
        refine WhileTo.step (SemT.conv (SemT.cmp (SemE.var rfl) SemE.strc (CmpR.neS _ _)) (by show (x != ([] : List Nat)) = true; simpa using hx)) ?_ (ih _ (by simp; omega) _ (by simp; omega) (by simp; omega))
        refine SemK.post (ρ₁ := [(Str.ofString "word", .str (x.take (x.length - (least x 0).length))), (Str.ofString "ending", .str (least x 0)), (Str.ofString "parts", .val (.ref a)), (Str.ofString "word", .str x)]) ?_ ?_
        · refine SemK.cons (SemKS.ofS (SemS.assign (SemE.call (NameV.glob (g_least w)) (callable_fn (by kernel_rfl!)) (SemA.cons (SemE.var rfl) (SemA.cons SemE.int SemA.nil)) (c_least w x 0 h1 hz) (Nat.le_refl _)) (.inl rfl))) ?_
          refine SemK.cons (SemKS.insert0 rfl (SemE.var rfl) (by simp; omega)) ?_
          refine SemK.cons (SemKS.ofS (SemS.assign (SemE.conv (SemE.slTo (SemE.var rfl) (SemE.subI (SemE.call (NameV.bi (g_len w) rfl) callable_bi (SemA.cons (SemE.var rfl) SemA.nil) (SemC.lenS (n := 4) (by omega)) (by omega)) (SemE.call (NameV.bi (g_len w) rfl) callable_bi (SemA.cons (SemE.var rfl) SemA.nil) (SemC.lenS (n := 4) (by omega)) (by omega))) (by omega) (by omega)) ?_) (.inl rfl))) SemK.nil
          have : ((x.length : Int) - ((least x 0).length : Int)).toNat = x.length - (least x 0).length := by omega
          rw [this]
        · exact sub_rho
end Mine
end

section
open PySem PySem.W PyProof.Rows
set_option autoImplicit false
set_option linter.all false
set_option maxRecDepth 100000
namespace Mine
section
variable {w : World} {n : Nat} {env : Env} {ρ ρc : Rho} {elt : Expr} {gs : List Comprehension} {scope : Scope} {pos : Pos} {ifs : List Expr}

theorem Env.hp {env : Env} (h : env.scope.kind = .function) : (env.scope.kind == .class || (env.scope.kind == .module && env.locals != env.globals)) = false := by rw [h]; rfl

/-- a list comprehension that is given a name at once -/
theorem SemS.assignComp {y : Str} {py spos : Pos} {target iter : Expr} {ps : List P} {g : P → List P} {cl : List (Str × Addr)} (hi : SemI w n env ρ iter ps) (hf : ∀ x, foldedSetIterable iter env x = pure x)
    (hclos : closureFor scope env = pure cl) (hcell : ∀ y ∈ scope.names, y.2 ≠ .cell) (hkind : scope.kind = .function) (hnames : ∀ x ∈ scope.names, x.2 = .local → scope.names.lookup x.1 = some .local)
    (hcl : ∀ n c, cl.lookup n = some c → env.cells.lookup n = some c) (hap : cl.Pairwise fun x y => x.2 ≠ y.2)
    (hρ : ∀ x p, ρc.lookup x = some p → ρ.lookup x = some p ∧ env.kindOf x = some .cell ∧ (∀ C, (compEnvC scope cl C env).kindOf x = some .cell) ∧ cl.lookup x = env.cells.lookup x)
    (item : ∀ C, ∀ p ∈ ps, SemItem w n (compEnvC scope cl C env) ρc 0 elt (⟨target, iter, ifs, 0⟩ :: gs) scope pos 0 target ifs p (g p)) (hz : (ps.flatMap g).length ≤ 16777216)
    (hy : Storable env y)
    (hsw : swapsWith (.ListComp elt (⟨target, iter, ifs, 0⟩ :: gs) scope pos) (some (.Name y py)) spos.line env = pure true)
    (hev : evalThenUse (.ListComp elt (⟨target, iter, ifs, 0⟩ :: gs) scope pos) env (PySem.assign (.Name y py) env) = (do let _ ← comprehension (.ListComp elt (⟨target, iter, ifs, 0⟩ :: gs) scope pos) scope env (firstIterPos (⟨target, iter, ifs, 0⟩ :: gs) pos) (newList []) false (eval iter env) (some (PySem.assign (.Name y py) env))) := by rfl) :
    SemS w n env ρ (.Assign [.Name y py] (.ListComp elt (⟨target, iter, ifs, 0⟩ :: gs) scope pos) spos) (.next ((y, .list (ps.flatMap g)) :: ρ)) := by
  intro A X s Q E ok k
  rw [exec_Assign_Name_used _ _ _ _ hsw]
  refine wpAny_bind (wpAny_standAt (wpAny_bind ?_))
  rw [hev]
  refine wpAny_bind (wpAny_mono (wpAny_comprehension_free (use := some (PySem.assign (.Name y py) env)) (Q := fun _ s' => Q .next s') rfl hf hclos hkind hnames
    (comp_core ok _ (hi.core rfl item A X s E ok (Nat.zero_le _)) hcell hkind hnames hcl hap hρ hz fun D C s' d => ?_)) (fun _ s' hq => wpAny_pure (wpAny_pure hq)) fun _ _ e => e)
  obtain ⟨vs, k', hl', rv⟩ := d.acc
  obtain ⟨m', hn'⟩ := d.ns
  have ok₁ : Ok w n env ρ A (fun b => X b ∨ b = C) s' := ok.addI' d.ext.keep d.xc d.freshC d.lo (let ⟨o, _, _, ho, _⟩ := hn'; ⟨o, ho⟩)
  have hCo : ¬ own env C := ok.f.same_own d.xc
  show wpAny _ A (PySem.assign (.Name y py) env (.ref D)) _ _ _
  refine wpAny_assign_Name (store_any (p := .list (ps.flatMap g)) ok₁ (.list hl' (fun q => q.elim d.xd d.dc) rv) hy fun s₂ e₂ ok₂ => ?_)
  refine ⟨m', Heap.Ns.at'' hn' (fun o e => e₂.keep _ _ hCo e), fun h₃ hs₃ => k _ ⟨?_, fun b o hb e => ?_⟩ ?_⟩
  · exact Same.trans d.ext.same (Same.trans e₂.same ⟨h₃, s₂.toks, rfl⟩)
  · refine (hs₃.2 b fun q => ?_).trans (e₂.keep _ _ hb (d.ext.keep _ _ e))
    rw [q, d.freshC] at e; cases e
  · exact ok₂.change (X₀ := X) (Y := fun b => b = C) (fun _ h => .inl h) ok.f.lx (fun n c e => (ok.f.cellx n c e).1) (fun b q => by subst q; exact ⟨.inr rfl, fun q => hCo (.inl q), fun n c e q => hCo (.inr ⟨n, q ▸ e⟩)⟩) (fun b hb q => absurd (q ▸ hb) d.xc) fun b o q e => (hs₃.2 b q).trans e
end
end Mine
end

section
open PySem PySem.W PyProof.Rows
set_option autoImplicit false
set_option linter.all false
set_option maxRecDepth 100000
namespace Mine

noncomputable def rowF : Nat → List Nat → List Nat
  | 0, _ => []
  | m + 1, x => if x.length = 1 then x else 256 :: (rowF m (x.take (x.length - (least x 1).length)) ++ rowF m (least x 1))

theorem rowF_len : ∀ (m : Nat) (x : List Nat), 0 < x.length → x.length ≤ m → (rowF m x).length + 1 = 2 * x.length
  | 0, x, h0, h => by omega
  | m + 1, x, h0, h => by
    rw [rowF]
    split
    · omega
    · rename_i h1
      obtain ⟨j, hj1, hj, hl⟩ := least_eq (x := x) (k := 1) (by omega)
      have hlen : (least x 1).length = x.length - j := by rw [hl, List.length_drop]
      have a := rowF_len m (x.take (x.length - (least x 1).length)) (by simp; omega) (by simp; omega)
      have b := rowF_len m (least x 1) (by omega) (by omega)
      simp only [List.length_cons, List.length_append, List.length_take] at a ⊢
      omega

noncomputable abbrev pI (c : Nat) : P := .int c
theorem g_row (w : World) : nsIn (KK w) mainGlobals (Str.ofString "_law_row") = some (some (.ref 247)) := by kernel_rfl!
theorem g_ord (w : World) : nsIn (KK w) mainGlobals (Str.ofString "ord") = some none := by kernel_rfl!

theorem SemE.callg {w : World} {n : Nat} {env : Env} {ρ : Rho} {m : Nat} {x : Str} {np pos : Pos} {e : Expr} {rest : List Expr} {f : Addr} {ps : List P} {q : P} (hg : nsIn (KK w) mainGlobals x = some (some (.ref f))) (hf : keepIn (KK w) (.ref f) = true) (ha : SemA w n env ρ (e :: rest) ps) (h : SemC w m (.ref f) ps q) (hm : m ≤ n)
    (he : starEach (e :: rest) env = (false, eval e env) :: starEach rest env := by rfl) (hp : (backTo pos (starEach rest env)).any (·.1) = false := by rfl) (hx : env.kindOf x = some .globalImplicit := by rfl) (hd : (x == ("__debug__" : Str)) = false := by decide)
    (hev : eval (.Call (.Name x np) (e :: rest) [] pos) env = (do callWith pos (← eval (.Name x np) env) [] (backTo pos (starEach (e :: rest) env)) (backToKw pos (keywordEach [] env))) := by rfl) : SemE w n env ρ (.Call (.Name x np) (e :: rest) [] pos) q :=
  SemE.call (NameV.glob hg hx hd) (callable_fn hf) ha h hm he hp hev
theorem SemE.callb {w : World} {n : Nat} {env : Env} {ρ : Rho} {m : Nat} {x : Str} {np pos : Pos} {e : Expr} {rest : List Expr} {id : String} {ps : List P} {q : P} (hg : nsIn (KK w) mainGlobals x = some none) (ha : SemA w n env ρ (e :: rest) ps) (h : SemC w m (.builtin id) ps q) (hm : m ≤ n := by omega)
    (hv : bootBuiltins x = some (.builtin id) := by rfl) (he : starEach (e :: rest) env = (false, eval e env) :: starEach rest env := by rfl) (hp : (backTo pos (starEach rest env)).any (·.1) = false := by rfl) (hn : x ≠ "__name__" := by decide) (hx : env.kindOf x = some .globalImplicit := by rfl) (hd : (x == ("__debug__" : Str)) = false := by decide)
    (hev : eval (.Call (.Name x np) (e :: rest) [] pos) env = (do callWith pos (← eval (.Name x np) env) [] (backTo pos (starEach (e :: rest) env)) (backToKw pos (keywordEach [] env))) := by rfl) : SemE w n env ρ (.Call (.Name x np) (e :: rest) [] pos) q :=
  SemE.call (NameV.bi hg hv hn hx hd) callable_bi ha h hm he hp hev
theorem k_least (w : World) : keepIn (KK w) (.ref 233) = true := by kernel_rfl!
theorem k_cut (w : World) : keepIn (KK w) (.ref 240) = true := by kernel_rfl!
theorem k_row (w : World) : keepIn (KK w) (.ref 247) = true := by kernel_rfl!
/-- len(e) -/
theorem SemE.lenS {w : World} {n : Nat} {env : Env} {ρ : Rho} {np pos : Pos} {e : Expr} {x : List Nat} (h : SemE w n env ρ e (.str x)) (hz : x.length ≤ 16777216)
    (he : starEach [e] env = [(false, eval e env)] := by rfl) (hx : env.kindOf (Str.ofString "len") = some .globalImplicit := by rfl)
    (hev : eval (.Call (.Name (Str.ofString "len") np) [e] [] pos) env = (do callWith pos (← eval (.Name (Str.ofString "len") np) env) [] (backTo pos (starEach [e] env)) (backToKw pos (keywordEach [] env))) := by rfl) : SemE w n env ρ (.Call (.Name (Str.ofString "len") np) [e] [] pos) (.int x.length) :=
  SemE.call (NameV.bi (g_len w) rfl (hx := hx)) callable_bi (SemA.cons h SemA.nil he) (SemC.lenS (n := n) hz) (Nat.le_refl _) he rfl hev

theorem SemB.ifret {w : World} {n : Nat} {env : Env} {ρ : Rho} {t : Expr} {b : Bool} {body rest : List Stmt} {pos : Pos} {q : P} (ht : SemT w n env ρ t b) (h1 : b = true → SemB w n env ρ body (.ret q)) (h2 : b = false → SemB w n env ρ rest (.ret q)) : SemB w n env ρ (.If t body [] pos :: rest) (.ret q) := by
  cases b with
  | true => exact SemB.consR (SemS.ite ht h1 (fun h => by cases h))
  | false => exact SemB.cons (SemS.ite ht (fun h => by cases h) (fun _ => SemB.nil)) (h2 rfl)

theorem c_row (w : World) : ∀ (m : Nat) (x : List Nat), 0 < x.length → x.length ≤ m → x.length ≤ 1000 → SemC w (6 + m) (.ref 247) [.str x] (.list ((rowF m x).map pI)) := by
  intro m
  induction m with
  | zero => intro x h0 h; omega
  | succ m ih =>
  intro x h0 h hz
  have hlen := rowF_len (m + 1) x h0 h
  refine SemC.fn (n := 6 + m) (ns := [Str.ofString "part"]) rfl (by kernel_rfl!) rfl ?_ rfl (by decide) ?_ ?_
  · exact len1 fun _ => rfl
  · exact mem1 fun _ => .inl rfl
  · intro L
    refine SemB.ifret (SemT.conv (SemT.cmp (SemE.lenS (SemE.var rfl) (by omega)) SemE.int (CmpR.eqI _ _)) (show _ = decide (x.length = 1) by rw [Bool.eq_iff_iff]; simp; omega)) (fun h1 => ?_) (fun h1 => ?_)
    · have h1 := of_decide_eq_true h1
      match x, h1 with
      | [c], _ =>
        rw [show rowF (m + 1) [c] = [c] by simp [rowF]]
        exact SemB.consR (SemS.ret (SemE.listD (SemA.cons (SemE.callb (g_ord w) (SemA.cons (SemE.var rfl) SemA.nil) (SemC.ord (n := 0))) SemA.nil) (by simp)))
    · have h1 := of_decide_eq_false h1
      obtain ⟨j, hj1, hj, hl⟩ := least_eq (x := x) (k := 1) (by omega)
      have hll : (least x 1).length = x.length - j := by rw [hl, List.length_drop]
      rw [rowF, if_neg h1] at hlen ⊢
      refine SemB.cons (SemS.assign (SemE.callg (g_least w) (k_least w) (SemA.cons (SemE.var rfl) (SemA.cons SemE.int SemA.nil)) (c_least w x 1 (by omega) hz) (by omega)) (.inl rfl)) ?_
      refine SemB.consR (SemS.ret ?_)
      have r1 := ih (x.take (x.length - (least x 1).length)) (by simp; omega) (by simp; omega) (by simp; omega)
      have r2 := ih (least x 1) (by omega) (by omega) (by omega)
      have l1 := rowF_len m (x.take (x.length - (least x 1).length)) (by simp; omega) (by simp; omega)
      have l2 := rowF_len m (least x 1) (by omega) (by omega)
      rw [List.length_take] at l1
      refine SemE.conv (SemE.addL (SemE.addL (SemE.listD (SemA.cons SemE.int SemA.nil) (by simp)) (SemE.callg (g_row w) (k_row w) (SemA.cons ?_ SemA.nil) r1 (Nat.le_refl _)) (by simp; omega)) (SemE.callg (g_row w) (k_row w) (SemA.cons (SemE.var rfl) SemA.nil) r2 (Nat.le_refl _)) (by simp; omega)) ?_
      · refine SemE.conv (SemE.slTo (SemE.var rfl) (SemE.subI (SemE.lenS (SemE.var rfl) (by omega)) (SemE.lenS (SemE.var rfl) (by omega))) (by omega) (by omega)) ?_
        have : ((x.length : Int) - ((least x 1).length : Int)).toNat = x.length - (least x 1).length := by omega
        rw [this]
      · simp [pI]
end Mine
end

section
open PySem PySem.W PyProof.Rows
set_option autoImplicit false
set_option linter.all false
set_option maxRecDepth 100000
namespace Mine

theorem g_NT (w : World) : nsIn (KK w) mainGlobals (Str.ofString "ISNONTERMINAL") = some (some (.ref 59)) := by kernel_rfl!
theorem g_EOF (w : World) : nsIn (KK w) mainGlobals (Str.ofString "ISEOF") = some (some (.ref 66)) := by kernel_rfl!
theorem k_NT (w : World) : keepIn (KK w) (.ref 59) = true := by kernel_rfl!
theorem k_EOF (w : World) : keepIn (KK w) (.ref 66) = true := by kernel_rfl!
theorem g_off (w : World) : nsIn (KK w) mainGlobals (Str.ofString "NT_OFFSET") = some (some (.int 256 (match nsIn (KK w) mainGlobals (Str.ofString "NT_OFFSET") with | some (some (.int _ t)) => t | _ => 0))) := by kernel_rfl!
theorem g_end (w : World) : nsIn (KK w) mainGlobals (Str.ofString "ENDMARKER") = some (some (.int 0 (match nsIn (KK w) mainGlobals (Str.ofString "ENDMARKER") with | some (some (.int _ t)) => t | _ => 0))) := by kernel_rfl!

theorem c_NT (w : World) (i : Int) : SemC w 2 (.ref 59) [.int i] (.bool (decide (256 ≤ i))) := by
  refine SemC.fn (n := 1) (ns := [Str.ofString "x"]) rfl (by kernel_rfl!) rfl ?_ rfl (by decide) ?_ ?_
  · exact len1 fun _ => rfl
  · exact mem1 fun _ => .inl rfl
  · intro L
    exact SemB.consR (SemS.ret (SemE.cmp (SemE.var rfl) (SemE.globInt (g_off w)) (CmpR.geI _ _)))
theorem c_EOF (w : World) (i : Int) : SemC w 2 (.ref 66) [.int i] (.bool (i == 0)) := by
  refine SemC.fn (n := 1) (ns := [Str.ofString "x"]) rfl (by kernel_rfl!) rfl ?_ rfl (by decide) ?_ ?_
  · exact len1 fun _ => rfl
  · exact mem1 fun _ => .inl rfl
  · intro L
    exact SemB.consR (SemS.ret (SemE.cmp (SemE.var rfl) (SemE.globInt (g_end w)) (CmpR.eqI _ _)))

noncomputable def weaveF : Nat → List Nat → List Nat → List (List Nat)
  | 0, _, _ => []
  | m + 1, x, y => match x, y with
    | [], y => [y]
    | x, [] => [x]
    | a :: xs, b :: ys => (weaveF m xs (b :: ys)).map (a :: ·) ++ (weaveF m (a :: xs) ys).map (b :: ·)
theorem weaveF_len : ∀ (m : Nat) (x y : List Nat), ∀ z ∈ weaveF m x y, z.length = x.length + y.length
  | 0, _, _, z, h => by simp [weaveF] at h
  | m + 1, [], y, z, h => by simp [weaveF] at h; simp [h]
  | m + 1, a :: xs, [], z, h => by simp [weaveF] at h; simp [h]
  | m + 1, a :: xs, b :: ys, z, h => by
    simp only [weaveF, List.mem_append, List.mem_map] at h
    rcases h with ⟨z, hz, rfl⟩ | ⟨z, hz, rfl⟩
    · have := weaveF_len m _ _ z hz; simp at this ⊢; omega
    · have := weaveF_len m _ _ z hz; simp at this ⊢; omega
theorem weaveF_size : ∀ (m : Nat) (x y : List Nat), (weaveF m x y).length ≤ 2 ^ m
  | 0, _, _ => by simp [weaveF]
  | m + 1, [], y => by simp only [weaveF, List.length_singleton]; exact Nat.one_le_two_pow
  | m + 1, a :: xs, [] => by simp only [weaveF, List.length_singleton]; exact Nat.one_le_two_pow
  | m + 1, a :: xs, b :: ys => by
    have := weaveF_size m xs (b :: ys)
    have := weaveF_size m (a :: xs) ys
    simp only [weaveF, List.length_append, List.length_map, Nat.pow_succ]
    omega
noncomputable abbrev pS (x : List Nat) : P := .str x
noncomputable def consP (a : Nat) : P → P
  | .str z => .str (a :: z)
  | _ => .none
theorem g_weave (w : World) : nsIn (KK w) mainGlobals (Str.ofString "_law_weave") = some (some (.ref 262)) := by kernel_rfl!
theorem k_weave (w : World) : keepIn (KK w) (.ref 262) = true := by kernel_rfl!
theorem find_sub {n : Str} {c : Addr} {y : Str} {d : Addr} {l : List (Str × Addr)} (h : l.lookup y = some d) (e : List.lookup n [(y, d)] = some c) : l.lookup n = some c := by
  rw [List.lookup_cons] at e
  cases hx : n == y with
  | true => rw [hx] at e; cases e; rw [beq_iff_eq.mp hx]; exact h
  | false => rw [hx] at e; cases e

theorem c_weave (w : World) : ∀ (m : Nat) (x y : List Nat), x.length + y.length < m → m ≤ 20 → SemC w (6 + m) (.ref 262) [.str x, .str y] (.list ((weaveF m x y).map pS)) := by
  intro m
  induction m with
  | zero => intro x y h; omega
  | succ m ih =>
  intro x y h hm
  refine SemC.fn (n := 6 + m) (ns := [Str.ofString "x", Str.ofString "y"]) rfl (by kernel_rfl!) rfl ?_ rfl (by decide) ?_ ?_
  · exact len2 fun _ _ => rfl
  · exact mem2 (fun _ => .inr ⟨rfl, rfl⟩) (fun _ => .inr ⟨rfl, rfl⟩)
  · intro L
    refine SemB.ifret (SemT.or (SemT.cmp (SemE.var rfl) SemE.strc (CmpR.eqS _ _)) fun _ => SemT.or (SemT.cmp (SemE.var rfl) SemE.strc (CmpR.eqS _ _)) fun _ => SemT.orNil) (fun h1 => ?_) (fun h1 => ?_)
    · have e : weaveF (m + 1) x y = [x ++ y] := by
        have h1 : ((x == ([] : List Nat)) || ((y == ([] : List Nat)) || false)) = true := h1
        cases x with
        | nil => simp [weaveF]
        | cons a xs =>
          cases y with
          | nil => simp [weaveF]
          | cons b ys => simp at h1
      rw [e]
      exact SemB.consR (SemS.ret (SemE.listD (SemA.cons (SemE.addS (SemE.var rfl) (SemE.var rfl) (by omega)) SemA.nil) (by simp)))
    · have h1 : ((x == ([] : List Nat)) || ((y == ([] : List Nat)) || false)) = false := h1
      cases x with
      | nil => simp at h1
      | cons a xs =>
      cases y with
      | nil => simp at h1
      | cons b ys =>
      simp only [List.length_cons] at h
      have p20 : 2 ^ m ≤ 2 ^ 19 := Nat.pow_le_pow_right (by decide) (by omega)
      have s1 := weaveF_size m xs (b :: ys)
      have s2 := weaveF_size m (a :: xs) ys
      have l1 := weaveF_len m xs (b :: ys)
      have l2 := weaveF_len m (a :: xs) ys
      refine SemB.consR (SemS.ret (SemE.conv (SemE.addL (SemE.comp1 (cl := [(Str.ofString "x", L + 1)]) [(Str.ofString "x", .str (a :: xs))] (consP a) (SemI.list (SemE.callg (g_weave w) (k_weave w) (SemA.cons (SemE.slFrom (SemE.var rfl) SemE.int (by decide) (by simp; omega)) (SemA.cons (SemE.var rfl) SemA.nil)) (ih xs (b :: ys) (by simp; omega) (by omega)) (Nat.le_refl _))) ?_ ?_ (one_rho rfl rfl (fun _ => rfl) rfl) (fun n c e => find_sub rfl e) (List.pairwise_singleton _ _))
        (SemE.comp1 (cl := [(Str.ofString "y", L + 2)]) [(Str.ofString "y", .str (b :: ys))] (consP b) (SemI.list (SemE.callg (g_weave w) (k_weave w) (SemA.cons (SemE.var rfl) (SemA.cons (SemE.slFrom (SemE.var rfl) SemE.int (by decide) (by simp; omega)) SemA.nil)) (ih (a :: xs) ys (by simp; omega) (by omega)) (Nat.le_refl _))) ?_ ?_ (one_rho rfl rfl (fun _ => rfl) rfl) (fun n c e => find_sub rfl e) (List.pairwise_singleton _ _)) ?_) ?_))
      · intro C p hp
        obtain ⟨z, hz, rfl⟩ := List.mem_map.mp hp
        have := l1 z hz
        exact SemE.addS (SemE.idxS (SemE.var rfl) SemE.int (k := 0) (by simp [seqIndex?]) rfl (by simp; omega) (by decide)) (SemE.var rfl) (by simp at this ⊢; omega)
      · simp; omega
      · intro C p hp
        obtain ⟨z, hz, rfl⟩ := List.mem_map.mp hp
        have := l2 z hz
        exact SemE.addS (SemE.idxS (SemE.var rfl) SemE.int (k := 0) (by simp [seqIndex?]) rfl (by simp; omega) (by decide)) (SemE.var rfl) (by simp at this ⊢; omega)
      · simp; omega
      · simp; omega
      · rw [weaveF, List.map_append, List.map_map, List.map_map, List.map_map, List.map_map]
        rfl
end Mine
end

section
open PySem PySem.W PyProof.Rows PySem.Builtin PySem.Builtin.Str
set_option autoImplicit false
set_option linter.all false
set_option maxRecDepth 100000
namespace Mine
section
variable {w : World} {n : Nat}

noncomputable def sw1 (c : Nat) : Nat := if 65 ≤ c ∧ c ≤ 90 then c + 32 else if 97 ≤ c ∧ c ≤ 122 then c - 32 else c
theorem swap_one : ∀ c, c < 128 → Txt.swapcase (S [c]) = S [sw1 c] := by decide +kernel
theorem SemC.swap {c : Nat} (hc : c < 128) : SemC w n (.builtin "str.swapcase") [.str [c]] (.str [sw1 c]) := by
  intro A X s vs Q E room g xo r k
  cases r with
  | cons a r =>
  cases r; cases a
  have e := swap_one c hc
  refine call_gives F.slot_str_swapcase (typeIs_str _ _ _) F.entry_str_swapcase (F.args_str_swapcase_1 _) (gives_str_swapcase (S [c]) _ ?_) ?_
  · show tooLong (Txt.swapcase (S [c])).length = false; rw [e]; rfl
  · show (Txt.swapcase (S [c])).length ≤ _ ∧ Q (.str (Txt.swapcase (S [c])) _) _
    rw [e]
    exact ⟨by rw [sL]; simp [Str.length], k _ _ (.tok s _) (.str _ _)⟩

noncomputable def loF (x : List Nat) : List Nat := x.map lo1
theorem SemC.lower {x : List Nat} (hx : ∀ c ∈ x, c < 128) (hz : x.length ≤ 1000) : SemC w n (.builtin "str.lower") [.str x] (.str (loF x)) := by
  intro A X s vs Q E room g xo r k
  cases r with
  | cons a r =>
  cases r; cases a
  have e : Txt.lower (S x) = S (loF x) := by rw [lower_ascii (x := S x) (by simpa using hx)]; simp [S, loF]
  have hl : (S (loF x)).length = x.length := by simp [Str.length, S, loF]
  refine call_gives F.slot_str_lower (typeIs_str _ _ _) F.entry_str_lower (F.args_str_lower_1 _) (gives_str_lower (S x) _ ?_) ?_
  · show tooLong (Txt.lower (S x)).length = false
    rw [e, hl]; unfold tooLong sizeLine; exact decide_eq_false (by omega)
  · show (Txt.lower (S x)).length ≤ _ ∧ Q (.str (Txt.lower (S x)) _) _
    rw [e]
    exact ⟨by rw [sL, hl]; omega, k _ _ (.tok s _) (.str _ _)⟩

theorem reps_nil {h : Heap} {X : Addr → Prop} {vs : List Value} (r : Reps h X vs []) : vs = [] := by cases r; rfl
theorem reps_cons_str {h : Heap} {X : Addr → Prop} {vs : List Value} {x : List Nat} {ps : List P} (r : Reps h X vs (pS x :: ps)) : ∃ t us, vs = .str (S x) t :: us ∧ Reps h X us ps := by
  cases r with
  | cons a r => cases a with
    | str _ t => exact ⟨t, _, rfl, r⟩
theorem Reps.strs {h : Heap} {X : Addr → Prop} {vs : List Value} {xs : List (List Nat)} (r : Reps h X vs (xs.map pS)) : ∃ l : List (Str × Tok), vs = PySem.strValues l ∧ l.map (·.1) = xs.map S := by
  induction xs generalizing vs with
  | nil => rw [reps_nil r]; exact ⟨[], rfl, rfl⟩
  | cons x xs ih =>
    obtain ⟨t, us, rfl, r'⟩ := reps_cons_str r
    obtain ⟨l, rfl, e⟩ := ih r'
    exact ⟨(S x, t) :: l, rfl, by simp [e]⟩

noncomputable def isS (k : List Nat) : Value → Bool
  | .str i _ => i == S k
  | _ => false
theorem countP_strs {h : Heap} {X : Addr → Prop} (k : List Nat) {vs : List Value} {xs : List (List Nat)} (r : Reps h X vs (xs.map pS)) : vs.countP (isS k) = xs.count k := by
  induction xs generalizing vs with
  | nil => rw [reps_nil r]; rfl
  | cons x xs ih =>
    obtain ⟨t, us, rfl, r'⟩ := reps_cons_str r
    rw [List.countP_cons, List.count_cons, ih r']
    show _ + (if (S x == S k) = true then 1 else 0) = _
    rw [S_beq]
theorem eqG_strs {h : Heap} {X : Addr → Prop} (k : List Nat) (t : Tok) {vs : List Value} {xs : List (List Nat)} (r : Reps h X vs (xs.map pS)) : ∀ y, y ∈ vs → MeetsSeq.EqGives y (.str (S k) t) (isS k y) := by
  induction xs generalizing vs with
  | nil => rw [reps_nil r]; intro y hy; cases hy
  | cons x xs ih =>
    obtain ⟨u, us, rfl, r'⟩ := reps_cons_str r
    intro y hy
    rcases List.mem_cons.mp hy with rfl | hy
    · exact eqGives_str (S x) (S k) u t
    · exact ih r' y hy

theorem SemC.count {xs : List (List Nat)} {k : List Nat} : SemC w n (.builtin "list.count") [.list (xs.map pS), .str k] (.int (xs.count k)) := by
  intro A X s vs Q E room g xo r kk
  cases r with
  | cons a r =>
  cases r with
  | cons b r =>
  cases r; cases b
  cases a with
  | @list a vs m _ ho hx rv =>
  refine call_meets PySem.F.slot_list_count ⟨_, ho, rfl⟩ PySem.F.entry_list_count (PySem.F.args_list_count_2 _ _) (MeetsSeq.list_count a vs.toArray m _ (isS k) (by simpa using eqG_strs k _ rv)) ⟨ho, ?_⟩
  have e : (vs.toArray.toList.countP (isS k)) = xs.count k := by simpa using countP_strs k rv
  rw [e]
  exact kk _ _ (.tok s _) (.int _ _)

theorem SemC.join {sep : List Nat} {xs : List (List Nat)} {r : List Nat} (hj : Txt.join (S sep) (xs.map S) = S r) (hok : JoinOk (S sep) (xs.map S) = true) : SemC w n (.builtin "str.join") [.str sep, .list (xs.map pS)] (.str r) := by
  intro A X s vs Q E room g xo rr k
  cases rr with
  | cons a rr =>
  cases rr with
  | cons b rr =>
  cases rr; cases a
  cases b with
  | @list a vs m _ ho hx rv =>
  obtain ⟨l, rfl, e⟩ := rv.strs
  refine SC.join (l := l) (texts := xs.map S) ⟨_, ho, rfl, m, rfl⟩ e hok fun t' tk => ?_
  rw [hj]
  exact k _ _ (.tok s tk) (.str _ _)

theorem SemC.bits {a : Int} : SemC w n (.builtin "int.bit_length") [.int a] (.int (Builtin.Int.intBits a : Nat)) := by
  intro A X s vs Q E room g xo r k
  cases r with
  | cons a r =>
  cases r; cases a
  exact call_gives F.slot_int_bit_length (typeIs_int _ _ _) F.entry_int_bit_length (F.args_int_bit_length_1 _) (AutoIntG2.int_bit_length_int_0 _ _) (k _ _ (.tok s _) (.int _ _))

theorem SemC.divmod {a b : Int} (hb : b ≠ 0) (hp : Builtin.divisionGoesByPylong a b = false) : SemC w n (.builtin "divmod") [.int a, .int b] (.tup [.int (a.fdiv b), .int (a.fmod b)]) := by
  intro A X s vs Q E room g xo r k
  cases r with
  | cons r1 r =>
  cases r with
  | cons r2 r =>
  cases r; cases r1; cases r2
  refine divmod_int hb (k _ _ (Ext.of fun c o e => Heap.get?_push_of_some _ e) (.tup (vs := [_, _]) (Heap.get?_push_size _ rfl) (xo.fresh (Nat.le_refl _)) (.cons (.int _ _) (.cons (.int _ _) .nil)))) (.inl hp)
end
end Mine
end

section
open PySem PySem.W PyProof.Rows
set_option autoImplicit false
set_option linter.all false
set_option maxRecDepth 100000
namespace Mine

noncomputable def P.s : P → List Nat
  | .str x => x
  | _ => []
theorem two_flat (f0 : List Nat → List Nat → List Nat) (xs ys : List (List Nat)) : (xs.map pS).flatMap (fun p => (ys.map pS).flatMap fun q => [pS (f0 p.s q.s)]) = (xs.flatMap fun x => ys.map (f0 x)).map pS := by
  rw [List.flatMap_map, List.map_flatMap]
  congr 1
  funext x
  rw [List.flatMap_map, List.map_map]
  show ys.flatMap (fun a => [pS (f0 x a)]) = _
  rw [List.map_eq_flatMap]
  rfl

/-- z = [elt for x in e1 for y in e2], over texts -/
theorem SemS.assignComp2 {w : World} {n : Nat} {env : Env} {ρ : Rho} (ρc : Rho) {elt e1 e2 : Expr} {scope : Scope} {pos px py pz spos : Pos} {x y z : Str} (f0 : List Nat → List Nat → List Nat) {xs ys : List (List Nat)} {cl : List (Str × Addr)} (hclos : closureFor scope env = pure cl)
    (hi : SemI w n env ρ e1 (xs.map pS)) (hi2 : ∀ C, ∀ a ∈ xs, SemI w n (compEnvC scope cl C env) ((x, .str a) :: ρc) e2 (ys.map pS))
    (helt : ∀ C, ∀ a ∈ xs, ∀ b ∈ ys, SemE w n (compEnvC scope cl C env) ((y, .str b) :: (x, .str a) :: ρc) elt (.str (f0 a b)))
    (hρ : ∀ x p, ρc.lookup x = some p → ρ.lookup x = some p ∧ env.kindOf x = some .cell ∧ (∀ C, (compEnvC scope cl C env).kindOf x = some .cell) ∧ cl.lookup x = env.cells.lookup x)
    (hcl : ∀ n c, cl.lookup n = some c → env.cells.lookup n = some c) (hap : cl.Pairwise fun x y => x.2 ≠ y.2) (hz : xs.length * ys.length ≤ 16777216) (hst : Storable env z)
    (hx : ∀ C, (compEnvC scope cl C env).kindOf x = some .local := by intro _; rfl) (hx0 : ρc.lookup x = none := by rfl) (hy : ∀ C, (compEnvC scope cl C env).kindOf y = some .local := by intro _; rfl) (hy0 : ρc.lookup y = none := by rfl) (hxy : (y == x) = false := by decide)
    (hf : ∀ v, foldedSetIterable e1 env v = pure v := by intro _; rfl) (hf2 : ∀ C v, foldedSetIterable e2 (compEnvC scope cl C env) v = pure v := by intro _ _; rfl)
    (hcell : ∀ y ∈ scope.names, y.2 ≠ .cell := by decide) (hkind : scope.kind = .function := by rfl) (hnames : ∀ x ∈ scope.names, x.2 = .local → scope.names.lookup x.1 = some .local := by decide)
    (hsw : swapsWith (.ListComp elt [⟨.Name x px, e1, [], 0⟩, ⟨.Name y py, e2, [], 0⟩] scope pos) (some (.Name z pz)) spos.line env = pure true := by rfl)
    (hev : evalThenUse (.ListComp elt [⟨.Name x px, e1, [], 0⟩, ⟨.Name y py, e2, [], 0⟩] scope pos) env (PySem.assign (.Name z pz) env) = (do let _ ← comprehension (.ListComp elt [⟨.Name x px, e1, [], 0⟩, ⟨.Name y py, e2, [], 0⟩] scope pos) scope env (firstIterPos [⟨.Name x px, e1, [], 0⟩, ⟨.Name y py, e2, [], 0⟩] pos) (newList []) false (eval e1 env) (some (PySem.assign (.Name z pz) env))) := by rfl) :
    SemS w n env ρ (.Assign [.Name z pz] (.ListComp elt [⟨.Name x px, e1, [], 0⟩, ⟨.Name y py, e2, [], 0⟩] scope pos) spos) (.next ((z, .list ((xs.flatMap fun x => ys.map (f0 x)).map pS)) :: ρ)) := by
  have hl : ((xs.flatMap fun x => ys.map (f0 x)).map pS).length = xs.length * ys.length := by
    simp [List.length_flatMap, List.map_const', List.sum_replicate_nat]
  rw [← two_flat] at hl ⊢
  refine SemS.assignComp (ρc := ρc) (cl := cl) hi hf hclos hcell hkind hnames hcl hap hρ (fun C p hp => ?_) (by rw [hl]; exact hz) hst hsw hev
  obtain ⟨a, ha, rfl⟩ := List.mem_map.mp hp
  refine SemItem.name (hx C) hx0 (SemRest.nest rfl (hi2 C a ha) (hf2 C) (fun q hq => ?_))
  obtain ⟨b, hb, rfl⟩ := List.mem_map.mp hq
  exact SemItem.name (hy C) (by rw [List.lookup_cons, hxy]; exact hy0) (SemRest.leaf rfl (helt C a ha b hb))

noncomputable def turnF : List Nat → List Nat
  | [] => []
  | a :: r => sw1 a :: r
noncomputable def okT (y : List Nat) : Bool := decide (0 < y.length) && decide (y.length ≤ 100) && y.all fun c => decide (c < 128)
noncomputable def readF : Nat → List Nat → Nat → Option (List (List Nat) × Nat)
  | 0, _, _ => none
  | m + 1, row, i => match row[i]? with
    | none => none
    | some c => if c < 256 then (if c < 128 then some ([[c]], i + 1) else none) else
      match readF m row (i + 1) with
      | none => none
      | some (left, mid) => match readF m row mid with
        | none => none
        | some (right, behind) => if left.length ≤ 100 ∧ right.length ≤ 100 ∧ left.all okT = true ∧ right.all okT = true then some ((left.flatMap fun x => right.map fun y => x ++ y) ++ (left.flatMap fun x => right.map fun y => turnF y ++ x), behind) else none
theorem g_readings (w : World) : nsIn (KK w) mainGlobals (Str.ofString "_law_readings") = some (some (.ref 252)) := by kernel_rfl!
theorem k_readings (w : World) : keepIn (KK w) (.ref 252) = true := by kernel_rfl!
theorem g_chr (w : World) : nsIn (KK w) mainGlobals (Str.ofString "chr") = some none := by kernel_rfl!

theorem c_readings (w : World) : ∀ (m : Nat) (row : List Nat) (i : Nat) (r : List (List Nat)) (b : Nat), readF m row i = some (r, b) → row.length ≤ 1000 → SemC w (6 + m) (.ref 252) [.list (row.map pI), .int i] (.tup [.list (r.map pS), .int b]) := by
  intro m
  induction m with
  | zero => intro row i r b h; cases h
  | succ m ih =>
  intro row i r b h hz
  refine SemC.fn (n := 6 + m) (ns := [Str.ofString "row", Str.ofString "at"]) rfl (by kernel_rfl!) rfl ?_ rfl (by decide) ?_ ?_
  · exact len2 fun _ _ => rfl
  · exact mem2 (fun _ => .inl rfl) (fun _ => .inl rfl)
  · intro L
    rw [readF] at h
    cases hc : row[i]? with
    | none => rw [hc] at h; cases h
    | some c =>
    rw [hc] at h
    dsimp only at h
    have hi : i < row.length := (List.getElem?_eq_some_iff.mp hc).1
    have hc' : (row.map pI)[i]? = some (pI c) := by rw [List.getElem?_map, hc]; rfl
    refine SemB.ifret (SemT.not (SemT.ofBool (SemE.callg (g_NT w) (k_NT w) (SemA.cons (SemE.idxL (SemE.var rfl) (SemE.var rfl) rfl hc' (by omega)) SemA.nil) (c_NT w c) (by omega)))) (fun h1 => ?_) (fun h1 => ?_)
    · have h1 : c < 256 := by
        rw [Bool.not_eq_true'] at h1
        have := of_decide_eq_false h1
        omega
      rw [if_pos h1] at h
      split at h
      · rename_i h2
        cases h
        exact SemB.consR (SemS.ret (SemE.conv (SemE.tupD (SemA.cons (SemE.listD (SemA.cons (SemE.callb (g_chr w) (SemA.cons (SemE.idxL (SemE.var rfl) (SemE.var rfl) rfl hc' (by omega)) SemA.nil) (SemC.chr (n := 0) (by omega))) SemA.nil) (by simp)) (SemA.cons (SemE.addI (SemE.var rfl) SemE.int) SemA.nil)) (by simp)) (by simp)))
      · cases h
    · have h1 : ¬ c < 256 := by
        have h1 : decide (256 ≤ (c : Int)) = true := by simpa only [Bool.not_eq_false'] using h1
        have := of_decide_eq_true h1
        omega
      rw [if_neg h1] at h
      cases e1 : readF m row (i + 1) with
      | none => rw [e1] at h; cases h
      | some lm =>
      obtain ⟨left, mid⟩ := lm
      rw [e1] at h
      dsimp only at h
      cases e2 : readF m row mid with
      | none => rw [e2] at h; cases h
      | some rb =>
      obtain ⟨right, behind⟩ := rb
      rw [e2] at h
      dsimp only at h
      split at h
      · rename_i hg
        cases h
        obtain ⟨g1, g2, g3, g4⟩ := hg
        have hL : ∀ y ∈ left, 0 < y.length ∧ y.length ≤ 100 ∧ ∀ c ∈ y, c < 128 := fun y hy => by
          have := List.all_eq_true.mp g3 y hy
          simpa [okT, and_assoc] using this
        have hR : ∀ y ∈ right, 0 < y.length ∧ y.length ≤ 100 ∧ ∀ c ∈ y, c < 128 := fun y hy => by
          have := List.all_eq_true.mp g4 y hy
          simpa [okT, and_assoc] using this
        have hsz : left.length * right.length ≤ 10000 := Nat.mul_le_mul g1 g2
        refine SemB.cons (SemS.assign2 (SemE.callg (g_readings w) (k_readings w) (SemA.cons (SemE.var rfl) (SemA.cons (SemE.addI (SemE.var rfl) SemE.int) SemA.nil)) (ih row (i + 1) left mid e1 hz) (Nat.le_refl _)) (.inl rfl) (.inl rfl)) ?_
        refine SemB.cons (SemS.assign2 (SemE.callg (g_readings w) (k_readings w) (SemA.cons (SemE.var rfl) (SemA.cons (SemE.var rfl) SemA.nil)) (ih row mid right b e2 hz) (Nat.le_refl _)) (.inr ⟨rfl, rfl⟩) (.inl rfl)) ?_
        refine SemB.cons (SemS.assignComp2 [(Str.ofString "right", .list (right.map pS))] (cl := [(Str.ofString "right", L + 1)]) (fun x y => x ++ y) rfl (SemI.list (SemE.var rfl)) (fun C a ha => SemI.list (SemE.var rfl)) (fun C a ha b hb => ?_) (one_rho rfl rfl (fun _ => rfl) rfl) (fun n c e => find_sub rfl e) (List.pairwise_singleton _ _) (by omega) (.inl rfl)) ?_
        · have := (hL a ha).2.1
          have := (hR b hb).2.1
          exact SemE.addS (SemE.var rfl) (SemE.var rfl) (by omega)
        refine SemB.cons (SemS.assignComp2 [(Str.ofString "right", .list (right.map pS))] (cl := [(Str.ofString "right", L + 1)]) (fun x y => turnF y ++ x) rfl (SemI.list (SemE.var rfl)) (fun C a ha => SemI.list (SemE.var rfl)) (fun C a ha b hb => ?_) (one_rho rfl rfl (fun _ => rfl) rfl) (fun n c e => find_sub rfl e) (List.pairwise_singleton _ _) (by omega) (.inl rfl)) ?_
        · have h1 := (hL a ha).2.1
          obtain ⟨h2, h3, h4⟩ := hR b hb
          match b, h2, h3, h4 with
          | c :: bs, h2, h3, h4 =>
          simp only [List.length_cons] at h3
          refine SemE.addS (SemE.conv (SemE.addS (SemE.meth0 (SemE.idxS (SemE.var rfl) SemE.int (k := 0) (by simp [seqIndex?]) rfl (by simp; omega) (by decide)) PySem.F.plainAttrs_str PySem.F.slot_str_swapcase PySem.F.type_str_swapcase TypeP.str (SemC.swap (n := 0) (h4 c (by simp))) (by omega)) (SemE.slFrom (SemE.var rfl) SemE.int (by decide) (by simp; omega)) (by simp; omega)) rfl) (SemE.var rfl) (by simp [turnF]; omega)
        refine SemB.consR (SemS.ret (SemE.conv (SemE.tupD (SemA.cons (SemE.addL (SemE.var rfl) (SemE.var rfl) ?_) (SemA.cons (SemE.var rfl) SemA.nil)) (by simp)) ?_))
        · simp only [List.length_map, List.length_flatMap, List.map_const', List.sum_replicate_nat]
          omega
        · rw [List.map_append]
      · cases h
end Mine
end

section
open PySem PySem.W PyProof.Rows
set_option autoImplicit false
set_option linter.all false
set_option maxRecDepth 100000
namespace Mine

theorem Reps.of_get {h : Heap} {X : Addr → Prop} : ∀ {vs : List Value} {ps : List P}, vs.length = ps.length → (∀ (i : Nat) v p, vs[i]? = some v → ps[i]? = some p → Rep h X v p) → Reps h X vs ps
  | [], [], _, _ => .nil
  | [], _ :: _, e, _ => by simp at e
  | _ :: _, [], e, _ => by simp at e
  | v :: vs, p :: ps, e, k => .cons (k 0 v p rfl rfl) (Reps.of_get (by simpa using e) fun i v p h1 h2 => k (i + 1) v p (by simpa using h1) (by simpa using h2))

noncomputable def mn (a b : Int) : Int := if b < a then b else a

section
variable {w : World} {n : Nat}
theorem SemC.min2 {a b : Int} : SemC w n (.builtin "min") [.int a, .int b] (.int (mn a b)) := by
  intro A X s vs Q E room g xo r k
  cases r with
  | cons r1 r =>
  cases r with
  | cons r2 r =>
  cases r; cases r1; cases r2
  have k : ∀ v s', Ext s s' → Rep s'.heap X v (.int (if _ < _ then _ else _)) → Q v s' := k
  refine min_two_ints room.hd fun h' tk hk => ?_
  split
  · rename_i hba; rw [if_pos hba] at k; exact k _ _ (.of hk) (.int _ _)
  · rename_i hba; rw [if_neg hba] at k; exact k _ _ (.of hk) (.int _ _)
end

section
variable {w : World} {n : Nat} {env : Env} {ρ : Rho}
theorem SemE.mulI {l r : Expr} {pos : Pos} {i j : Int} (hl : SemE w n env ρ l (.int i)) (hr : SemE w n env ρ r (.int j)) (hm : IntMulOk i j) : SemE w n env ρ (.BinOp l .Mult r pos) (.int (i * j)) :=
  bin hl hr fun A X s Q E a b _ _ ra rb k => by cases ra; cases rb; exact PyProof.Rows.mul_int (k _ _ (.tok s _) (.int _ _)) hm
theorem SemE.modI {l r : Expr} {pos : Pos} {i j : Int} (hl : SemE w n env ρ l (.int i)) (hr : SemE w n env ρ r (.int j)) (hj : j ≠ 0) : SemE w n env ρ (.BinOp l .Mod r pos) (.int (i.fmod j)) :=
  bin hl hr fun A X s Q E a b _ _ ra rb k => by cases ra; cases rb; exact PyProof.Rows.mod_int hj (k _ _ (.tok s _) (.int _ _))

/-- x = y = e -/
theorem SemS.assign12 {x y : Str} {px py pos : Pos} {e : Expr} {p : P} (h : SemE w n env ρ e p) (hx : Storable env x) (hy : Storable env y) (hw : swappedStores [.Name x px, .Name y py] e env = pure none := by rfl) :
    SemS w n env ρ (.Assign [.Name x px, .Name y py] e pos) (.next ((y, p) :: (x, p) :: ρ)) := by
  intro A X s Q E ok k
  refine wpAny_Assign_two (h A X s _ E ok fun v s₁ e₁ r => ?_) rfl hw
  refine wpAny_assign_Name (store_any (ok.ext e₁) r hx fun s₂ e₂ ok₂ => ?_)
  refine wpAny_assign_Name (store_any (p := p) ok₂ (r.mono fun b o nx eb => ⟨e₂.keep b o (fun q => nx (ok.f.ownX b q)) eb, nx⟩) hy fun s₃ e₃ ok₃ => ?_)
  exact k s₃ ((e₁.toO.trans e₂).trans e₃) ok₃

/-- e or None, as the end of a slice -/
theorem SemPt.orNone {e : Expr} {k0 : Nat} {pos np : Pos} {i : Int} (h : SemE w n env ρ e (.int i)) : SemPt w n env ρ (Option.some (Expr.BoolOp .Or [e, .Constant .none k0 np] pos)) (if i = 0 then Option.none else Option.some i) := by
  intro A X s Q E ok k
  refine evalPart_some_step (BoolOp_or (h A X s _ E ok fun v s₁ e₁ r => ?_))
  cases r with
  | int _ t =>
  refine PyProof.Rows.truthy_int ?_
  by_cases h0 : i = 0
  · subst h0
    simp only [if_true] at k ⊢
    rw [if_neg (by decide)]
    refine BoolOp_one (SemE.cnone (w := w) (n := n) (env := env) (ρ := ρ) A X s₁ _ E (ok.ext e₁) fun v s₂ e₂ r => ?_)
    cases r
    exact k _ _ (e₁.trans e₂) ⟨Option.none, rfl, rfl⟩
  · rw [if_neg h0] at k
    rw [if_pos (by simpa using h0)]
    exact k _ _ e₁ ⟨Option.some (i, t), rfl, rfl⟩

theorem setItem_exact {A : Around} {E : Value → Shared → Prop} {s : Shared} {l : Addr} {vs : List Value} {m k : Nat} {t : Tok} {v : Value} {Q : Unit → Shared → Prop} (hl : s.heap.get? l = some (lstO vs m)) (hfit : k < 2 ^ 62) (hn : k < vs.length)
    (hQ : ∀ h', h'.get? l = some (lstO (vs.set k v) m) → Heap.SameBut l s.heap h' → Q () { s with heap := h' }) : wpAny (model pr w) A (setItem (.ref l) (.int k t) v) Q E s := by
  refine ki_setAt (n := m) hl (by omega) (by omega) (by simpa using hn) (hQ _ ?_ (Heap.SameBut.update ..))
  rw [Heap.get?_update_self _ hl rfl]
  simp [lstO, Obj.mapSeq]

/-- list(range(a, b, c)) -/
theorem SemFresh.listRange {np np2 pos pos2 : Pos} {e₁ e₂ e₃ : Expr} {a b c : Int} {m : Nat} (h : SemA w n env ρ [e₁, e₂, e₃] [.int a, .int b, .int c]) (hc : c ≠ 0) (hp : Builtin.divisionGoesByPylong (b - a) c = false) (hsm : Builtin.Range.small a b c = true) (hn : Builtin.Range.rangeSize a b c = (m : Int)) (hm : m ≤ 2 ^ 24)
    (hr : NameV w n env ρ (Str.ofString "range") (.type "range")) (hl : NameV w n env ρ (Str.ofString "list") (.type "list"))
    (he : starEach [e₁, e₂, e₃] env = (false, eval e₁ env) :: starEach [e₂, e₃] env := by rfl) (hpl : (backTo pos (starEach [e₂, e₃] env)).any (·.1) = false := by rfl)
    (hev : eval (.Call (.Name (Str.ofString "range") np) [e₁, e₂, e₃] [] pos) env = (do callWith pos (← eval (.Name (Str.ofString "range") np) env) [] (backTo pos (starEach [e₁, e₂, e₃] env)) (backToKw pos (keywordEach [] env))) := by rfl)
    (he2 : starEach [.Call (.Name (Str.ofString "range") np) [e₁, e₂, e₃] [] pos] env = [(false, eval (.Call (.Name (Str.ofString "range") np) [e₁, e₂, e₃] [] pos) env)] := by rfl)
    (hev2 : eval (.Call (.Name (Str.ofString "list") np2) [.Call (.Name (Str.ofString "range") np) [e₁, e₂, e₃] [] pos] [] pos2) env = (do callWith pos2 (← eval (.Name (Str.ofString "list") np2) env) [] (backTo pos2 (starEach [.Call (.Name (Str.ofString "range") np) [e₁, e₂, e₃] [] pos] env)) (backToKw pos2 (keywordEach [] env))) := by rfl) :
    SemFresh w n env ρ (.Call (.Name (Str.ofString "list") np2) [.Call (.Name (Str.ofString "range") np) [e₁, e₂, e₃] [] pos] [] pos2) ((List.range m).map fun (i : Nat) => P.int (a + i * c)) := by
  intro A X s Q E ok k
  refine PyProof.Rows.Call_ (hl A X s _ E np2 ok (callable_ty (w := w) A s Q E env pos2 _ [] ok.g.kin he2 rfl (args_cons ?_ he2))) hev2
  refine PyProof.Rows.Call_ (hr A X s _ E np ok (callable_ty (w := w) A s _ E env pos e₁ [e₂, e₃] ok.g.kin he hpl (h pos A X s _ E ok fun vs s₁ e₁' r => ⟨(ok.ext e₁').g.kin, ?_⟩))) hev
  cases r with
  | cons r1 r =>
  cases r with
  | cons r2 r =>
  cases r with
  | cons r3 r =>
  cases r; cases r1; cases r2; cases r3
  rename_i t1 t2 t3
  refine call_range_3 hc ?_ (.inl hp)
  refine args_nil ⟨((ok.ext e₁').ext (.push s₁ _)).g.kin, ?_⟩
  refine call_list_range (s := { s₁ with heap := s₁.heap.push _ }) ok.room.hd (IsRange.new ..) hsm hn hm fun h' tk acc' c' hk hS hacc => ?_
  have e2 : Ext s₁ { s₁ with heap := h', toks := tk } := .of fun b o e => hk b o (Heap.get?_push_of_some _ e)
  have xk : XOk (s₁.heap.push { cls := .type "range", data := .fields #[.int a t1, .int b t2, .int c t3] }) X := (ok.f.x.keeps e₁'.keep).keeps fun b o e => Heap.get?_push_of_some _ e
  refine k _ _ acc'.toList c' (e₁'.trans e2) (xk.fresh (Nat.le_refl _)) ?_ ((ok.ext e₁').ext (.push s₁ _)).g.high (by simpa using hS) ?_
  · cases eq : s.heap.get? (s₁.heap.push { cls := .type "range", data := .fields #[.int a t1, .int b t2, .int c t3] }).objs.size with
    | none => rfl
    | some o => exact absurd (Heap.lt_size (Heap.get?_push_of_some _ (e₁'.keep _ _ eq))) (Nat.lt_irrefl _)
  · refine Reps.of_get (by simp [hacc.1]) fun i v p hv hp => ?_
    obtain ⟨t, rfl⟩ := hacc.2 i v (by simpa using hv)
    simp only [List.getElem?_map, Option.map_eq_some_iff] at hp
    obtain ⟨j, hj, rfl⟩ := hp
    obtain ⟨h1, h2⟩ := List.getElem?_eq_some_iff.mp hj
    rw [List.getElem_range] at h2
    subst h2
    exact .int _ _
end
end Mine
end

section
open PySem PySem.W PyProof.Rows
set_option autoImplicit false
set_option linter.all false
set_option maxRecDepth 100000
namespace Mine
theorem Reps.set {h : Heap} {X : Addr → Prop} {v : Value} {p : P} : ∀ {vs : List Value} {ps : List P}, Reps h X vs ps → Rep h X v p → ∀ k, Reps h X (vs.set k v) (ps.set k p)
  | _, _, .nil, _, k => by simpa using Reps.nil
  | _, _, .cons a r, b, 0 => .cons b r
  | _, _, .cons a r, b, k + 1 => .cons a (Reps.set r b k)
section
variable {w : World} {n : Nat} {env : Env} {ρ : Rho} {a : Addr} {ps : List P}

/-- x = z[i], z the block's own list -/
theorem SemKS.readOwn {x z : Str} {px pz pos spos : Pos} {slice : Expr} {k : Nat} {p : P} (hz : ρ.lookup z = some (.val (.ref a))) (hi : SemE w n env ρ slice (.int (k : Int))) (hq : ps[k]? = some p) (hk : k < 2 ^ 62) (hx : Storable env x)
    (hs : ∀ o i, subscripted slice false o i = operate [o, i] (getItem o i) := by intro _ _; rfl) (hd : (z == ("__debug__" : Str)) = false := by decide)
    (hsw : swapsWith (.Subscript (.Name z pz) slice spos) (some (.Name x px)) pos.line env = pure false := by rfl) :
    SemKS w n env (some a) ρ ps (.Assign [.Name x px] (.Subscript (.Name z pz) slice spos) pos) (.next ((x, p) :: ρ) ps) := by
  intro A X s Q E ok ow kk
  refine wpAny_Assign_Name (PyProof.Rows.Subscript_ (ok.atVal hz (hi A X s _ E ok fun i s₁ e₁ ri => ?_) hd)) hsw
  cases ri
  have ow₁ := ow.ext e₁.toO ok.f.ownX
  obtain ⟨xa, na, vs, m, hl, rv⟩ := ow₁
  have hi : s₁.heap.IsList a vs.toArray := ⟨_, hl, rfl, m, rfl⟩
  obtain ⟨v, hv⟩ : ∃ v, vs[k]? = some v := by
    have : k < vs.length := by rw [rv.length]; exact (List.getElem?_eq_some_iff.mp hq).1
    exact ⟨vs[k], List.getElem?_eq_some_iff.mpr ⟨this, rfl⟩⟩
  obtain ⟨q', hq', rq⟩ := rv.get k v hv
  rw [hq] at hq'; cases hq'
  have ok₁ := ok.ext e₁
  refine tail_any hi.typeIs slot_list_getitem.lookup (wpAny_getItem_list hi (by omega) (by omega) (x := v) (by simpa using hv) ?_) (hs _ _)
  refine store_any ok₁ rq hx fun s₂ e₂ ok₂ => kk s₂ (e₁.toK.trans e₂.toK) ok₂ ?_
  exact OwOk.ext (a := some a) ⟨xa, na, vs, m, hl, rv⟩ e₂ ok.f.ownX

/-- z[i] = e, z the block's own list -/
theorem SemKS.writeOwn {z : Str} {pz pos spos : Pos} {slice e : Expr} {k : Nat} {p : P} (hz : ρ.lookup z = some (.val (.ref a))) (he : SemE w n env ρ e p) (hi : SemE w n env ρ slice (.int (k : Int))) (hk : k < 2 ^ 62) (hlt : k < ps.length)
    (hd : (z == ("__debug__" : Str)) = false := by decide) (hsw : swapsWith e (some (.Subscript (.Name z pz) slice spos)) pos.line env = pure false := by rfl) :
    SemKS w n env (some a) ρ ps (.Assign [.Subscript (.Name z pz) slice spos] e pos) (.next ρ (ps.set k p)) := by
  intro A X s Q E ok ow kk
  refine wpAny_Assign_Subscript (he A X s _ E ok fun v s₁ e₁ r => (ok.ext e₁).atVal hz (hi A X s₁ _ E (ok.ext e₁) fun i s₂ e₂ ri => ?_) hd) hsw
  cases ri
  have e := e₁.trans e₂
  obtain ⟨xa, na, vs, m, hl, rv⟩ := ow.ext e.toO ok.f.ownX
  refine setItem_exact hl hk (by rw [rv.length]; exact hlt) fun h' hl' hs => ?_
  have kp : ∀ b o, b ≠ a → s₂.heap.get? b = some o → h'.get? b = some o := fun b o hb eb => (hs.2 b hb).trans eb
  refine kk _ ⟨Same.trans e.same ⟨h', s₂.toks, rfl⟩, fun b o h1 h2 eb => kp b o (fun q => h2 (q ▸ rfl)) (e.keep _ _ eb)⟩ ((ok.ext e).ownSet xa na hl' kp) ⟨xa, na, _, m, hl', ?_⟩
  have rv' : Reps h' X vs ps := rv.mono fun b o nx eb => ⟨kp b o (fun q => nx (q ▸ xa)) eb, nx⟩
  have r' : Rep h' X v p := (r.ext e₂).mono fun b o nx eb => ⟨kp b o (fun q => nx (q ▸ xa)) eb, nx⟩
  exact Reps.set rv' r' k
end
end Mine
end

section
open PySem PySem.W PyProof.Rows
set_option autoImplicit false
set_option linter.all false
set_option maxRecDepth 100000
namespace Mine

theorem g_move (w : World) : nsIn (KK w) mainGlobals (Str.ofString "_MOVE_COST") = some (some (.int 2 (match nsIn (KK w) mainGlobals (Str.ofString "_MOVE_COST") with | some (some (.int _ t)) => t | _ => 0))) := by kernel_rfl!
theorem g_case (w : World) : nsIn (KK w) mainGlobals (Str.ofString "_CASE_COST") = some (some (.int 1 (match nsIn (KK w) mainGlobals (Str.ofString "_CASE_COST") with | some (some (.int _ t)) => t | _ => 0))) := by kernel_rfl!
theorem g_max (w : World) : nsIn (KK w) mainGlobals (Str.ofString "_MAX_STRING_SIZE") = some (some (.int 40 (match nsIn (KK w) mainGlobals (Str.ofString "_MAX_STRING_SIZE") with | some (some (.int _ t)) => t | _ => 0))) := by kernel_rfl!
theorem g_sub (w : World) : nsIn (KK w) mainGlobals (Str.ofString "_substitution_cost") = some (some (.ref 73)) := by kernel_rfl!
theorem k_sub (w : World) : keepIn (KK w) (.ref 73) = true := by kernel_rfl!
theorem g_list (w : World) : nsIn (KK w) mainGlobals (Str.ofString "list") = some none := by kernel_rfl!

noncomputable def subF (c d : Nat) : Int := if c = d then 0 else if lo1 c = lo1 d then 1 else 2

theorem beq_one (c d : Nat) : ([c] == [d]) = decide (c = d) := by rw [Bool.eq_iff_iff]; simp

theorem c_sub (w : World) (c d : Nat) (hc : c < 128) (hd : d < 128) : SemC w 2 (.ref 73) [.str [c], .str [d]] (.int (subF c d)) := by
  refine SemC.fn (n := 1) (ns := [Str.ofString "ch_a", Str.ofString "ch_b"]) rfl (by kernel_rfl!) rfl ?_ rfl (by decide) ?_ ?_
  · exact len2 fun _ _ => rfl
  · exact mem2 (fun _ => .inl rfl) (fun _ => .inl rfl)
  · intro L
    refine SemB.ifret (SemT.conv (SemT.cmp (SemE.var rfl) (SemE.var rfl) (CmpR.eqS _ _)) (beq_one c d)) (fun h1 => ?_) (fun h1 => ?_)
    · rw [show subF c d = 0 by unfold subF; rw [if_pos (of_decide_eq_true h1)]]
      exact SemB.consR (SemS.ret SemE.int)
    · have h1 := of_decide_eq_false h1
      refine SemB.ifret (SemT.conv (SemT.cmp (SemE.meth0 (SemE.var rfl) PySem.F.plainAttrs_str PySem.F.slot_str_lower PySem.F.type_str_lower TypeP.str (SemC.lower (n := 0) (by simpa using hc) (by simp)) (by omega)) (SemE.meth0 (SemE.var rfl) PySem.F.plainAttrs_str PySem.F.slot_str_lower PySem.F.type_str_lower TypeP.str (SemC.lower (n := 0) (by simpa using hd) (by simp)) (by omega)) (CmpR.eqS _ _)) (beq_one (lo1 c) (lo1 d))) (fun h2 => ?_) (fun h2 => ?_)
      · rw [show subF c d = 1 by unfold subF; rw [if_neg h1, if_pos (of_decide_eq_true h2)]]
        exact SemB.consR (SemS.ret (SemE.globInt (g_case w)))
      · rw [show subF c d = 2 by unfold subF; rw [if_neg h1, if_neg (of_decide_eq_false h2)]]
        exact SemB.consR (SemS.ret (SemE.globInt (g_move w)))

noncomputable def preF : Nat → List Nat → List Nat → Nat → Nat
  | 0, _, _, k => k
  | m + 1, a, b, k => if k < a.length ∧ k < b.length ∧ a[k]? = b[k]? then preF m a b (k + 1) else k
noncomputable def postF : Nat → List Nat → List Nat → Nat → Nat
  | 0, _, _, k => k
  | m + 1, a, b, k => if k < a.length ∧ k < b.length ∧ a[a.length - 1 - k]? = b[b.length - 1 - k]? then postF m a b (k + 1) else k
noncomputable def inF (c : Nat) : List Nat → List Int → Int → Int → Int → List Int × Int × Int × Int
  | x :: xs, r :: rs, dist, res, m =>
    let res' := mn (mn res r + 2) (dist + subF c x)
    let q := inF c xs rs r res' (if res' < m then res' else m)
    (res' :: q.1, q.2)
  | _, _, dist, res, m => ([], dist, res, m)
noncomputable def big : Int := 9223372036854775807
noncomputable def outF (a : List Nat) : List Nat → Nat → List Int → Int → Option (Int × List Int)
  | [], _, row, res => some (res, row)
  | c :: bs, i, row, _ =>
    let q := inF c a row (2 * (i : Int)) (2 * (i : Int)) big
    if q.2.2.2 ≤ 9 then outF a bs (i + 1) q.1 q.2.2.1 else none
noncomputable def levF (a b : List Nat) : Option Int :=
  if a = b then some 0 else
  let p := preF (a.length + 1) a b 0
  let a1 := a.drop p
  let b1 := b.drop p
  let q := postF (a1.length + 1) a1 b1 0
  let a2 := a1.take (a1.length - q)
  let b2 := b1.take (b1.length - q)
  if 0 < a2.length ∧ a2.length = b2.length ∧ a2.length ≤ 40 then (outF a2 b2 0 ((List.range a2.length).map fun (i : Nat) => 2 + (i : Int) * 2) 0).map (·.1) else none

theorem ascii_of {a : List Nat} (ha : a.all (fun c => decide (c < 128)) = true) : ∀ c ∈ a, c < 128 := fun c hc => of_decide_eq_true (List.all_eq_true.mp ha c hc)
noncomputable abbrev pZ (i : Int) : P := .int i
noncomputable abbrev pN (i : Nat) : P := .int (i : Int)

section
variable {w : World} {n : Nat} {env : Env}
theorem SemS.incr {ρ : Rho} {x : Str} {px pos : Pos} {e : Expr} {i j : Int} (hv : ρ.lookup x = some (.int i)) (h : SemE w n env ρ e (.int j)) (hx : Storable env x) : SemS w n env ρ (.AugAssign (.Name x px) .Add e pos) (.next ((x, .int (i + j)) :: ρ)) :=
  SemS.aug hv h hx fun A s Q E t u k => PyProof.Rows.iadd_int (k _ _)
theorem SemS.decr {ρ : Rho} {x : Str} {px pos : Pos} {e : Expr} {i j : Int} (hv : ρ.lookup x = some (.int i)) (h : SemE w n env ρ e (.int j)) (hx : Storable env x) : SemS w n env ρ (.AugAssign (.Name x px) .Sub e pos) (.next ((x, .int (i - j)) :: ρ)) :=
  SemS.aug hv h hx fun A s Q E t u k => PyProof.Rows.isub_int (k _ _)
end
theorem self_rho {ρ : Rho} {x : Str} {p : P} (h : ρ.lookup x = some p) : ∀ y q, List.lookup y ((x, p) :: ρ) = some q → ρ.lookup y = some q := by
  intro y q e
  rw [List.lookup_cons] at e
  cases hx : y == x with
  | true => rw [hx] at e; cases e; rw [beq_iff_eq.mp hx]; exact h
  | false => rw [hx] at e; exact e
end Mine
end

section
open PySem PySem.W PyProof.Rows
set_option autoImplicit false
set_option linter.all false
set_option maxRecDepth 100000
namespace Mine

theorem pySl_neg (x : List Nat) (k : Nat) : pySl none (if (-(k : Int)) = 0 then none else some (-(k : Int))) x = x.take (x.length - k) := by
  by_cases h0 : k = 0
  · subst h0
    simp [pySl, bnd]
  · have h : ¬ (-(k : Int)) = 0 := by omega
    rw [if_neg h]
    unfold pySl bnd
    have h2 : (-(k : Int)) < 0 := by omega
    simp only [h2, if_true, List.drop_zero, Nat.sub_zero]
    have : (max 0 (min (-(k : Int) + (x.length : Int)) (x.length : Int))).toNat = x.length - k := by omega
    rw [this]
theorem seqIndex_neg (k l : Nat) (h : k < l) : seqIndex? (-(k : Int) - 1) l = some (l - 1 - k) := by
  unfold seqIndex?
  have h1 : -(k : Int) - 1 < 0 := by omega
  simp only [h1, if_true]
  rw [if_pos (by simp; omega)]
  congr 1
  omega
theorem notEmpty_drop (x : List Nat) (k : Nat) : (!(x.drop k).isEmpty) = decide (k < x.length) := by
  rw [Bool.eq_iff_iff]; simp
theorem notEmpty_take (x : List Nat) (k : Nat) : (!(x.take (x.length - k)).isEmpty) = decide (k < x.length) := by
  rw [Bool.eq_iff_iff]; cases x <;> simp; omega
theorem opt_beq {a b : List Nat} {i j x y : Nat} (hx : a[i]? = some x) (hy : b[j]? = some y) : ([x] == [y]) = decide (a[i]? = b[j]?) := by
  rw [hx, hy, beq_one]; simp

theorem inF_len (c : Nat) : ∀ (xs : List Nat) (rs : List Int) (d r m : Int), xs.length = rs.length → (inF c xs rs d r m).1.length = xs.length
  | [], [], _, _, _, _ => rfl
  | x :: xs, r :: rs, d, res, m, h => by
    simp only [inF, List.length_cons]
    rw [inF_len c xs rs _ _ _ (by simpa using h)]

theorem WhileTo.by {w : World} {n : Nat} {env : Env} {a : Option Addr} {test : Expr} {body : List Stmt} {ρ ρ' : Rho} {ps ps' : List P} {b : Bool} (hT : SemT w n env ρ test b) (h0 : b = false → ρ = ρ' ∧ ps = ps')
    (h1 : b = true → ∃ ρ₁ ps₁, SemK w n env a ρ ps body (.next ρ₁ ps₁) ∧ WhileTo w n env a test body ρ₁ ps₁ ρ' ps') : WhileTo w n env a test body ρ ps ρ' ps' := by
  cases b with
  | false => obtain ⟨rfl, rfl⟩ := h0 rfl; exact .done hT
  | true => obtain ⟨_, _, hb, r⟩ := h1 rfl; exact .step hT hb r

noncomputable def z0 : Nat := 0
theorem small_two : ∀ n : Nat, n < 41 → Builtin.Range.small 2 (2 * ((n : Int) + 1)) 2 = true := by decide +kernel
/-- if t: x = e -/
theorem SemS.ifset {w : World} {n : Nat} {env : Env} {ρ : Rho} {t e : Expr} {x : Str} {px apos pos : Pos} {c : Bool} {p p' : P} (ht : SemT w n env ρ t c) (he : SemE w n env ρ e p) (hv : ρ.lookup x = some p') (hx : Storable env x) (hs : swapsWith e (some (.Name x px)) apos.line env = pure false := by rfl) :
    SemS w n env ρ (.If t [.Assign [.Name x px] e apos] [] pos) (.next ((x, if c = true then p else p') :: ρ)) := by
  refine SemS.ite ht (fun h => ?_) (fun h => ?_)
  · rw [if_pos h]; exact SemB.cons (SemS.assign he hx hs) SemB.nil
  · rw [if_neg (by rw [h]; decide)]; exact SemB.post SemB.nil (self_rho hv)
noncomputable def zI : Int := 0
theorem SemI.cast {w : World} {n : Nat} {env : Env} {a : Option Addr} {x : Str} {body : List Stmt} {i j : List P} {ρ ρ' : Rho} {ps ps' : List P} (e : i = j) (h : ForTo w n env a x body j ρ ps ρ' ps') : ForTo w n env a x body i ρ ps ρ' ps' := e ▸ h
noncomputable abbrev kA : Str := Str.ofString "a"
noncomputable abbrev kB : Str := Str.ofString "b"
noncomputable abbrev kM : Str := Str.ofString "max_cost"
noncomputable def rhoO (ad : Addr) (a b : List Nat) (res : Int) : Rho := [(Str.ofString "result", .int res), (Str.ofString "row", .val (.ref ad)), (kA, .str a), (kB, .str b), (kM, .int 9)]
noncomputable def rhoI (ad : Addr) (a b : List Nat) (c : Nat) (dist res m : Int) : Rho := [(Str.ofString "distance", .int dist), (Str.ofString "minimum", .int m), (Str.ofString "bchar", .str [c]), (Str.ofString "result", .int res), (Str.ofString "row", .val (.ref ad)), (kA, .str a), (kB, .str b), (kM, .int 9)]

theorem outer_loop {w : World} {n : Nat} {env : Env} {ad : Addr} {body : List Stmt} {a b : List Nat} {res : Int} {rowE : List Int}
    (hbody : ∀ (c : Nat) (bs : List Nat) (i : Nat) (row : List Int) (r0 : Int), b.drop i = c :: bs → row.length = a.length → (inF c a row (2 * (i : Int)) (2 * (i : Int)) big).2.2.2 ≤ 9 →
      SemK w n env (some ad) ((Str.ofString "bindex", pN i) :: rhoO ad a b r0) (row.map pZ) body (.next (rhoO ad a b (inF c a row (2 * (i : Int)) (2 * (i : Int)) big).2.2.1) ((inF c a row (2 * (i : Int)) (2 * (i : Int)) big).1.map pZ))) :
    ∀ (bs : List Nat) (i : Nat) (row : List Int) (r0 : Int), b.drop i = bs → row.length = a.length → outF a bs i row r0 = some (res, rowE) →
      ForTo w n env (some ad) (Str.ofString "bindex") body ((List.range' i bs.length).map pN) (rhoO ad a b r0) (row.map pZ) (rhoO ad a b res) (rowE.map pZ)
  | [], i, row, r0, hd, hr, h => by
    rw [outF] at h; cases h
    exact .nil
  | c :: bs, i, row, r0, hd, hr, h => by
    rw [outF] at h
    try dsimp only at h
    split at h
    · rename_i h9
      rw [List.length_cons, List.range'_succ, List.map_cons]
      refine .cons (hbody c bs i row r0 hd hr h9) (outer_loop hbody bs (i + 1) _ _ ?_ (by rw [inF_len _ _ _ _ _ _ hr.symm]) h)
      rw [← List.drop_drop, hd]; rfl
    · cases h
theorem inner_loop {w : World} {n : Nat} {env : Env} {ad : Addr} {body : List Stmt} {a b : List Nat} {c : Nat}
    (hbody : ∀ (x : Nat) (i : Nat) (row : List Int) (r dist res m : Int), a[i]? = some x → row.length = a.length → row[i]? = some r →
      SemK w n env (some ad) ((Str.ofString "index", pN i) :: rhoI ad a b c dist res m) (row.map pZ) body (.next (rhoI ad a b c r (mn (mn res r + 2) (dist + subF c x)) (if mn (mn res r + 2) (dist + subF c x) < m then mn (mn res r + 2) (dist + subF c x) else m)) ((row.set i (mn (mn res r + 2) (dist + subF c x))).map pZ))) :
    ∀ (xs : List Nat) (i : Nat) (don rs : List Int) (dist res m : Int), a.drop i = xs → don.length = i → rs.length = xs.length → (don ++ rs).length = a.length →
      ForTo w n env (some ad) (Str.ofString "index") body ((List.range' i xs.length).map pN) (rhoI ad a b c dist res m) ((don ++ rs).map pZ) (rhoI ad a b c (inF c xs rs dist res m).2.1 (inF c xs rs dist res m).2.2.1 (inF c xs rs dist res m).2.2.2) ((don ++ (inF c xs rs dist res m).1).map pZ)
  | [], i, don, rs, dist, res, m, hd, hi, hr, hl => by
    cases rs with
    | nil => exact .nil
    | cons _ _ => simp at hr
  | x :: xs, i, don, rs, dist, res, m, hd, hi, hr, hl => by
    cases rs with
    | nil => simp at hr
    | cons r rs =>
    rw [List.length_cons, List.range'_succ, List.map_cons]
    have hx : a[i]? = some x := by
      have : (a.drop i)[0]? = some x := by rw [hd]; rfl
      simpa using this
    have hr2 : (don ++ r :: rs)[i]? = some r := by rw [← hi]; simp
    refine .cons (hbody x i (don ++ r :: rs) r dist res m hx hl hr2) ?_
    have hset : ∀ v, (don ++ r :: rs).set i v = (don ++ [v]) ++ rs := fun v => by rw [← hi]; simp
    rw [hset]
    have := inner_loop hbody xs (i + 1) (don ++ [mn (mn res r + 2) (dist + subF c x)]) rs r (mn (mn res r + 2) (dist + subF c x)) (if mn (mn res r + 2) (dist + subF c x) < m then mn (mn res r + 2) (dist + subF c x) else m) (by rw [← List.drop_drop, hd]; rfl) (by simp [hi]) (by simpa using hr) (by simp at hl ⊢; omega)
    simp only [inF]
    simp only [List.append_assoc, List.singleton_append] at this ⊢
    exact this

set_option maxHeartbeats 2000000 in
theorem c_lev (w : World) (a b : List Nat) (r : Int) (h : levF a b = some r) (ha : a.all (fun c => decide (c < 128)) = true) (hb : b.all (fun c => decide (c < 128)) = true) (hla : a.length ≤ 1000) (hlb : b.length ≤ 1000) : SemC w 4 (.ref 80) [.str a, .str b, .int 9] (.int r) := by
  refine SemC.fn (n := 3) (ns := [Str.ofString "a", Str.ofString "b", Str.ofString "max_cost"]) rfl (by kernel_rfl!) rfl ?_ rfl (by decide) ?_ ?_
  · exact len3 fun _ _ _ => rfl
  · exact mem3 (fun _ => .inl rfl) (fun _ => .inl rfl) (fun _ => .inl rfl)
  intro L
  refine SemB.ifret (SemT.conv (SemT.cmp (SemE.var rfl) (SemE.var rfl) (CmpR.eqS _ _)) (show (a == b) = decide (a = b) by rw [Bool.eq_iff_iff]; simp)) (fun h1 => ?_) (fun h1 => ?_)
  · have h1 := of_decide_eq_true h1
    unfold levF at h
    rw [if_pos h1] at h; cases h
    exact SemB.consR (SemS.ret SemE.int)
  have h1 := of_decide_eq_false h1
  unfold levF at h
  rw [if_neg h1] at h
  clear h1
  dsimp only at h
  refine SemB.cons (SemS.assign SemE.int (.inl rfl)) ?_
  -- the common front
  refine SemB.cons (SemS.ofKS (ρ' := [(Str.ofString "pre", .int (preF (a.length + 1) a b 0 : Nat)), (kA, .str a), (kB, .str b), (kM, .int 9)]) (ps' := []) (SemKS.while ?_)) ?_
  · change WhileTo _ _ _ _ _ _ [(Str.ofString "pre", .int ((z0 : Nat) : Int)), (kA, .str a), (kB, .str b), (kM, .int 9)] _ [(Str.ofString "pre", .int (preF (a.length + 1) a b z0 : Nat)), (kA, .str a), (kB, .str b), (kM, .int 9)] _
    have hm : a.length < a.length + 1 + z0 ∧ z0 ≤ a.length := ⟨by simp [z0], by simp [z0]⟩
    revert hm
    clear h
    generalize a.length + 1 = m
    generalize z0 = k
    intro hm
    induction m generalizing k with
    | zero => omega
    | succ m ih =>
      refine WhileTo.by (b := decide (k < a.length ∧ k < b.length ∧ a[k]? = b[k]?)) (SemT.conv (SemT.and (b := decide (k < a.length)) (c := decide (k < b.length) && (decide (a[k]? = b[k]?) && true)) ?_ fun e1 => SemT.and ?_ fun e2 => SemT.and ?_ fun _ => SemT.andNil) ?_) (fun e => ?_) (fun e => ?_)
      · exact SemT.conv (SemT.ofStr (SemE.slFrom (SemE.var rfl) (SemE.var rfl) (by omega) (by omega)) (by simp; omega)) (notEmpty_drop a k)
      · exact SemT.conv (SemT.ofStr (SemE.slFrom (SemE.var rfl) (SemE.var rfl) (by omega) (by omega)) (by simp; omega)) (notEmpty_drop b k)
      · have e1 := of_decide_eq_true e1
        have e2 := of_decide_eq_true e2
        have x1 : a[k]? = some a[k] := List.getElem?_eq_some_iff.mpr ⟨e1, rfl⟩
        have x2 : b[k]? = some b[k] := List.getElem?_eq_some_iff.mpr ⟨e2, rfl⟩
        exact SemT.conv (SemT.cmp (SemE.idxS (SemE.var rfl) (SemE.var rfl) (seqIndex_of (by omega) (by omega)) x1 (by omega) (by omega)) (SemE.idxS (SemE.var rfl) (SemE.var rfl) (seqIndex_of (by omega) (by omega)) x2 (by omega) (by omega)) (CmpR.eqS _ _)) (opt_beq x1 x2)
      · rw [Bool.eq_iff_iff]; simp
      · have e := of_decide_eq_false e
        rw [preF, if_neg e]
        exact ⟨rfl, rfl⟩
      · have e := of_decide_eq_true e
        rw [preF, if_pos e]
        refine ⟨_, _, SemK.cons (SemKS.ofS (SemS.incr rfl SemE.int (.inl rfl))) (SemK.weak SemK.nil (sub_rho (ρ' := [(Str.ofString "pre", .int ((k + 1 : Nat) : Int)), (kA, .str a), (kB, .str b), (kM, .int 9)]))), ih (k + 1) ?_⟩
        omega
  generalize preF (a.length + 1) a b 0 = p at h ⊢
  refine SemB.cons (SemS.assign (SemE.slFrom (SemE.var rfl) (SemE.var rfl) (by omega) (by omega)) (.inl rfl)) ?_
  refine SemB.cons (SemS.assign (SemE.slFrom (SemE.var rfl) (SemE.var rfl) (by omega) (by omega)) (.inl rfl)) ?_
  refine SemB.weak (ρ' := [(kA, .str (a.drop p)), (kB, .str (b.drop p)), (kM, .int 9)]) ?_ (sub_rho)
  have ha1 : (a.drop p).all (fun c => decide (c < 128)) = true := List.all_eq_true.mpr fun c hc => List.all_eq_true.mp ha c (List.mem_of_mem_drop hc)
  have hb1 : (b.drop p).all (fun c => decide (c < 128)) = true := List.all_eq_true.mpr fun c hc => List.all_eq_true.mp hb c (List.mem_of_mem_drop hc)
  have hla1 : (a.drop p).length ≤ 1000 := by simp; omega
  have hlb1 : (b.drop p).length ≤ 1000 := by simp; omega
  generalize a.drop p = a1 at *
  generalize b.drop p = b1 at *
  clear ha hb hla hlb
  refine SemB.cons (SemS.assign SemE.int (.inl rfl)) ?_
  refine SemB.cons (SemS.ofKS (ρ' := [(Str.ofString "post", .int (-(postF (a1.length + 1) a1 b1 0 : Nat))), (kA, .str a1), (kB, .str b1), (kM, .int 9)]) (ps' := []) (SemKS.while ?_)) ?_
  · change WhileTo _ _ _ _ _ _ [(Str.ofString "post", .int (-((z0 : Nat) : Int))), (kA, .str a1), (kB, .str b1), (kM, .int 9)] _ [(Str.ofString "post", .int (-(postF (a1.length + 1) a1 b1 z0 : Nat))), (kA, .str a1), (kB, .str b1), (kM, .int 9)] _
    have hm : a1.length < a1.length + 1 + z0 ∧ z0 ≤ a1.length := ⟨by simp [z0], by simp [z0]⟩
    revert hm
    clear h
    generalize a1.length + 1 = m
    generalize z0 = k
    intro hm
    induction m generalizing k with
    | zero => omega
    | succ m ih =>
      refine WhileTo.by (b := decide (k < a1.length ∧ k < b1.length ∧ a1[a1.length - 1 - k]? = b1[b1.length - 1 - k]?)) (SemT.conv (SemT.and (b := decide (k < a1.length)) (c := decide (k < b1.length) && (decide (a1[a1.length - 1 - k]? = b1[b1.length - 1 - k]?) && true)) ?_ fun e1 => SemT.and ?_ fun e2 => SemT.and ?_ fun _ => SemT.andNil) ?_) (fun e => ?_) (fun e => ?_)
      · exact SemT.conv (SemT.ofStr (SemE.conv (SemE.slS (SemE.var rfl) SemPt.none (SemPt.orNone (SemE.var rfl)) (by omega)) (congrArg P.str (pySl_neg a1 k))) (by simp; omega)) (notEmpty_take a1 k)
      · exact SemT.conv (SemT.ofStr (SemE.conv (SemE.slS (SemE.var rfl) SemPt.none (SemPt.orNone (SemE.var rfl)) (by omega)) (congrArg P.str (pySl_neg b1 k))) (by simp; omega)) (notEmpty_take b1 k)
      · have e1 := of_decide_eq_true e1
        have e2 := of_decide_eq_true e2
        have x1 : a1[a1.length - 1 - k]? = some a1[a1.length - 1 - k] := List.getElem?_eq_some_iff.mpr ⟨by omega, rfl⟩
        have x2 : b1[b1.length - 1 - k]? = some b1[b1.length - 1 - k] := List.getElem?_eq_some_iff.mpr ⟨by omega, rfl⟩
        exact SemT.conv (SemT.cmp (SemE.idxS (SemE.var rfl) (SemE.subI (SemE.var rfl) SemE.int) (seqIndex_neg k _ e1) x1 (by omega) (by omega)) (SemE.idxS (SemE.var rfl) (SemE.subI (SemE.var rfl) SemE.int) (seqIndex_neg k _ e2) x2 (by omega) (by omega)) (CmpR.eqS _ _)) (opt_beq x1 x2)
      · rw [Bool.eq_iff_iff]; simp
      · have e := of_decide_eq_false e
        rw [postF, if_neg e]
        exact ⟨rfl, rfl⟩
      · have e := of_decide_eq_true e
        rw [postF, if_pos e]
        have e3 : -(k : Int) - 1 = -((k + 1 : Nat) : Int) := by omega
        refine ⟨_, _, SemK.cons (SemKS.ofS (SemS.decr rfl SemE.int (.inl rfl))) (SemK.weak SemK.nil ?_), ih (k + 1) (by omega)⟩
        rw [e3]
        exact sub_rho
  generalize postF (a1.length + 1) a1 b1 0 = q at h ⊢
  refine SemB.cons (SemS.assign (SemE.conv (SemE.slS (SemE.var rfl) SemPt.none (SemPt.orNone (SemE.var rfl)) (by omega)) (congrArg P.str (pySl_neg a1 q))) (.inl rfl)) ?_
  refine SemB.cons (SemS.assign (SemE.conv (SemE.slS (SemE.var rfl) SemPt.none (SemPt.orNone (SemE.var rfl)) (by omega)) (congrArg P.str (pySl_neg b1 q))) (.inl rfl)) ?_
  refine SemB.weak (ρ' := [(kA, .str (a1.take (a1.length - q))), (kB, .str (b1.take (b1.length - q))), (kM, .int 9)]) ?_ (sub_rho)
  have ha : (a1.take (a1.length - q)).all (fun c => decide (c < 128)) = true := List.all_eq_true.mpr fun c hc => List.all_eq_true.mp ha1 c (List.mem_of_mem_take hc)
  have hb : (b1.take (b1.length - q)).all (fun c => decide (c < 128)) = true := List.all_eq_true.mpr fun c hc => List.all_eq_true.mp hb1 c (List.mem_of_mem_take hc)
  generalize a1.take (a1.length - q) = a at *
  generalize b1.take (b1.length - q) = b at *
  clear ha1 hb1 hla1 hlb1
  split at h
  case isFalse => cases h
  rename_i hg
  obtain ⟨g1, g2, g3⟩ := hg
  obtain ⟨res, hres, rfl⟩ := Option.map_eq_some_iff.mp h
  obtain ⟨res, rowE⟩ := res
  clear h
  have na : (!a.isEmpty) = true := by cases a <;> simp at g1 ⊢
  have nb : (!b.isEmpty) = true := by rw [g2] at g1; cases b <;> simp at g1 ⊢
  refine SemB.ifret (b := false) (SemT.conv (SemT.or (SemT.not (SemT.ofStr (SemE.var rfl) (by omega))) fun _ => SemT.or (SemT.not (SemT.ofStr (SemE.var rfl) (by omega))) fun _ => SemT.orNil) (by rw [na, nb]; rfl)) (fun h => by cases h) fun _ => ?_
  refine SemB.ifret (b := false) (SemT.conv (SemT.or (SemT.cmp (SemE.lenS (SemE.var rfl) (by omega)) (SemE.globInt (g_max w)) (CmpR.gtI _ _)) fun _ => SemT.or (SemT.cmp (SemE.lenS (SemE.var rfl) (by omega)) (SemE.globInt (g_max w)) (CmpR.gtI _ _)) fun _ => SemT.orNil) (by rw [Bool.eq_iff_iff]; simp; omega)) (fun h => by cases h) fun _ => ?_
  refine SemB.cons (SemS.ite (b := false) (SemT.conv (SemT.cmp (SemE.lenS (SemE.var rfl) (by omega)) (SemE.lenS (SemE.var rfl) (by omega)) (CmpR.ltI _ _)) (by rw [Bool.eq_iff_iff]; simp; omega)) (fun h => by cases h) fun _ => SemB.nil) ?_
  refine SemB.ifret (b := false) (SemT.conv (SemT.cmp (SemE.mulI (SemE.subI (SemE.lenS (SemE.var rfl) (by omega)) (SemE.lenS (SemE.var rfl) (by omega))) (SemE.globInt (g_move w)) (IntMulOk.of_right (by decide))) (SemE.var rfl) (CmpR.gtI _ _)) (by rw [Bool.eq_iff_iff]; simp; omega)) (fun h => by cases h) fun _ => ?_
  refine SemB.startOwn (SemFresh.listRange (m := a.length) (SemA.cons (SemE.globInt (g_move w)) (SemA.cons (SemE.mulI (SemE.globInt (g_move w)) (SemE.addI (SemE.lenS (SemE.var rfl) (by omega)) SemE.int) (IntMulOk.of_left (by decide))) (SemA.cons (SemE.globInt (g_move w)) SemA.nil))) (by decide) (PyProof.noPylong_small (by decide)) ?_ ?_ (by omega) (NameV.bi (g_range w) rfl) (NameV.bi (g_list w) rfl)) (.inl rfl) fun ad => ?_
  · exact small_two a.length (by omega)
  · unfold Builtin.Range.rangeSize
    rw [if_pos (by decide), if_pos (by omega)]
    omega
  refine SemK.cons (SemKS.ofS (SemS.assign SemE.int (.inl rfl))) ?_
  refine SemK.weak (ρ' := rhoO ad a b 0) ?_ (by unfold rhoO; exact sub_rho)
  have hL0 : ((List.range a.length).map fun (i : Nat) => P.int (2 + (i : Int) * 2)) = ((List.range a.length).map fun (i : Nat) => 2 + (i : Int) * 2).map pZ := by rw [List.map_map]; rfl
  rw [hL0]
  have hlr : ((List.range a.length).map fun (i : Nat) => 2 + (i : Int) * 2).length = a.length := by simp
  generalize ((List.range a.length).map fun (i : Nat) => 2 + (i : Int) * 2) = row at hres hlr ⊢
  refine SemK.cons (ρ' := rhoO ad a b res) (ps' := rowE.map pZ) (SemKS.for (SemI.range1 (SemA.cons (SemE.lenS (SemE.var rfl) (by omega)) SemA.nil) (by omega) (NameV.bi (g_range w) rfl)) ?_ (.inl rfl)) (SemK.consR (SemKS.retS (SemS.ret (SemE.var rfl))))
  have hit : ((List.range ((b.length : Int)).toNat).map fun (i : Nat) => P.int (i : Int)) = (List.range' z0 b.length).map pN := by
    rw [Int.toNat_natCast, List.range_eq_range']; rfl
  rw [hit]
  change outF a b z0 row zI = some (res, rowE) at hres
  change ForTo _ _ _ _ _ _ _ (rhoO ad a b zI) _ _ _
  refine outer_loop (fun c bs i row r0 hc hr h9 => ?_) b z0 row zI rfl hlr hres
  clear hit hL0
  have hi : b[i]? = some c := by
    have : (b.drop i)[0]? = some c := by rw [hc]; rfl
    simpa using this
  have hib : i < b.length := (List.getElem?_eq_some_iff.mp hi).1
  have hc128 := ascii_of hb c (List.mem_of_getElem? hi)
  refine SemK.cons (SemKS.ofS (SemS.assign (SemE.idxS (SemE.var rfl) (SemE.var rfl) (seqIndex_of (by omega) (by omega)) hi (by omega) (by omega)) (.inl rfl))) ?_
  refine SemK.cons (SemKS.ofS (SemS.assign12 (SemE.mulI (SemE.var rfl) (SemE.globInt (g_move w)) (IntMulOk.of_right (by decide))) (.inl rfl) (.inl rfl))) ?_
  refine SemK.cons (SemKS.ofS (SemS.assign SemE.int (.inl rfl))) ?_
  refine SemK.weak (ρ' := rhoI ad a b c ((i : Int) * 2) ((i : Int) * 2) big) ?_ (by unfold rhoI; exact sub_rho)
  have h2 : (i : Int) * 2 = 2 * (i : Int) := by omega
  rw [h2]
  refine SemK.cons (SemKS.for (SemI.range1 (SemA.cons (SemE.lenS (SemE.var rfl) (by omega)) SemA.nil) (by omega) (NameV.bi (g_range w) rfl)) (SemI.cast ?_ (inner_loop (c := c) (fun x j row r dist res m hx hr hrow => ?_) a z0 [] row _ _ _ rfl rfl hr hr)) (.inl rfl)) ?_
  · rw [Int.toNat_natCast, List.range_eq_range']; rfl
  · have hxl : x < 128 := ascii_of ha x (List.mem_of_getElem? hx)
    have hja : j < a.length := (List.getElem?_eq_some_iff.mp hx).1
    have hrow' : (row.map pZ)[j]? = some (pZ r) := by rw [List.getElem?_map, hrow]; rfl
    refine SemK.cons (SemKS.ofS (SemS.assign (SemE.addI (SemE.var rfl) (SemE.callg (g_sub w) (k_sub w) (SemA.cons (SemE.var rfl) (SemA.cons (SemE.idxS (SemE.var rfl) (SemE.var rfl) (seqIndex_of (by omega) (by omega)) hx (by omega) (by omega)) SemA.nil)) (c_sub w c x hc128 hxl) (by omega))) (.inl rfl))) ?_
    refine SemK.cons (SemKS.readOwn rfl (SemE.var rfl) hrow' (by omega) (.inl rfl)) ?_
    refine SemK.cons (SemKS.ofS (SemS.assign (SemE.addI (SemE.callb (g_min w) (SemA.cons (SemE.var rfl) (SemA.cons (SemE.var rfl) SemA.nil)) (SemC.min2 (n := 0))) (SemE.globInt (g_move w))) (.inl rfl))) ?_
    refine SemK.cons (SemKS.ofS (SemS.assign (SemE.callb (g_min w) (SemA.cons (SemE.var rfl) (SemA.cons (SemE.var rfl) SemA.nil)) (SemC.min2 (n := 0))) (.inl rfl))) ?_
    refine SemK.cons (SemKS.writeOwn rfl (SemE.var rfl) (SemE.var rfl) (by omega) (by simp; omega)) ?_
    generalize hV : mn (mn res r + 2) (dist + subF c x) = V
    have hset : (row.map pZ).set j (P.int V) = (row.set j V).map pZ := (List.map_set ..).symm
    rw [hset]
    refine SemK.cons (SemKS.ofS (SemS.ifset (SemT.cmp (SemE.var rfl) (SemE.var rfl) (CmpR.ltI _ _)) (SemE.var rfl) rfl (.inl rfl))) ?_
    have hm : (if decide (V < m) = true then P.int V else P.int m) = P.int (if V < m then V else m) := by by_cases hv : V < m <;> simp [hv]
    rw [hm]
    exact SemK.weak (ρ' := rhoI ad a b c r V (if V < m then V else m)) SemK.nil (by unfold rhoI; exact sub_rho)
  · refine SemK.cons (SemKS.ofS (SemS.ite (b := false) (o := .next (rhoI ad a b c _ _ _)) (SemT.conv (SemT.cmp (SemE.var rfl) (SemE.var rfl) (CmpR.gtI _ _)) (by rw [decide_eq_false_iff_not]; omega)) (fun h => by cases h) (fun _ => SemB.nil))) ?_
    exact SemK.weak (ρ' := rhoO ad a b _) SemK.nil (by unfold rhoO rhoI; exact sub_rho)
end Mine
end

section
open PySem PySem.W PyProof.Rows
set_option autoImplicit false
set_option linter.all false
set_option maxRecDepth 100000
namespace Mine

theorem intBits_le (a : Nat) (h : a < 2 ^ 30) : Builtin.Int.intBits (a : Int) ≤ 30 := by
  unfold Builtin.Int.intBits
  split
  · exact Nat.zero_le _
  · rename_i h0
    have h0 : a ≠ 0 := by simpa using h0
    have : a.log2 < 30 := (Nat.log2_lt h0).mpr h
    show a.log2 + 1 ≤ 30
    omega
theorem intBits_neg (a : Int) (h : a.natAbs < 2 ^ 30) : Builtin.Int.intBits a ≤ 30 := by
  unfold Builtin.Int.intBits
  split
  · exact Nat.zero_le _
  · rename_i h0
    have h0 : a.natAbs ≠ 0 := by simpa using h0
    have : a.natAbs.log2 < 30 := (Nat.log2_lt h0).mpr h
    omega

theorem g_lim (w : World) : nsIn (KK w) mainGlobals (Str.ofString "_DIV_LIMIT") = some (some (.int 4000 (match nsIn (KK w) mainGlobals (Str.ofString "_DIV_LIMIT") with | some (some (.int _ t)) => t | _ => 0))) := by kernel_rfl!
theorem g_divmod (w : World) : nsIn (KK w) mainGlobals (Str.ofString "divmod") = some none := by kernel_rfl!

theorem c_div (w : World) (a b k : Int) (ha : a.natAbs < 2 ^ 30) (hb : b.natAbs < 2 ^ 30) (hb0 : b ≠ 0) (hk : 0 ≤ k) : SemC w 2 (.ref 45) [.int a, .int b, .int k] (.tup [.int (a.fdiv b), .int (a.fmod b)]) := by
  have h30 := intBits_neg a ha
  refine SemC.fn (n := 1) (ns := [Str.ofString "a", Str.ofString "b", Str.ofString "n"]) rfl (by kernel_rfl!) rfl ?_ rfl (by decide) ?_ ?_
  · exact len3 fun _ _ _ => rfl
  · exact mem3 (fun _ => .inl rfl) (fun _ => .inl rfl) (fun _ => .inl rfl)
  intro L
  refine SemB.ifret (b := true) (SemT.conv (SemT.cmp (SemE.subI (SemE.meth0 (SemE.var rfl) PySem.F.plainAttrs_int PySem.F.slot_int_bit_length PySem.F.type_int_bit_length TypeP.int (SemC.bits (n := 0)) (by omega)) (SemE.var rfl)) (SemE.globInt (g_lim w)) (CmpR.leI _ _)) (by rw [decide_eq_true_iff]; omega)) (fun _ => ?_) (fun h => by cases h)
  exact SemB.consR (SemS.ret (SemE.callb (g_divmod w) (SemA.cons (SemE.var rfl) (SemA.cons (SemE.var rfl) SemA.nil)) (SemC.divmod (n := 0) hb0 (PyProof.noPylong_small (by omega)))))
end Mine
end

section
open PySem PySem.W PyProof.Rows
set_option autoImplicit false
set_option linter.all false
set_option maxRecDepth 100000
namespace Mine

theorem List.le_sum_of_mem' {l : List Nat} {a : Nat} (h : a ∈ l) : a ≤ l.sum := by
  induction l with
  | nil => cases h
  | cons b r ih =>
    rw [List.sum_cons]
    rcases List.mem_cons.mp h with rfl | h
    · omega
    · have := ih h; omega

noncomputable def mixF (texts more : List (List Nat)) : List (List Nat) := texts.flatMap fun x => more.flatMap fun y => weaveF 15 x y
noncomputable def shortL (n : Nat) (l : List (List Nat)) : Bool := l.all fun x => decide (x.length ≤ n)
noncomputable def loopW (f : List Nat → Option (List (List Nat) × Nat)) (parts : List (List Nat)) : List (List Nat) → Nat → List (List Nat) → Nat → Option (List (List Nat) × Nat)
  | [], _, texts, often => some (texts, often)
  | p :: ps, k, texts, often => match f p with
    | none => none
    | some (more, each) =>
      if often < 2 ^ 20 ∧ each < 2 ^ 20 ∧ shortL 6 texts = true ∧ shortL 6 more = true ∧ (mixF texts more).length ≤ 10000 then loopW f parts ps (k + 1) (mixF texts more) (often * each * (parts.take (k + 1)).count p) else none
noncomputable def weavF : Nat → List Nat → Option (List (List Nat) × Nat)
  | 0, _ => none
  | m + 1, x => if x.length < 2 then some ([x], 1) else
    if (cutF (x.length + 1) x []).length = 1 then match weavF m (x.drop 1) with
      | none => none
      | some (rest, often) => if rest.length ≤ 10000 ∧ shortL 100 rest = true then some (rest.map (x.headD 0 :: ·), often) else none
    else if (cutF (x.length + 1) x []).length ≤ 1000 then loopW (weavF m) (cutF (x.length + 1) x []) (cutF (x.length + 1) x []) 0 [[]] 1 else none

/-- len(e), a list -/
theorem SemE.lenL {w : World} {n : Nat} {env : Env} {ρ : Rho} {np pos : Pos} {e : Expr} {x : List P} (h : SemE w n env ρ e (.list x)) (hz : x.length ≤ 16777216)
    (he : starEach [e] env = [(false, eval e env)] := by rfl) (hx : env.kindOf (Str.ofString "len") = some .globalImplicit := by rfl)
    (hev : eval (.Call (.Name (Str.ofString "len") np) [e] [] pos) env = (do callWith pos (← eval (.Name (Str.ofString "len") np) env) [] (backTo pos (starEach [e] env)) (backToKw pos (keywordEach [] env))) := by rfl) : SemE w n env ρ (.Call (.Name (Str.ofString "len") np) [e] [] pos) (.int x.length) :=
  SemE.call (NameV.bi (g_len w) rfl (hx := hx)) callable_bi (SemA.cons h SemA.nil he) (SemC.lenL (n := n) hz) (Nat.le_refl _) he rfl hev

theorem g_cut (w : World) : nsIn (KK w) mainGlobals (Str.ofString "_law_cut") = some (some (.ref 240)) := by kernel_rfl!
theorem g_weavings (w : World) : nsIn (KK w) mainGlobals (Str.ofString "_law_weavings") = some (some (.ref 267)) := by kernel_rfl!
theorem k_weavings (w : World) : keepIn (KK w) (.ref 267) = true := by kernel_rfl!

theorem cutF_len : ∀ (m : Nat) (x : List Nat) (acc : List (List Nat)), ∀ p ∈ cutF m x acc, p.length ≤ x.length + (acc.map List.length).sum
  | 0, x, acc, p, h => by
    rw [cutF] at h
    have := List.le_sum_of_mem' (List.mem_map_of_mem (f := List.length) h)
    omega
  | m + 1, x, acc, p, h => by
    rw [cutF] at h
    split at h
    · have := List.le_sum_of_mem' (List.mem_map_of_mem (f := List.length) h)
      omega
    · rename_i hx
      have h1 : 0 < x.length := List.length_pos_iff.mpr (by simpa using hx)
      obtain ⟨j, _, hj, hl⟩ := least_eq h1
      have hlen : (least x 0).length = x.length - j := by rw [hl, List.length_drop]
      have := cutF_len m _ _ p h
      simp only [List.length_take, List.map_cons, List.sum_cons] at this
      omega

noncomputable def rhoW (x : List Nat) (parts texts : List (List Nat)) (often : Nat) : Rho := [(Str.ofString "often", .int often), (Str.ofString "texts", .list (texts.map pS)), (Str.ofString "parts", .list (parts.map pS)), (Str.ofString "word", .str x)]

theorem loopW_for {w : World} {n : Nat} {env : Env} {body : List Stmt} {f : List Nat → Option (List (List Nat) × Nat)} {x : List Nat} {parts tE : List (List Nat)} {oE : Nat}
    (hbody : ∀ (p : List Nat) (k : Nat) (texts more : List (List Nat)) (often each : Nat), parts[k]? = some p → f p = some (more, each) → often < 2 ^ 20 → each < 2 ^ 20 → shortL 6 texts = true → shortL 6 more = true → (mixF texts more).length ≤ 10000 →
      SemK w n env none ((Str.ofString "k", pN k) :: rhoW x parts texts often) [] body (.next (rhoW x parts (mixF texts more) (often * each * (parts.take (k + 1)).count p)) [])) :
    ∀ (ps : List (List Nat)) (k : Nat) (texts : List (List Nat)) (often : Nat), parts.drop k = ps → loopW f parts ps k texts often = some (tE, oE) →
      ForTo w n env none (Str.ofString "k") body ((List.range' k ps.length).map pN) (rhoW x parts texts often) [] (rhoW x parts tE oE) []
  | [], k, texts, often, hd, h => by
    rw [loopW] at h; cases h
    exact .nil
  | p :: ps, k, texts, often, hd, h => by
    rw [loopW] at h
    split at h
    · cases h
    · rename_i more each hf
      split at h
      · rename_i hg
        obtain ⟨g1, g2, g3, g4, g5⟩ := hg
        rw [List.length_cons, List.range'_succ, List.map_cons]
        have hx : parts[k]? = some p := by
          have : (parts.drop k)[0]? = some p := by rw [hd]; rfl
          simpa using this
        exact .cons (hbody p k texts more often each hx hf g1 g2 g3 g4 g5) (loopW_for hbody ps (k + 1) _ _ (by rw [← List.drop_drop, hd]; rfl) h)
      · cases h

theorem three_flat (xs ys : List (List Nat)) : (xs.map pS).flatMap (fun p => (ys.map pS).flatMap fun q => ((weaveF 15 p.s q.s).map pS).flatMap fun r => [pS r.s]) = (mixF xs ys).map pS := by
  unfold mixF
  rw [List.flatMap_map, List.map_flatMap]
  congr 1
  funext x
  rw [List.flatMap_map, List.map_flatMap]
  congr 1
  funext y
  show ((weaveF 15 x y).map pS).flatMap (fun r => [pS r.s]) = _
  rw [List.flatMap_map]
  show (weaveF 15 x y).flatMap (fun a => [pS a]) = _
  rw [List.map_eq_flatMap]

theorem c_weavings (w : World) : ∀ (m : Nat) (x : List Nat) (r : List (List Nat)) (o : Nat), weavF m x = some (r, o) → x.length ≤ 1000 → SemC w (30 + m) (.ref 267) [.str x] (.tup [.list (r.map pS), .int o]) := by
  intro m
  induction m with
  | zero => intro x r o h; cases h
  | succ m ih =>
  intro x r o h hz
  refine SemC.fn (n := 30 + m) (ns := [Str.ofString "word"]) rfl (by kernel_rfl!) rfl ?_ rfl (by decide) ?_ ?_
  · exact len1 fun _ => rfl
  · exact mem1 fun _ => .inr ⟨rfl, rfl⟩
  intro L
  rw [weavF] at h
  refine SemB.ifret (SemT.conv (SemT.cmp (SemE.lenS (SemE.var rfl) (by omega)) SemE.int (CmpR.ltI _ _)) (show _ = decide (x.length < 2) by rw [Bool.eq_iff_iff]; simp; omega)) (fun h1 => ?_) (fun h1 => ?_)
  · rw [if_pos (of_decide_eq_true h1)] at h
    cases h
    exact SemB.consR (SemS.ret (SemE.tupD (SemA.cons (SemE.listD (SemA.cons (SemE.var rfl) SemA.nil) (by simp)) (SemA.cons SemE.int SemA.nil)) (by simp)))
  have h1 := of_decide_eq_false h1
  rw [if_neg h1] at h
  refine SemB.cons (SemS.assign (SemE.callg (g_cut w) (k_cut w) (SemA.cons (SemE.var rfl) SemA.nil) (c_cut w x hz) (by omega)) (.inl rfl)) ?_
  generalize hparts : cutF (x.length + 1) x [] = parts at h ⊢
  have hpl : parts.length ≤ 1000 := by
    split at h
    · omega
    · split at h
      · assumption
      · cases h
  refine SemB.ifret (SemT.conv (SemT.cmp (SemE.lenL (SemE.var rfl) (by simp; omega)) SemE.int (CmpR.eqI _ _)) (show _ = decide (parts.length = 1) by rw [Bool.eq_iff_iff]; simp; omega)) (fun h2 => ?_) (fun h2 => ?_)
  · rw [if_pos (of_decide_eq_true h2)] at h
    split at h
    · cases h
    rename_i rest often hr
    split at h
    case isFalse => cases h
    rename_i hg
    cases h
    obtain ⟨g1, g2⟩ := hg
    match x, h1 with
    | c :: cs, h1 =>
    have hL : ∀ y ∈ rest, y.length ≤ 100 := fun y hy => of_decide_eq_true (List.all_eq_true.mp g2 y hy)
    refine SemB.cons (SemS.assign2 (SemE.callg (g_weavings w) (k_weavings w) (SemA.cons (SemE.slFrom (SemE.var rfl) SemE.int (by decide) (by omega)) SemA.nil) (ih _ _ _ hr (by simp at hz ⊢; omega)) (by omega)) (.inl rfl) (.inl rfl)) ?_
    refine SemB.consR (SemS.ret (SemE.conv (SemE.tupD (SemA.cons (SemE.comp1 (cl := [(Str.ofString "word", L + 1)]) [(Str.ofString "word", .str (c :: cs))] (consP c) (SemI.list (SemE.var rfl)) ?_ (by simp; omega) (one_rho rfl rfl (fun _ => rfl) rfl) (fun n c e => find_sub rfl e) (List.pairwise_singleton _ _)) (SemA.cons (SemE.var rfl) SemA.nil)) (by simp)) ?_))
    · intro C p hp
      obtain ⟨z, hz', rfl⟩ := List.mem_map.mp hp
      have := hL z hz'
      exact SemE.addS (SemE.idxS (SemE.var rfl) SemE.int (k := 0) (by simp [seqIndex?]) rfl (by omega) (by decide)) (SemE.var rfl) (by simp; omega)
    · rw [List.map_map, List.map_map]; rfl
  · rw [if_neg (of_decide_eq_false h2)] at h
    rw [if_pos hpl] at h
    refine SemB.cons (SemS.assign (SemE.listD (ps := [[]].map pS) (SemA.cons SemE.strc SemA.nil) (by simp)) (.inl rfl)) ?_
    refine SemB.cons (SemS.assign SemE.int (.inl rfl)) ?_
    refine SemB.weak (ρ' := rhoW x parts [[]] 1) ?_ (by unfold rhoW; exact sub_rho)
    refine SemB.cons (SemS.ofKS (ρ' := rhoW x parts r o) (ps' := []) (SemKS.for (SemI.range1 (SemA.cons (SemE.lenL (SemE.var rfl) (by simp; omega)) SemA.nil) (by simp; omega) (NameV.bi (g_range w) rfl)) (SemI.cast ?_ (loopW_for (f := weavF m) (fun p k texts more often each hp hf g1 g2 g3 g4 g5 => ?_) parts z0 [[]] 1 rfl h)) (.inl rfl))) (SemB.consR (SemS.ret (SemE.tupD (SemA.cons (SemE.var rfl) (SemA.cons (SemE.var rfl) SemA.nil)) (by simp))))
    · rw [List.length_map, Int.toNat_natCast, List.range_eq_range']; rfl
    · have hk : k < parts.length := (List.getElem?_eq_some_iff.mp hp).1
      have hp' : (parts.map pS)[k]? = some (pS p) := by rw [List.getElem?_map, hp]; rfl
      have hpx : p.length ≤ 1000 := by
        have := cutF_len (x.length + 1) x [] p (by rw [hparts]; exact List.mem_of_getElem? hp)
        simpa using Nat.le_trans this hz
      have hm6 : ∀ y ∈ more, y.length ≤ 6 := fun y hy => of_decide_eq_true (List.all_eq_true.mp g4 y hy)
      have ht6 : ∀ y ∈ texts, y.length ≤ 6 := fun y hy => of_decide_eq_true (List.all_eq_true.mp g3 y hy)
      refine SemK.cons (SemKS.ofS (SemS.assign2 (SemE.callg (g_weavings w) (k_weavings w) (SemA.cons (SemE.idxL (SemE.var rfl) (SemE.var rfl) rfl hp' (by omega)) SemA.nil) (ih _ _ _ hf hpx) (by omega)) (.inr ⟨rfl, rfl⟩) (.inl rfl))) ?_
      have hcl : (parts.take (k + 1)).count p ≤ 1000 := Nat.le_trans List.count_le_length (by simp; omega)
      refine SemK.cons (SemKS.ofS (SemS.assign (SemE.mulI (SemE.mulI (SemE.var rfl) (SemE.var rfl) (IntMulOk.of_left (Nat.le_trans (intBits_le often (by omega)) (by omega)))) (SemE.meth (SemE.conv (SemE.lslTo (SemE.var rfl) (SemE.addI (SemE.var rfl) SemE.int) (by omega) (by simp; omega)) (show _ = P.list ((parts.take (k + 1)).map pS) by rw [List.map_take]; rfl)) (SemA.cons (SemE.idxL (SemE.var rfl) (SemE.var rfl) rfl hp' (by omega)) SemA.nil) PySem.F.plainAttrs_list PySem.F.slot_list_count PySem.F.type_list_count TypeP.list (SemC.count (n := 0)) (by omega)) (IntMulOk.of_right (Nat.le_trans (intBits_le _ (by omega)) (by omega)))) (.inl rfl))) ?_
      have hlm : ((texts.map pS).flatMap fun p => (more.map pS).flatMap fun q => ((weaveF 15 p.s q.s).map pS).flatMap fun r => [pS r.s]).length ≤ 16777216 := by rw [three_flat, List.length_map]; omega
      refine SemK.cons (SemKS.ofS (SemS.assignComp (ρc := [(Str.ofString "more", .list (more.map pS))]) (cl := [(Str.ofString "more", L + 2)]) (g := fun p => (more.map pS).flatMap fun q => ((weaveF 15 p.s q.s).map pS).flatMap fun r => [pS r.s]) (SemI.list (SemE.var rfl)) (fun _ => rfl) rfl (by decide) rfl (by decide) (fun n c e => find_sub rfl e) (List.pairwise_singleton _ _) (one_rho rfl rfl (fun _ => rfl) rfl) (fun C p hp => ?_) hlm (.inl rfl) rfl)) ?_
      · obtain ⟨a, ha, rfl⟩ := List.mem_map.mp hp
        refine SemItem.name rfl rfl (SemRest.nest rfl (SemI.list (SemE.var rfl)) (fun _ => rfl) (fun q hq => ?_))
        obtain ⟨b, hb, rfl⟩ := List.mem_map.mp hq
        have := ht6 a ha
        have := hm6 b hb
        refine SemItem.name rfl rfl (SemRest.nest rfl (SemI.list (SemE.callg (g_weave w) (k_weave w) (SemA.cons (SemE.var rfl) (SemA.cons (SemE.var rfl) SemA.nil)) (c_weave w 15 a b (by omega) (by omega)) (by omega))) (fun _ => rfl) (fun r hr => ?_))
        obtain ⟨c, hc, rfl⟩ := List.mem_map.mp hr
        exact SemItem.name rfl rfl (SemRest.leaf rfl (SemE.var rfl))
      · rw [three_flat]
        refine SemK.weak (ρ' := rhoW x parts (mixF texts more) _) SemK.nil ?_
        unfold rhoW
        push_cast
        exact sub_rho
end Mine
end

section
open PySem PySem.W PyProof.Rows
set_option autoImplicit false
set_option linter.all false
set_option maxRecDepth 100000
namespace Mine
open PySem.Builtin PySem.Builtin.Re

theorem plainAttrs_rePattern : PlainAttrs "re.Pattern" :=
  ⟨⟨"object.__getattribute__", by rw [typeLookup_type, builtinLookup_eq_fast]; kernel_rfl, by decide +kernel⟩, by rw [typeLookup_type, builtinLookup_eq_fast]; kernel_rfl⟩
theorem slot_search : Slot "re.Pattern" (Str.ofString "search") "re.Pattern.search" :=
  .of (owner := "re.Pattern") (n := "search") (by rw [typeLookup_type, builtinLookup_eq_fast]; kernel_rfl) (by decide +kernel) (by decide +kernel) (by decide +kernel)
    (by first | exact .inl (by decide +kernel) | exact .inr (by decide +kernel)) (by rw [isSubtype_type]; kernel_rfl)
theorem type_search : typeOf (.builtin "re.Pattern.search") = pure (.type "method_descriptor") := by show builtinType _ = _; rw [builtinType_eq_fast]; kernel_rfl
theorem entry_search : entryFor table "re.Pattern.search" = some Builtin.«re.Pattern.search» := entryFor_of_tree (by kernel_rfl)
theorem args_search (a b : Value) : argsOk "re.Pattern.search" ⟨[a, b], []⟩ := by unfold argsOk; kernel_rfl

theorem named_search (v : Value) : reNamed "re.Pattern.search" "search" ["string", "pos", "endpos"] 1 [v] [] = pure [some v, none, none] := by rfl

theorem letters_rules {M : Model} {A : Around} {E : Value → Shared → Prop} {s : Shared} {Q : Unit → Shared → Prop} (f : Nat → Sem (ForInStep PUnit)) (hf : ∀ i Q, Q (ForInStep.yield PUnit.unit) s → wpAny M A (f i) Q E s) :
    ∀ l : List Nat, Q () s → wpAny M A (forIn l PUnit.unit (fun i _ => f i)) Q E s
  | [], h => by rw [List.forIn_nil]; exact wpAny_pure h
  | i :: l, h => by
    rw [List.forIn_cons]
    exact wpAny_bind (hf i _ (letters_rules f hf l h))

noncomputable def letter (c : Nat) : Prop := (65 ≤ c ∧ c ≤ 67) ∨ (97 ≤ c ∧ c ≤ 99)

/-- no letter stands in the set of this code -/
noncomputable def NoLetter (code : Array Nat) : Prop := ∀ c, letter c → ∀ seen, ∃ seen', Sre.inSet code c code.size 5 true seen = .ok (false, seen')

theorem admitted_none {m : Sre.M} (hc : NoLetter m.code) (ht : ∀ k, k < m.lim → letter (m.text.getD k 0)) : ∀ (fuel s : Nat) (seen : Sre.Seen), ∃ seen', Sre.M.admitted m fuel s seen = .ok (none, seen')
  | 0, s, seen => ⟨seen, rfl⟩
  | fuel + 1, s, seen => by
    rw [Sre.M.admitted]
    split
    · exact ⟨seen, rfl⟩
    · rename_i h
      obtain ⟨seen', e⟩ := hc _ (ht s (by omega)) seen
      rw [e]
      exact admitted_none hc ht fuel (s + 1) seen'

theorem admitted_is {m : Sre.M} {fuel s : Nat} {seen : Sre.Seen} {r} (h : Sre.M.admitted m fuel s seen = r) (hc : NoLetter m.code) (ht : ∀ k, k < m.lim → letter (m.text.getD k 0)) : ∃ seen', r = .ok (none, seen') := by
  obtain ⟨seen', e⟩ := admitted_none hc ht fuel s seen
  exact ⟨seen', h ▸ e⟩

theorem search_fails {code text : Array Nat} (hc : NoLetter code) (ht : ∀ k, k < text.size → letter (text.getD k 0)) (hh : Sre.header code = (1, (Sre.header code).2)) (hf : ∀ m : Sre.M, m.code = code → m.hasFirstSet = true) :
    ((Sre.forSearch code text 0 0 text.size false).runFor 4).outcome = some .failed := by
  have key : ∀ m : Sre.M, m.frames = [] → m.outcome = none → ((m.say false).runFor 4).outcome = some .failed := by
    intro m h1 h2
    obtain ⟨_, _, _, _, _, _, _, _, _, _, _, _, _, _, _, _, _, _, _, _, _⟩ := m
    dsimp only at h1 h2
    subst h1; subst h2
    rfl
  unfold Sre.forSearch
  rw [hh]
  dsimp only
  split
  · exact key _ rfl rfl
  · unfold Sre.M.attemptFrom
    rw [hf _ rfl]
    simp only [Bool.not_true, Bool.false_eq_true, if_false]
    split
    · rename_i heq
      obtain ⟨_, e⟩ := admitted_is heq hc ht
      cases e
    · exact key _ rfl rfl
    · rename_i heq
      obtain ⟨_, e⟩ := admitted_is heq hc ht
      cases e

theorem wpAny_of_neg {α : Type} {M : Model} {A : Around} {E : Value → Shared → Prop} {s : Shared} {c : Prop} [Decidable c] {x y : Sem α} {Q : α → Shared → Prop} (hc : ¬ c) (h : wpAny M A y Q E s) : wpAny M A (if c then x else y) Q E s := by rw [if_neg hc]; exact h

theorem wpAny_of_pos {α : Type} {M : Model} {A : Around} {E : Value → Shared → Prop} {s : Shared} {c : Prop} [Decidable c] {x y : Sem α} {Q : α → Shared → Prop} (hc : c) (h : wpAny M A x Q E s) : wpAny M A (if c then x else y) Q E s := by rw [if_pos hc]; exact h

theorem answer_none {M : Model} {A : Around} {E : Value → Shared → Prop} {s : Shared} {Q : PySem.Fin → Shared → Prop} {t : ReTarget} {m : Sre.M} (hm : (m.runFor 4).outcome = some .failed) (h : Q (.done (.ret .none)) s) : wpAny M A (reAnswer t m) Q E s := by
  unfold reAnswer reRunToEnd
  refine wpAny_bind (wpAny_bind ?_)
  show wpAny _ _ (reDrive ((2 ^ 64 - 1) + 1) m) _ _ _
  rw [reDrive]
  refine wpAny_of_pos (show (m.runFor 4).outcome.isSome = true by rw [hm]; rfl) ?_
  refine wpAny_pure (wpAny_bind (letters_rules _ (fun i Q hq => ?_) _ ?_))
  · refine wpAny_ite ?_
    split
    · exact wpAny_bind (wpAny_rule (wpAny_pure hq))
    · exact wpAny_pure hq
  · have hm' : (m.runFor reTurnSteps).outcome = some .failed := hm
    rw [hm']
    exact wpAny_pure (wpAny_pure h)

theorem search_walk {prog : Program} {w : World} {A : Around} {E : Value → Shared → Prop} {s : Shared} {Q : Value → Shared → Prop} {p c : Addr} {x : Str} {t u1 : Tok} {v0 : Value} {cs : Array Value} {k : Nat} {cls : Value}
    (hp : s.heap.get? p = some { cls := .type "re.Pattern", data := .fields #[v0, .int 32 u1, .int 0 0, .none, .none, .ref c, .int 0 0] }) (hcd : s.heap.get? c = some { cls := cls, data := .seq cs k })
    (hfail : ((Sre.forSearch ((cs.map reRawOf).map (·.toNat)) x.cps 0 0 x.cps.size false).runFor 4).outcome = some .failed) (hx : x.cps.size < 2 ^ 62) (h : Q .none s) :
    wpAny (model prog w) A (call (.builtin "re.Pattern.search") [.ref p, .str x t]) Q E s := by
  refine wpAny_call_entry slot_search ⟨_, hp, rfl⟩ entry_search ?_ (args_search _ _)
  show wpAny _ _ (reTarget "re.Pattern.search" "search" _ >>= fun t => reAnswer t _) _ _ _
  refine wpAny_bind ?_
  unfold reTarget
  dsimp only
  rw [named_search]
  refine wpAny_bind (wpAny_pure ?_)
  dsimp only
  refine wpAny_bind (wpAny_pure (wpAny_bind (wpAny_pure (wpAny_bind (wpAny_fieldsOf hp rfl ?_)))))
  refine wpAny_bind (wpAny_bind (wpAny_pure ?_))
  dsimp only
  refine wpAny_pure ?_
  refine wpAny_of_neg (by show ¬ ((0 : Nat) == 0 && (0 : Nat) == 1) = true; decide) (wpAny_of_neg (by show ¬ ((0 : Nat) == 1 && (0 : Nat) == 0) = true; decide) ?_)
  refine wpAny_bind (wpAny_pure (wpAny_bind (wpAny_bind (wpAny_seqItems hcd rfl (wpAny_pure (wpAny_pure ?_))))))
  have hlim : Min.min ((2 ^ 63 - 1 : Int).toNat) x.cps.size = x.cps.size := by omega
  have h0 : Min.min (Int.toNat 0) x.cps.size = 0 := by omega
  dsimp only [Option.getD_some]
  rw [hlim, h0]
  exact answer_none hfail ⟨_, rfl, h⟩
end Mine
end

section
open PySem PySem.W PyProof.Rows
set_option autoImplicit false
set_option linter.all false
set_option maxRecDepth 100000
namespace Mine
open PySem.Builtin PySem.Builtin.Re

/-- the code's words -/
noncomputable def codeOf (cs : Array Value) : Array Nat := (cs.toList.map fun v => (reRawOf v).toNat).toArray
theorem codeOf_eq (cs : Array Value) : (cs.map reRawOf).map (·.toNat) = codeOf cs := by
  unfold codeOf
  apply Array.toList_inj.mp
  simp

structure PatAt (w : World) (p : Addr) : Prop where
  at_ : ∃ v0 u1 c cls cs k, (KK w).lookup p = some { cls := .type "re.Pattern", data := .fields #[v0, .int 32 u1, .int 0 0, .none, .none, .ref c, .int 0 0] } ∧ (KK w).lookup c = some { cls := cls, data := .seq cs k } ∧
    NoLetter (codeOf cs) ∧ Sre.header (codeOf cs) = (1, (Sre.header (codeOf cs)).2) ∧ ∀ m : Sre.M, m.code = (codeOf cs) → m.hasFirstSet = true

theorem letter_cases {c : Nat} (h : letter c) : c = 65 ∨ c = 66 ∨ c = 67 ∨ c = 97 ∨ c = 98 ∨ c = 99 := by
  unfold letter at h; omega
theorem pat90 (w : World) : PatAt w 90 := by
  refine ⟨_, _, _, _, _, _, rfl, rfl, ?_, rfl, ?_⟩
  · intro c hc seen
    rcases letter_cases hc with rfl | rfl | rfl | rfl | rfl | rfl <;> exact ⟨_, rfl⟩
  · intro m hm
    unfold Sre.M.hasFirstSet
    rw [hm]
    rfl
theorem pat95 (w : World) : PatAt w 95 := by
  refine ⟨_, _, _, _, _, _, rfl, rfl, ?_, rfl, ?_⟩
  · intro c hc seen
    rcases letter_cases hc with rfl | rfl | rfl | rfl | rfl | rfl <;> exact ⟨_, rfl⟩
  · intro m hm
    unfold Sre.M.hasFirstSet
    rw [hm]
    rfl

theorem c_search {w : World} {n : Nat} {p : Addr} (hp : PatAt w p) {x : List Nat} (hx : ∀ c ∈ x, letter c) (hz : x.length ≤ 1000) : SemC w n (.builtin "re.Pattern.search") [.val (.ref p), .str x] .none := by
  intro A X s vs Q E room g xo r k
  cases r with
  | cons r1 r =>
  cases r with
  | cons r2 r =>
  cases r; cases r1; cases r2
  obtain ⟨v0, u1, c, cls, cs, kk, h1, h2, h3, h4, h5⟩ := hp.at_
  refine search_walk (g.kin _ _ h1) (g.kin _ _ h2) (codeOf_eq cs ▸ search_fails h3 (fun k hk => ?_) h4 h5) (by simp; omega) (k _ _ (.refl s) .none)
  have hk' : k < x.length := by simpa using hk
  have : x.toArray.getD k 0 = x[k] := by simp [hk']
  rw [this]
  exact hx _ (List.getElem_mem hk')
end Mine
end

section
open PySem PySem.W PyProof.Rows
set_option autoImplicit false
set_option linter.all false
set_option maxRecDepth 100000
namespace Mine

noncomputable def retOf (fl : Flow) : Value := match fl with | .ret v => v | _ => .none

theorem enterC {w : World} {n : Nat} {f : Addr} {oc : Value} {od : Option Addr} {osl : Array (Option Value)} {fd : FuncData} {ns : List Str} {ps : List P} {body : List Stmt} {A : Around} {X : Addr → Prop} {s : Shared} {pos : List Value} {kw : List (Str × Value)} {R : Result → Shared → Prop}
    (room : Room A (n + 1)) (g : G w s.heap) (xo : XOk s.heap X) (ho : (KK w).lookup f = some ⟨oc, od, .func fd, osl⟩) (hcd : codeIn (KK w) fd.code fd.qualname = true) (hbody : fd.body = .stmts body)
    (hb : ∀ (M : Model) (A' : Around) (Q' : List (Str × Value) → Shared → Prop) (E' : Value → Shared → Prop), (∀ vs s₁, Ext s s₁ → s.heap.objs.size ≤ s₁.heap.objs.size → Reps s₁.heap X vs ps → Q' (ns.zip vs) s₁) → wpAny M A' (bindArgs fd ⟨pos, kw⟩) Q' E' s)
    (hlen : ns.length = ps.length) (hnd : ns.Nodup) (hkind : ∀ k, ∀ x ∈ ns, fd.scope.names.lookup x = some .local ∨ (fd.scope.names.lookup x = some .cell ∧ ((cellsFrom k fd.scope.names []).lookup x).isSome = true))
    (h : ∀ L X' s₁ E', s.heap.objs.size ≤ L → (∀ b, X' b ↔ X b ∨ own (callEnvC fd L f) b) → (∀ b o, s.heap.get? b = some o → ¬ own (callEnvC fd L f) b) → Ext s s₁ → Ok w n (callEnvC fd L f) (ns.zip ps) (A.deeper (callEnvC fd L f)) X' s₁ →
      wpAny (model pr w) (A.deeper (callEnvC fd L f)) (execs body (callEnvC fd L f)) (fun fl s' => R (.ok (.ret (retOf fl))) s') E' s₁)
    (hclo : fd.closure = [] := by rfl) (hg : fd.globals = mainGlobals := by rfl) (hbi : fd.builtins = builtinsNs := by rfl)
    (hco : fd.scope.isCoroutine = false := by rfl) (hgen : fd.scope.isGenerator = false := by rfl) (hk : fd.scope.kind = .function := by rfl) : codeAny (model pr w) A (.call (.ref f) ⟨pos, kw⟩) R s := by
  refine (codeAny_call_function (by have := room.dp; omega) (g.kin _ _ ho) rfl hco hgen hbody (codeRec_of g.kin hcd) (hb _ _ _ _ fun vs s₀ e₀ hsize r => ?_))
  rw [hclo]
  have hnames : (ns.zip vs).map (·.1) = ns := List.map_fst_zip (by rw [hlen, r.length]; exact Nat.le_refl _)
  refine wpAny_newFunctionEnv_cells hk (fun x hx => hkind _ x.1 (List.of_mem_zip hx).1) fun env he s₁ x => ?_
  have he' : env = callEnvC fd s₀.heap.objs.size f := he
  subst he'
  have hkeep := x.toInCall.keep
  have hsz : ∀ b, own (callEnvC fd s₀.heap.objs.size f) b → s₀.heap.objs.size ≤ b := fun b hb => by
    rcases hb with hb | ⟨m, hm⟩
    · exact Nat.le_of_eq hb.symm
    · exact Nat.le_of_lt (x.above m b (mem_of_lookup hm))
  have hnotown : ∀ b o, s₀.heap.get? b = some o → ¬ own (callEnvC fd s₀.heap.objs.size f) b := fun b o e q => absurd (Heap.lt_size e) (Nat.not_lt.mpr (hsz b q))
  have g₀ := g.keeps e₀.keep
  have ok : Ok w n (callEnvC fd s₀.heap.objs.size f) (ns.zip ps) (A.deeper (callEnvC fd s₀.heap.objs.size f)) (fun b => X b ∨ own (callEnvC fd s₀.heap.objs.size f) b) s₁ := by
    refine ⟨room.deeper, g₀.keeps hkeep, ⟨hk, hg, hbi, ⟨_, x.toInCall.ns⟩, .inr (.inl rfl), fun m c e => ⟨.inr (.inr ⟨m, e⟩), fun q => ?_, ⟨_, x.cell m c e⟩⟩, x.apart, ⟨fun b hb => ?_, fun b hb => ?_⟩⟩, fun y p e => ?_⟩
    · have := x.above m c (mem_of_lookup e)
      rw [q] at this; exact Nat.lt_irrefl _ this
    · exact hb.elim (xo.high b) fun q => Nat.le_trans g₀.high (hsz b q)
    · rcases hb with hb | hb | ⟨m, hm⟩
      · obtain ⟨o, e⟩ := xo.live b hb
        exact ⟨o, hkeep _ _ (e₀.keep _ _ e)⟩
      · obtain ⟨o, _, _, e, _⟩ := x.toInCall.ns
        exact ⟨o, hb ▸ e⟩
      · obtain ⟨o, e, _⟩ := x.cell m b hm
        exact ⟨o, e⟩
    · obtain ⟨v, hv, rv⟩ := zip_lookup r y p e
      have rv' : Rep s₁.heap (fun b => X b ∨ own (callEnvC fd s₀.heap.objs.size f) b) v p := rv.mono fun b o nx e => ⟨hkeep b o e, fun q => q.elim nx (hnotown b o e)⟩
      have hkn : (callEnvC fd s₀.heap.objs.size f).kindOf y = fd.scope.names.lookup y := rfl
      rcases hkind (s₀.heap.objs.size + 1) y (List.of_mem_zip hv).1 with hl | ⟨hl, hc⟩
      · exact .loc (by rw [hkn]; exact hl) x.toInCall.ns (bindL_hit _ _ _ y v (by rw [hnames]; exact hnd) hv (by rw [hkn]; exact hl)) rv'
      · obtain ⟨c, hc⟩ := Option.isSome_iff_exists.mp hc
        refine .cell (c := c) (by rw [hkn]; exact hl) hc ?_ rv'
        have := x.cell y c hc
        rwa [bindC_hit _ _ _ y v (by rw [hnames]; exact hnd) hv (by rw [hkn, hl]; decide)] at this
  have e₁ : Ext s s₁ := e₀.trans ⟨by
    obtain ⟨h₁, tk₁, rfl⟩ := x.toInCall.same
    exact ⟨h₁, tk₁, rfl⟩, hkeep⟩
  refine ⟨(g.nolimit.keeps e₁.keep), codeAny_func ?_⟩
  exact wpAny_mono (h s₀.heap.objs.size _ s₁ _ hsize (fun b => Iff.rfl) (fun b o e => hnotown b o (e₀.keep _ _ e)) e₁ ok) (fun fl s' hq => hq) fun _ _ e => e

theorem enter {w : World} {n : Nat} {f : Addr} {oc : Value} {od : Option Addr} {osl : Array (Option Value)} {fd : FuncData} {ns : List Str} {ps : List P} {body : List Stmt} {A : Around} {X : Addr → Prop} {s : Shared} {pos : List Value} {kw : List (Str × Value)} {Q : Value → Shared → Prop} {E : Value → Shared → Prop}
    (room : Room A (n + 1)) (g : G w s.heap) (xo : XOk s.heap X) (ho : (KK w).lookup f = some ⟨oc, od, .func fd, osl⟩) (hcd : codeIn (KK w) fd.code fd.qualname = true) (hbody : fd.body = .stmts body)
    (hb : ∀ (M : Model) (A' : Around) (Q' : List (Str × Value) → Shared → Prop) (E' : Value → Shared → Prop), (∀ vs s₁, Ext s s₁ → s.heap.objs.size ≤ s₁.heap.objs.size → Reps s₁.heap X vs ps → Q' (ns.zip vs) s₁) → wpAny M A' (bindArgs fd ⟨pos, kw⟩) Q' E' s)
    (hlen : ns.length = ps.length) (hnd : ns.Nodup) (hkind : ∀ k, ∀ x ∈ ns, fd.scope.names.lookup x = some .local ∨ (fd.scope.names.lookup x = some .cell ∧ ((cellsFrom k fd.scope.names []).lookup x).isSome = true))
    (h : ∀ L X' s₁ E', s.heap.objs.size ≤ L → (∀ b, X' b ↔ X b ∨ own (callEnvC fd L f) b) → (∀ b o, s.heap.get? b = some o → ¬ own (callEnvC fd L f) b) → Ext s s₁ → Ok w n (callEnvC fd L f) (ns.zip ps) (A.deeper (callEnvC fd L f)) X' s₁ →
      wpAny (model pr w) (A.deeper (callEnvC fd L f)) (execs body (callEnvC fd L f)) (fun fl s' => Q (retOf fl) s') E' s₁)
    (hclo : fd.closure = [] := by rfl) (hg : fd.globals = mainGlobals := by rfl) (hbi : fd.builtins = builtinsNs := by rfl)
    (hco : fd.scope.isCoroutine = false := by rfl) (hgen : fd.scope.isGenerator = false := by rfl) (hk : fd.scope.kind = .function := by rfl) : wpAny (model pr w) A (PySem.call (.ref f) pos kw) Q E s :=
  wpAny_call (enterC room g xo ho hcd hbody hb hlen hnd hkind h hclo hg hbi hco hgen hk)
end Mine
end

section
open PySem PySem.W PyProof.Rows
set_option autoImplicit false
set_option linter.all false
set_option maxRecDepth 100000
namespace Mine
section
variable {w : World} {n : Nat} {env : Env} {ρ : Rho}

theorem CmpR.isT {a : Value} (hp : plainIs a a = true) : CmpR w n .Is (.val a) (.val a) true := fun A X s Q E x y _ rx ry k => by
  cases rx; cases ry; exact wpAny_is_self hp (k _ (.refl s))
theorem CmpR.isNotT {a : Value} (hp : plainIs a a = true) : CmpR w n .IsNot (.val a) (.val a) false := fun A X s Q E x y _ rx ry k => by
  cases rx; cases ry; exact wpAny_isNot_self hp (k _ (.refl s))
theorem CmpR.strNotNone {x : List Nat} : CmpR w n .IsNot (.str x) .none true := fun A X s Q E a c _ ra rc k => by
  cases ra; cases rc; exact isnot_str_none (k _ (.refl s))
theorem CmpR.noneIsNone : CmpR w n .IsNot .none .none false := fun A X s Q E a c _ ra rc k => by
  cases ra; cases rc; exact wpAny_isNot_self rfl (k _ (.refl s))
theorem SemC.typeOf {T : String} {p : P} (hT : TypeP T p) (hnb : (Value.type T == Value.type "builtin_function_or_method") = false) : SemC w n (.type "type") [p] (.val (.type T)) := by
  intro A X s vs Q E room g xo r k
  cases r with
  | cons a r => cases r; exact call_type_of (hT X s _ a).1 hnb (k _ _ (.refl s) (.val _))
theorem SemE.nameV {x : Str} {pos : Pos} {f : Value} (h : NameV w n env ρ x f) : SemE w n env ρ (.Name x pos) (.val f) := fun A X s Q E ok k => h A X s Q E pos ok (k _ _ (.refl s) (.val f))
theorem SemT.ofNone {e : Expr} (h : SemE w n env ρ e .none) (he : ∀ whole, isTrue e env whole = (do let v ← whole; standAt e.pos; holding [v] (truthy v)) := by intro _; rfl) : SemT w n env ρ e false := by
  intro A X s Q E ok k
  refine isTrue_plain (h A X s _ E ok fun v s₁ e₁ rv => ?_) (he _)
  cases rv
  exact PyProof.Rows.truthy_none (k _ e₁)

/-- the class of the table -/
structure ClassOk (w : World) : Prop where
  ga : findIn (KK w) (.ref 224) "__getattribute__" = some (some (.builtin "object.__getattribute__"))
  gat : findIn (KK w) (.ref 224) "__getattr__" = some none
  hd : hasDictIn (KK w) 224 = true
  ah : findIn (KK w) (.ref 224) (Str.ofString "_headers") = some none
theorem classOk (w : World) : ClassOk w := ⟨by kernel_rfl!, by kernel_rfl!, by kernel_rfl!, by kernel_rfl!⟩

/-- a method of the table's class -/
structure MethAt (w : World) (name : Str) (f : Addr) : Prop where
  fnd : findIn (KK w) (.ref 224) name = some (some (.ref f))
  ty : typeIn (KK w) (.ref f) = some (.type "function")
  ne : (Str.ofString "_headers" == name) = false
  keep : keepIn (KK w) (.ref f) = true

theorem shadow {l : Addr} {hs : Int} {t : Tok} {k : Nat} {name : Str} (h : (Str.ofString "_headers" == name) = false) : shadowIn (some (dictOf [⟨hs, .str (Str.ofString "_headers") t, .ref l⟩] k)) name = some false := by
  show (lookIn name (dictOf [⟨hs, .str (Str.ofString "_headers") t, .ref l⟩] k)).map (·.isSome) = _
  rw [lookIn_dict]
  have hk : (Value.str (Str.ofString "_headers") t).isStr name = false := h
  simp [getL, hk, DictEntry.refKey]

theorem attr_any {A : Around} {E : Value → Shared → Prop} {s : Shared} {x dx l : Addr} {hs : Int} {t : Tok} {k : Nat} {Q : Value → Shared → Prop} {ex : Bool} (g : G w s.heap) (h1 : s.heap.get? x = some (instObj 224 dx)) (h2 : s.heap.get? dx = some (dictOf [⟨hs, .str (Str.ofString "_headers") t, .ref l⟩] k))
    (h : Q (.ref l) { s with toks := s.toks + 1 }) : wpAny (model pr w) A (getAttr (.ref x) (Str.ofString "_headers") ex) Q E s :=
  get_value (ox := instObj 224 dx) (C := 224) (od := some (dictOf [⟨hs, .str (Str.ofString "_headers") t, .ref l⟩] k)) g.kin ⟨h1, rfl, rfl, h2⟩ (classOk w).ga (findObj_own (v := .ref l) (classOk w).hd (classOk w).ah (by kernel_rfl!) (by rw [lookIn_dict]; have hk : (Value.str (Str.ofString "_headers") t).isStr (Str.ofString "_headers") = true := (show (Str.ofString "_headers" == Str.ofString "_headers") = true by decide); simp [getL, hk])) rfl h

theorem meth_any {A : Around} {E : Value → Shared → Prop} {s : Shared} {x dx l : Addr} {hs : Int} {t : Tok} {k : Nat} {name : Str} {f : Addr} {pl : Sem Bool} {Q : Value × List Value → Shared → Prop} (g : G w s.heap) (M : MethAt w name f) (h1 : s.heap.get? x = some (instObj 224 dx)) (h2 : s.heap.get? dx = some (dictOf [⟨hs, .str (Str.ofString "_headers") t, .ref l⟩] k))
    (h : Q (.ref f, [.ref x]) s) : wpAny (model pr w) A (getMethod (.ref x) name pl) Q E s :=
  method_fn (ox := instObj 224 dx) (C := 224) (od := some (dictOf [⟨hs, .str (Str.ofString "_headers") t, .ref l⟩] k)) g.kin ⟨h1, rfl, rfl, h2⟩ (classOk w).ga (classOk w).gat M.fnd M.ty (shadow M.ne) h
end
end Mine
end

section
open PySem PySem.W PyProof.Rows
set_option autoImplicit false
set_option linter.all false
set_option maxRecDepth 100000
namespace Mine

/-- p is a table -/
noncomputable def InstP (p : P) : Prop := ∀ (h : Heap) (X : Addr → Prop) (v : Value), Rep h X v p → ∃ x dx l hs t k, v = .ref x ∧ h.get? x = some (instObj 224 dx) ∧ h.get? dx = some (dictOf [⟨hs, .str (Str.ofString "_headers") t, .ref l⟩] k)
theorem InstP.hdr {l : List P} : InstP (.hdr l) := fun h X v r => by cases r with | hdr h1 h2 _ _ _ _ _ => exact ⟨_, _, _, _, _, _, rfl, h1, h2⟩
theorem InstP.tab {l : Addr} : InstP (.tab l) := fun h X v r => by cases r with | tab h1 h2 _ _ => exact ⟨_, _, _, _, _, _, rfl, h1, h2⟩

/-- a call with one keyword -/
noncomputable def SemCk (w : World) (n : Nat) (f : Addr) (ps : List P) (k : Str) (pk : P) (q : P) : Prop :=
  ∀ (A : Around) (X : Addr → Prop) (s : Shared) (vs : List Value) (v : Value) (Q : Value → Shared → Prop) (E : Value → Shared → Prop), Room A n → G w s.heap → XOk s.heap X → Reps s.heap X vs ps → Rep s.heap X v pk →
    (∀ v s', Ext s s' → Rep s'.heap X v q → Q v s') → wpAny (model pr w) A (PySem.call (.ref f) vs [(k, v)]) Q E s

section
variable {w : World} {n : Nat} {env : Env} {ρ : Rho}
theorem instCall {o : Expr} {name : Str} {apos pos : Pos} {args : List Expr} {kws : List Keyword} {f : Addr} {p : P} {pl : Sem Bool} {A : Around} {X : Addr → Prop} {s : Shared} {Q : Value → Shared → Prop} {E : Value → Shared → Prop} (ok : Ok w n env ρ A X s) (ho : SemE w n env ρ o p) (hp : InstP p) (M : MethAt w name f)
    (hev : eval (.Call (.Attribute o name apos) args kws pos) env = (do
      let ov ← eval o env
      standAt apos.atName
      let (f, first) ← holding [ov] (getMethod ov name pl)
      callWith pos f first (backTo pos (starEach args env)) (backToKw pos (keywordEach kws env))))
    (k : ∀ x s₁, Ext s s₁ → Rep s₁.heap X (.ref x) p → wpAny (model pr w) A (callWith pos (.ref f) [.ref x] (backTo pos (starEach args env)) (backToKw pos (keywordEach kws env))) Q E s₁) :
    wpAny (model pr w) A (eval (.Call (.Attribute o name apos) args kws pos) env) Q E s := by
  refine methodCall_KW (pl := pl) (ho A X s _ E ok fun v s₁ e₁ r => ?_) hev
  obtain ⟨x, dx, l, hs, t, kk, rfl, h1, h2⟩ := hp _ _ _ r
  exact meth_any (ok.ext e₁).g M h1 h2 (k x s₁ e₁ r)

theorem SemE.imethK {m : Nat} {o e ke : Expr} {name k : Str} {apos pos : Pos} {kw : Keyword} {f : Addr} {p pa pk q : P} {pl : Sem Bool} (ho : SemE w n env ρ o p) (hp : InstP p) (M : MethAt w name f) (he : SemE w n env ρ e pa) (hk : SemE w n env ρ ke pk)
    (h : SemCk w m f [p, pa] k pk q) (hm : m ≤ n)
    (hkw : backToKw pos (keywordEach [kw] env) = [(some k, do let v ← eval ke env; standAt pos; pure v)] := by rfl) (hse : starEach [e] env = [(false, eval e env)] := by rfl)
    (hev : eval (.Call (.Attribute o name apos) [e] [kw] pos) env = (do
      let ov ← eval o env
      standAt apos.atName
      let (f, first) ← holding [ov] (getMethod ov name pl)
      callWith pos f first (backTo pos (starEach [e] env)) (backToKw pos (keywordEach [kw] env))) := by rfl) : SemE w n env ρ (.Call (.Attribute o name apos) [e] [kw] pos) q := by
  intro A X s Q E ok kQ
  refine instCall ok ho hp M hev fun x s₁ e₁ r => ?_
  refine callWith_KW (K := KK w) (h₀ := s₁.heap) (ok.ext e₁).g.kin M.keep (by rw [hkw]; rfl) ?_ (by rw [hkw, hse]; rfl) hse
  refine args_cons (he A X s₁ _ E (ok.ext e₁) fun v s₂ e₂ rv => args_nil ?_) hse
  rw [hkw]
  refine wpAny_evalAll_cons (wpAny_bind (hk A X s₂ _ E ((ok.ext e₁).ext e₂) fun u s₃ e₃ ru => wpAny_bind (wpAny_standAt (wpAny_pure (wpAny_evalAll_nil ?_)))))
  have ok₃ := ((ok.ext e₁).ext e₂).ext e₃
  refine ⟨ok₃.g.kin, ?_⟩
  exact h A X s₃ [.ref x, v] u Q E (ok₃.room.le hm) ok₃.g ok₃.f.x (.cons ((r.ext e₂).ext e₃) (.cons (rv.ext e₃) .nil)) ru fun v' s' e' rv' => kQ v' s' (((e₁.trans e₂).trans e₃).trans e') rv'
end

/-- regex.search(text) -/
theorem SemE.methV {w : World} {n m : Nat} {env : Env} {ρ : Rho} {o e : Expr} {apos pos : Pos} {q : Addr} {pa r : P} (hpat : PatAt w q) (ho : SemE w n env ρ o (.val (.ref q))) (he : SemE w n env ρ e pa) (hc : SemC w m (.builtin "re.Pattern.search") [.val (.ref q), pa] r) (hm : m ≤ n)
    (hbase : attributeBase o (Str.ofString "search") env (eval o env) = eval o env := by rfl) (hs : starEach [e] env = [(false, eval e env)] := by rfl) (hline : (apos.endLine == pos.line) = true := by rfl) :
    SemE w n env ρ (.Call (.Attribute o (Str.ofString "search") apos) [e] [] pos) r := by
  intro A X s Q E ok k
  refine Call_method1 hbase hs hline (ho A X s _ E ok fun ov s₁ e₁ r => ?_)
  cases r
  obtain ⟨v0, u1, c, cls, cs, kk, h1, h2, h3, h4, h5⟩ := hpat.at_
  have hob := (ok.ext e₁).g.kin _ _ h1
  refine ⟨"re.Pattern", "re.Pattern.search", plainAttrs_rePattern, slot_search, type_search, ⟨_, hob, rfl⟩, (fun b e => by cases e; exact ⟨_, hob, rfl⟩), ?_⟩
  refine Calls.callWith_builtin rfl (Calls.evalArgs_plain (Calls.spliced_cons (he A X s₁ _ E (ok.ext e₁) fun v s₂ e₂ rv => Calls.spliced_nil ?_)))
  exact hc A X s₂ _ Q E (ok.room.le hm) ((ok.ext e₁).ext e₂).g (ok.f.x.keeps (e₁.trans e₂).keep) (.cons (.val _) (.cons rv .nil)) fun v' s' e' r' => k v' s' ((e₁.trans e₂).trans e') r'

theorem m_convert (w : World) : MethAt w (Str.ofString "_convert_string_type") 125 := ⟨by kernel_rfl!, by kernel_rfl!, by decide, by kernel_rfl!⟩
theorem g_type (w : World) : nsIn (KK w) mainGlobals (Str.ofString "type") = some none := by kernel_rfl!
theorem g_str (w : World) : nsIn (KK w) mainGlobals (Str.ofString "str") = some none := by kernel_rfl!
theorem g_nre (w : World) : nsIn (KK w) mainGlobals (Str.ofString "_name_disallowed_re") = some (some (.ref 90)) := by kernel_rfl!
theorem g_vre (w : World) : nsIn (KK w) mainGlobals (Str.ofString "_value_disallowed_re") = some (some (.ref 95)) := by kernel_rfl!

theorem enterB {w : World} {n : Nat} {f : Addr} {oc : Value} {od : Option Addr} {osl : Array (Option Value)} {fd : FuncData} {ns : List Str} {ps : List P} {body : List Stmt} {A : Around} {X : Addr → Prop} {s : Shared} {pos : List Value} {kw : List (Str × Value)} {q : P} {Q : Value → Shared → Prop} {E : Value → Shared → Prop}
    (room : Room A (n + 1)) (g : G w s.heap) (xo : XOk s.heap X) (ho : (KK w).lookup f = some ⟨oc, od, .func fd, osl⟩) (hcd : codeIn (KK w) fd.code fd.qualname = true) (hbody : fd.body = .stmts body)
    (hb : ∀ (M : Model) (A' : Around) (Q' : List (Str × Value) → Shared → Prop) (E' : Value → Shared → Prop), (∀ vs s₁, Ext s s₁ → s.heap.objs.size ≤ s₁.heap.objs.size → Reps s₁.heap X vs ps → Q' (ns.zip vs) s₁) → wpAny M A' (bindArgs fd ⟨pos, kw⟩) Q' E' s)
    (hlen : ns.length = ps.length) (hnd : ns.Nodup) (hkind : ∀ k, ∀ x ∈ ns, fd.scope.names.lookup x = some .local ∨ (fd.scope.names.lookup x = some .cell ∧ ((cellsFrom k fd.scope.names []).lookup x).isSome = true))
    (h : ∀ L, SemB w n (callEnvC fd L f) (ns.zip ps) body (.ret q)) (k : ∀ v s', Ext s s' → Rep s'.heap X v q → Q v s')
    (hclo : fd.closure = [] := by rfl) (hg : fd.globals = mainGlobals := by rfl) (hbi : fd.builtins = builtinsNs := by rfl)
    (hco : fd.scope.isCoroutine = false := by rfl) (hgen : fd.scope.isGenerator = false := by rfl) (hk : fd.scope.kind = .function := by rfl) : wpAny (model pr w) A (PySem.call (.ref f) pos kw) Q E s := by
  refine enter room g xo ho hcd hbody hb hlen hnd hkind (fun L X' s₁ E' _ hX hno e₁ ok => ?_) hclo hg hbi hco hgen hk
  refine h L _ _ s₁ _ _ ok fun v s' e rv => k v s' ⟨Same.trans e₁.same e.same, fun b o eb => e.keep b o (hno b o eb) (e₁.keep b o eb)⟩ (rv.mono fun b o nx e => ⟨e, fun q => nx ((hX b).mpr (.inl q))⟩)

theorem c_convert (w : World) (p : P) (x : List Nat) (b : Bool) (hx : ∀ c ∈ x, letter c) (hz : x.length ≤ 1000) : SemCk w 2 125 [p, .str x] (Str.ofString "name") (.bool b) (.str x) := by
  intro A X s vs v Q E room g xo r rk k
  cases r with
  | @cons v0 _ _ _ r0 r =>
  cases r with
  | @cons v1 _ _ _ r1 r =>
  cases r
  refine enterB (n := 1) (q := .str x) (ns := [Str.ofString "self", Str.ofString "value", Str.ofString "name"]) (ps := [p, .str x, .bool b]) room g xo rfl (by kernel_rfl!) rfl ?_ rfl (by decide) ?_ (fun L => ?_) k
  · intro M A' Q' E' h
    exact wpAny_of_eq (show _ = pure [(Str.ofString "self", v0), (Str.ofString "value", v1), (Str.ofString "name", v)] from rfl) (h [v0, v1, v] s (.refl s) (Nat.le_refl _) (.cons r0 (.cons r1 (.cons rk .nil))))
  · intro k y hy
    simp only [List.mem_cons, List.mem_nil_iff, or_false] at hy
    rcases hy with rfl | rfl | rfl <;> exact .inl rfl
  · refine SemB.consR (SemS.ite (b := true) (SemT.cmp (SemE.call (NameV.bi (g_type w) rfl) callable_ty (SemA.cons (SemE.var rfl) SemA.nil) (SemC.typeOf (n := 0) (TypeP.str (x := x)) (by decide)) (by omega)) (SemE.nameV (NameV.bi (g_str w) rfl)) (CmpR.isT rfl)) (fun _ => ?_) (fun h => by cases h))
    cases b with
    | true =>
      refine SemB.cons (SemS.assign (SemE.ifexp (SemT.ofBool (SemE.var rfl)) (fun _ => SemE.nameV (NameV.glob (g_nre w))) (fun h => by cases h)) (.inl rfl)) ?_
      refine SemB.cons (SemS.ite (b := false) (SemT.ofNone (SemE.methV (pat90 w) (SemE.var rfl) (SemE.var rfl) (c_search (n := 0) (pat90 w) hx hz) (by omega))) (fun h => by cases h) (fun _ => SemB.nil)) ?_
      exact SemB.consR (SemS.ret (SemE.var rfl))
    | false =>
      refine SemB.cons (SemS.assign (SemE.ifexp (SemT.ofBool (SemE.var rfl)) (fun h => by cases h) (fun _ => SemE.nameV (NameV.glob (g_vre w)))) (.inl rfl)) ?_
      refine SemB.cons (SemS.ite (b := false) (SemT.ofNone (SemE.methV (pat95 w) (SemE.var rfl) (SemE.var rfl) (c_search (n := 0) (pat95 w) hx hz) (by omega))) (fun h => by cases h) (fun _ => SemB.nil)) ?_
      exact SemB.consR (SemS.ret (SemE.var rfl))
end Mine
end

section
open PySem PySem.W PyProof.Rows
set_option autoImplicit false
set_option linter.all false
set_option maxRecDepth 100000
namespace Mine
section
variable {w : World} {n T : Nat} {env : Env} {ρ : Rho}

/-- self._headers -/
theorem SemE.attrH {o : Expr} {pos : Pos} {l : List P} (ho : SemE w n env ρ o (.hdr l)) (hbase : attributeBase o (Str.ofString "_headers") env (eval o env) = eval o env := by rfl) (hgo : ∀ a b, letTemporaryGo o a b = pure () := by intro _ _; rfl) :
    SemE w n env ρ (.Attribute o (Str.ofString "_headers") pos) (.list l) := by
  intro A X s Q E ok k
  rw [arm_eval_Attribute, hbase]
  refine wpAny_bind (ho A X s _ E ok fun v s₁ e₁ r => wpAny_bind (wpAny_standAt ?_))
  cases r with
  | @hdr x dx a hs t vs m c ps h1 h2 h3 x1 x2 x3 r =>
  refine wpAny_bind (wpAny_holding (attr_any (ok.ext e₁).g h1 h2 (wpAny_bind (wpAny_of_eq (hgo _ _) (wpAny_pure ?_)))))
  exact k _ _ (e₁.trans (.tok s₁ _)) (.list h3 x3 r)

/-- a target of two names -/
theorem SemItem.tup2 {cenv : Env} {elt : Expr} {gens : List Comprehension} {scope : Scope} {pos : Pos} {d : Nat} {ifs : List Expr} {x y : Str} {px py tp : Pos} {k0 : _} {p q : P} {outs : List P} (hx : cenv.kindOf x = some .local) (hy : cenv.kindOf y = some .local) (hρx : ρ.lookup x = none) (hρy : ρ.lookup y = none)
    (h : SemRest w n cenv ((y, q) :: (x, p) :: ρ) T elt gens scope pos d ifs outs) : SemItem w n cenv ρ T elt gens scope pos d (.Tuple [.Name x px, .Name y py] k0 tp) ifs (.tup [p, q]) outs := by
  intro A X s D I ys k v Q E ok hT hD hDC hl hz r ht hQ
  rw [tailT_rest]
  refine wpAny_bind (ht.go (wpAny_bind ?_))
  cases r with
  | @tup a vs ne _ ho hx' r =>
  cases r with
  | @cons v1 _ _ _ r1 r =>
  cases r with
  | @cons v2 _ _ _ r2 r =>
  cases r
  refine PyProof.Rows.assign_Tuple_tuple (items := [v1, v2].toArray) ok.room.hd ⟨_, ho, rfl, ne, rfl⟩ rfl rfl fun h' he => ?_
  have e₂ : Ext s { s with heap := h' } := .ofH fun b o eb => he b o (Nat.ne_of_lt (Heap.lt_size eb)) eb
  have ok₂ := ok.ext e₂
  have hT₂ : T ≤ ({ s with heap := h' } : Shared).toks := hT
  refine PyProof.Rows.assignInOrder_cons (PyProof.Rows.assign_Name (wpAny_with_toks hT₂ (wpAny_mono (store_loc ok₂ (r1.ext e₂) hx fun s₃ sm₃ kp₃ ok₃ => fun hT₃ => ?_) (fun _ _ h => h) fun _ _ e _ => e)))
  refine PyProof.Rows.assignInOrder_cons (PyProof.Rows.assign_Name (wpAny_with_toks hT₃ (wpAny_mono (store_loc (p := q) ok₃ ?_ hy fun s₄ sm₄ kp₄ ok₄ => fun hT₄ => ?_) (fun _ _ h => h) fun _ _ e _ => e)))
  · exact (r2.ext e₂).mono fun b o nx eb => ⟨kp₃ b o (fun q => nx (q ▸ ok.f.lx)) eb, nx⟩
  · refine PyProof.Rows.assignInOrder_nil ?_
    have kp : ∀ b o, b ≠ cenv.locals → s.heap.get? b = some o → s₄.heap.get? b = some o := fun b o hb eb => kp₄ b o hb (kp₃ b o hb (e₂.keep b o eb))
    refine h A X s₄ D I ys k Q E ok₄ hT₄ hD hDC (kp _ _ hDC hl) hz fun s' b => hQ s' ⟨(Same.trans e₂.same (Same.trans sm₃ sm₄)).trans b.same, fun b' o h1 h2 e => b.keep b' o h1 h2 (kp b' o h1 e), b.acc, b.ok.weak fun z r e => ?_⟩
    rw [List.lookup_cons]
    cases hzy : z == y with
    | true => rw [beq_iff_eq.mp hzy, hρy] at e; cases e
    | false =>
      rw [List.lookup_cons]
      cases hzx : z == x with
      | true => rw [beq_iff_eq.mp hzx, hρx] at e; cases e
      | false => exact e
end
noncomputable abbrev pairP (t : List Nat) : P := .tup [.str t, .str t]
theorem m_keys (w : World) : MethAt w (Str.ofString "keys") 176 := ⟨by kernel_rfl!, by kernel_rfl!, by decide, by kernel_rfl!⟩
theorem m_get (w : World) : MethAt w (Str.ofString "get_all") 163 := ⟨by kernel_rfl!, by kernel_rfl!, by decide, by kernel_rfl!⟩
theorem m_add (w : World) : MethAt w (Str.ofString "add_header") 221 := ⟨by kernel_rfl!, by kernel_rfl!, by decide, by kernel_rfl!⟩

noncomputable def fstP : P → List P
  | .tup [p, _] => [p]
  | _ => []
theorem c_keys (w : World) (ts : List (List Nat)) (hz : ts.length ≤ 10000) : SemC w 2 (.ref 176) [.hdr (ts.map pairP)] (.list (ts.map pS)) := by
  refine SemC.fn (n := 1) (ns := [Str.ofString "self"]) rfl (by kernel_rfl!) rfl ?_ rfl (by decide) ?_ ?_
  · exact len1 fun _ => rfl
  · exact mem1 fun _ => .inl rfl
  · intro L
    have e : (ts.map pairP).flatMap fstP = ts.map pS := by
      rw [List.flatMap_map, List.map_eq_flatMap]; rfl
    rw [← e]
    refine SemB.consR (SemS.ret (SemE.comp (ρc := []) (cl := []) (g := fstP) (SemI.list (SemE.attrH (SemE.var rfl))) (fun _ => rfl) rfl (by decide) rfl (by decide) (fun n c e => by cases e) List.Pairwise.nil no_rho (fun C p hp => ?_) (by rw [e]; simp; omega)))
    obtain ⟨t, ht, rfl⟩ := List.mem_map.mp hp
    exact SemItem.tup2 rfl rfl rfl rfl (SemRest.leaf rfl (SemE.var rfl))

noncomputable def getF (nm : List Nat) : P → List P
  | .tup [.str t, .str u] => if (loF t == nm) = true then [.str u] else []
  | _ => []
noncomputable def allOf (ts : List (List Nat)) (nm : List Nat) : List (List Nat) := ts.filter fun t => loF t == nm
theorem getF_flat (ts : List (List Nat)) (nm : List Nat) : (ts.map pairP).flatMap (getF nm) = (allOf ts nm).map pS := by
  rw [List.flatMap_map]
  unfold allOf
  induction ts with
  | nil => rfl
  | cons t r ih =>
    rw [List.flatMap_cons, ih, List.filter_cons]
    show (if (loF t == nm) = true then [P.str t] else []) ++ _ = _
    cases h : (loF t == nm) <;> simp

theorem letter_lo {c : Nat} (h : letter c) : letter (lo1 c) := by
  unfold letter lo1 at *
  split <;> omega
theorem letters_lo {x : List Nat} (h : ∀ c ∈ x, letter c) : ∀ c ∈ loF x, letter c := by
  intro c hc
  obtain ⟨d, hd, rfl⟩ := List.mem_map.mp hc
  exact letter_lo (h d hd)
theorem letters_128 {x : List Nat} (h : ∀ c ∈ x, letter c) : ∀ c ∈ x, c < 128 := fun c hc => by
  have := h c hc
  unfold letter at this; omega

theorem c_get (w : World) (ts : List (List Nat)) (x : List Nat) (hz : ts.length ≤ 10000) (hx : ∀ c ∈ x, letter c) (hxl : x.length ≤ 1000) (ht : ∀ t ∈ ts, (∀ c ∈ t, letter c) ∧ t.length ≤ 1000) :
    SemC w 3 (.ref 163) [.hdr (ts.map pairP), .str x] (.list ((allOf ts (loF x)).map pS)) := by
  refine SemC.fn (n := 2) (ns := [Str.ofString "self", Str.ofString "name"]) rfl (by kernel_rfl!) rfl ?_ rfl (by decide) ?_ ?_
  · exact len2 fun _ _ => rfl
  · exact mem2 (fun _ => .inl rfl) (fun _ => .inr ⟨rfl, rfl⟩)
  · intro L
    have hll : (loF x).length = x.length := by simp [loF]
    refine SemB.cons (SemS.assign (SemE.imethK (SemE.var rfl) InstP.hdr (m_convert w) (SemE.meth0 (SemE.var rfl) PySem.F.plainAttrs_str PySem.F.slot_str_lower PySem.F.type_str_lower TypeP.str (SemC.lower (n := 0) (letters_128 hx) hxl) (by omega)) SemE.cbool (c_convert w _ (loF x) true (letters_lo hx) (by omega)) (by omega)) (.inr ⟨rfl, rfl⟩)) ?_
    rw [← getF_flat]
    refine SemB.consR (SemS.ret (SemE.comp (ρc := [(Str.ofString "name", .str (loF x))]) (cl := [(Str.ofString "name", L + 1)]) (g := getF (loF x)) (SemI.list (SemE.attrH (SemE.var rfl))) (fun _ => rfl) rfl (by decide) rfl (by decide) (fun n c e => find_sub rfl e) (List.pairwise_singleton _ _) (one_rho rfl rfl (fun _ => rfl) rfl) (fun C p hp => ?_) ?_))
    · obtain ⟨t, htt, rfl⟩ := List.mem_map.mp hp
      obtain ⟨h1, h2⟩ := ht t htt
      refine SemItem.name rfl rfl (SemRest.leafIf rfl (SemT.cmp (SemE.meth0 (SemE.idxT (k := 0) (SemE.var rfl) SemE.int rfl rfl (by decide)) PySem.F.plainAttrs_str PySem.F.slot_str_lower PySem.F.type_str_lower TypeP.str (SemC.lower (n := 0) (letters_128 h1) h2) (by omega)) (SemE.var rfl) (CmpR.eqS _ _)) fun _ => SemE.idxT (k := 1) (SemE.var rfl) SemE.int rfl rfl (by decide))
    · rw [getF_flat, List.length_map]
      exact Nat.le_trans (List.length_filter_le _ _) (by omega)
end Mine
end

section
open PySem PySem.W PyProof.Rows
set_option autoImplicit false
set_option linter.all false
set_option maxRecDepth 100000
namespace Mine
section
variable {w : World} {n : Nat} {env : Env} {ρ : Rho}

/-- for ... in d.items(), d empty -/
theorem SemS.forNoItems {z : Str} {pz apos cpos pos : Pos} {target : Expr} {body : List Stmt} (hz : ρ.lookup z = some .edict) (hd : (z == ("__debug__" : Str)) = false := by decide)
    (hbase : attributeBase (.Name z pz) (Str.ofString "items") env (eval (.Name z pz) env) = eval (.Name z pz) env := by rfl) (hline : (apos.endLine == cpos.line) = true := by rfl)
    (hf : ∀ y, foldedSetIterable (.Call (.Attribute (.Name z pz) (Str.ofString "items") apos) [] [] cpos) env y = pure y := by intro _; rfl) :
    SemS w n env ρ (.For target (.Call (.Attribute (.Name z pz) (Str.ofString "items") apos) [] [] cpos) body [] pos) (.next ρ) := by
  intro A X s Q E ok k
  have hv := SemE.var (w := w) (n := n) (env := env) (pos := pz) hz hd
  refine wpAny_For (Call_method0 hbase hline (hv A X s _ E ok fun v s₁ e₁ r => ?_)) hf
  cases r with
  | @edict d h1 x1 lo =>
  have hT : s₁.TypeIs (.ref d) "dict" := ⟨_, h1, rfl⟩
  have hat : ∀ h : Heap, h.get? d = some emptyDict → h.DictAt (strKind pr w) d [] 0 := fun h hh => ⟨_, #[], hh, ⟨rfl, rfl, rfl⟩, rfl, (fun e he => by simp at he), .nil, by simp⟩
  refine ⟨"dict", "dict.items", PySem.F.plainAttrs_dict, PySem.F.slot_dict_items, PySem.F.type_dict_items, hT, (fun b e => by cases e; exact ⟨_, h1, rfl⟩), ?_⟩
  refine Calls.callWith_builtin rfl (PyProof.Rows.evalArgs_none ?_)
  have hsys : (d == sysModules) = false := by
    rw [beq_eq_false_iff_ne]; intro q; rw [q] at lo; exact absurd lo (by decide)
  refine call_meetsIn PySem.F.slot_dict_items hT PySem.F.entry_dict_items (PySem.F.args_dict_items_1 _) (meets_dict_items (strKind pr w) d hsys) ⟨⟨_, (hat _ h1).dictOf⟩, ?_⟩
  have h2 := Heap.get?_push_of_some ({ cls := .type "dict_items", data := .fields #[.ref d] } : Obj) h1
  refine wpAny_pyIter_items (knd := strKind pr w) (kvs := []) (ep := 0) (d := d) ⟨_, Heap.get?_push_size _ rfl, rfl, rfl⟩ (hat _ h2) ?_
  have h3 := Heap.get?_push_of_some ({ cls := .type "dict_itemiterator", data := .fields #[.none, .bool false, .ref d, .int 0 0, .int (([] : List (Str × Value)).length : Nat) 0, .int ((0 : Nat) : Int) 0, .none, .none] } : Obj) h2
  have e₃ : Ext s₁ { s₁ with heap := (s₁.heap.push { cls := .type "dict_items", data := .fields #[.ref d] }).push { cls := .type "dict_itemiterator", data := .fields #[.none, .bool false, .ref d, .int 0 0, .int (([] : List (Str × Value)).length : Nat) 0, .int ((0 : Nat) : Int) 0, .none, .none] } } :=
    .ofH fun b o e => Heap.get?_push_of_some _ (Heap.get?_push_of_some _ e)
  refine codeAny_forLoop_any (fun j s' => s' = { s₁ with heap := (s₁.heap.push { cls := .type "dict_items", data := .fields #[.ref d] }).push { cls := .type "dict_itemiterator", data := .fields #[.none, .bool false, .ref d, .int 0 0, .int (([] : List (Str × Value)).length : Nat) 0, .int ((0 : Nat) : Int) 0, .none, .none] } }) ?_ 0 rfl
  rintro j s' rfl
  refine wpAny_pyNext_items_end (knd := strKind pr w) (kvs := []) (i := 0) (ep := 0) (d := d) (ok := .none) (ov := .none) ok.room.hd (Heap.get?_push_size _ rfl) (hat _ h3) rfl fun h' hk => ?_
  have e₄ : Ext s₁ { s₁ with heap := h' } := .ofH fun b o e => hk b o (fun q => by
    have := Heap.lt_size e
    rw [q, Heap.size_push] at this
    exact absurd this (Nat.not_lt.mpr (Nat.le_succ _))) (e₃.keep b o e)
  exact wpAny_execs_nil (k _ (e₁.trans e₄).toO (ok.ext (e₁.trans e₄)))
end
end Mine
end

section
open PySem PySem.W PyProof.Rows
set_option autoImplicit false
set_option linter.all false
set_option maxRecDepth 100000
namespace Mine

theorem Room.make {A : Around} {n : Nat} {vals : List Value} {C : Addr} {kw : List (Str × Value)} (x : Room A (n + 1)) : Room (A.under (.builtin "type.__call__" ⟨.ref C :: vals, kw⟩)) n := by
  refine ⟨x.hd, ?_, ?_⟩
  · have := x.dp
    show A.depth + 1 + n < _; omega
  · have := x.un
    have hu : (A.under (.builtin "type.__call__" ⟨.ref C :: vals, kw⟩)).units ≤ A.units + 10 := by
      show A.units + Code.cUnits _ ≤ _
      have : Code.cUnits (.builtin "type.__call__" ⟨.ref C :: vals, kw⟩) ≤ 10 := by first | exact Nat.le_trans (Nat.le_of_eq (show Code.cUnits _ = 1 from rfl)) (by decide) | exact Nat.le_trans (Nat.le_of_eq (show Code.cUnits _ = 4 from rfl)) (by decide) | exact Nat.le_trans (Nat.le_of_eq (show Code.cUnits _ = 0 from rfl)) (by decide) | exact Nat.le_trans (Nat.le_of_eq (show Code.cUnits _ = 3 from rfl)) (by decide) | exact Nat.le_trans (Nat.le_of_eq (show Code.cUnits _ = 7 from rfl)) (by decide)
      omega
    omega
theorem makes224 (w : World) : makesIn (KK w) 224 = true := by kernel_rfl!
theorem init224 (w : World) : findIn (KK w) (.ref 224) "__init__" = some (some (.ref 118)) := by kernel_rfl!
theorem fn118 (w : World) : typeIn (KK w) (.ref 118) = some (.type "function") := by kernel_rfl!
theorem plainOver224 (w : World) : plainOver (KK w) 224 = true := by kernel_rfl!
theorem taker224 (w : World) : takerIn (KK w) 224 (Str.ofString "_headers") = some none := by kernel_rfl!
theorem setattr224 (w : World) : findIn (KK w) (.ref 224) "__setattr__" = some (some (.builtin "object.__setattr__")) := by kernel_rfl!
theorem hasDict224 (w : World) : (clsIn (KK w) 224).any (·.hasDict) = true := by kernel_rfl!

section
variable {w : World} {n : Nat} {env : Env} {ρ : Rho}
theorem SemFresh.ifFalse {t a b : Expr} {pos : Pos} {ps : List P} (ht : SemT w n env ρ t false) (h : SemFresh w n env ρ b ps) : SemFresh w n env ρ (.IfExp t a b pos) ps := by
  intro A X s Q E ok k
  show wpAny _ A (do if ← isTrue t env (eval t env) then eval a env else eval b env) Q E s
  refine wpAny_bind (ht A X s _ E ok fun s₁ e₁ => ?_)
  refine h A X s₁ Q E (ok.ext e₁) fun l s' vs m e₂ hx hn lo hl rv => k l s' vs m (e₁.trans e₂) hx ?_ lo hl rv
  cases e : s.heap.get? l with
  | none => rfl
  | some o => rw [e₁.keep _ _ e] at hn; cases hn

theorem Ok.recast {A : Around} {X : Addr → Prop} {s : Shared} {x : Str} {p p' : P} (ok : Ok w n env ((x, p) :: ρ) A X s) (h : ∀ v, Rep s.heap X v p → Rep s.heap X v p') : Ok w n env ((x, p') :: ρ) A X s := by
  refine ⟨ok.room, ok.g, ok.f, fun y q e => ?_⟩
  rw [List.lookup_cons] at e
  cases hy : y == x with
  | false =>
    rw [hy] at e
    exact ok.vars y q (by rw [List.lookup_cons, hy]; exact e)
  | true =>
    rw [hy] at e; cases e
    cases ok.vars y p (by rw [List.lookup_cons, hy]) with
    | loc hk hn hv r => exact .loc hk hn hv (h _ r)
    | cell hk hc hv r => exact .cell hk hc hv (h _ r)

theorem if_run {A : Around} {X : Addr → Prop} {s : Shared} {Q : Flow → Shared → Prop} {E : Value → Shared → Prop} {t : Expr} {b : Bool} {body orelse : List Stmt} {pos : Pos} (ht : SemT w n env ρ t b) (ok : Ok w n env ρ A X s) (k : ∀ s', Ext s s' → wpAny (model pr w) A (execs (if b = true then body else orelse) env) Q E s') :
    wpAny (model pr w) A (exec (.If t body orelse pos) env) Q E s := wpAny_If (ht A X s _ E ok fun s' e => by
  have := k s' e
  cases b <;> exact this)

theorem Ok.remake {A : Around} {X : Addr → Prop} {s s' : Shared} {ρ' : Rho} {m' : Str → Option Value} (ok : Ok w n env ρ A X s) (hc : env.cells = []) (g' : G w s'.heap) (ns' : s'.heap.Ns env.locals m')
    (vars' : ∀ y q, ρ'.lookup y = some q → ∃ v, env.kindOf y = some .local ∧ m' y = some v ∧ Rep s'.heap (fun b => b = env.locals) v q) : Ok w n env ρ' A (fun b => b = env.locals) s' := by
  refine ⟨ok.room, g', ⟨ok.f.kind, ok.f.glob, ok.f.bi, ⟨_, ns'⟩, rfl, (fun n c e => by rw [hc] at e; cases e), by rw [hc]; exact .nil, ⟨fun b hb => hb ▸ ok.f.x.high _ ok.f.lx, fun b hb => ?_⟩⟩, fun y q e => ?_⟩
  · obtain ⟨o, _, _, ho, _⟩ := ns'
    exact ⟨o, hb ▸ ho⟩
  · obtain ⟨v, h1, h2, h3⟩ := vars' y q e
    exact .loc h1 ns' h2 h3
theorem SemB.runAt {A : Around} {X : Addr → Prop} {s : Shared} {Q : Flow → Shared → Prop} {E : Value → Shared → Prop} {body : List Stmt} {o : Out} (ok : Ok w n env ρ A X s) (h : SemB w n env ρ body o) (k : Post w n env A X s o Q) : wpAny (model pr w) A (execs body env) Q E s := h A X s Q E ok k

/-- a for over nothing -/
theorem SemS.forNone {target iter : Expr} {body : List Stmt} {pos : Pos} (hi : SemI w n env ρ iter []) (hf : ∀ y, foldedSetIterable iter env y = pure y := by intro _; rfl) : SemS w n env ρ (.For target iter body [] pos) (.next ρ) := by
  intro A X s Q E ok k
  refine wpAny_For (hi A X s _ E ok fun v s₁ e₁ hv => hv _ E fun I hp fp Pf St up hI hI2 hfp W hst hlive hitem hidle => ?_) hf
  have ok₁ := ok.ext e₁
  refine codeAny_forLoop_any (fun j s' => s' = { s₁ with heap := hp }) ?_ 0 rfl
  rintro j s' rfl
  refine W.done _ _ _ hst fun h' tk hk => ?_
  have e₂ : Ext s₁ { s₁ with heap := h', toks := tk } := .of fun b o e => hk b o (by
    simp only [List.mem_singleton]
    intro q; rw [q, Heap.get_size _ _ hI] at e; cases e) (up _ _ e)
  exact wpAny_execs_nil (k _ (e₁.trans e₂).toO (ok₁.ext e₂))
end

theorem putEmpty (hs : Int) (t : Tok) (v : Value) : ∃ n, Obj.putName (Str.ofString "_headers") hs (.str (Str.ofString "_headers") t) v emptyDict = dictOf [⟨hs, .str (Str.ofString "_headers") t, v⟩] n := ⟨_, rfl⟩

theorem c_init (w : World) {A : Around} {X : Addr → Prop} {s : Shared} {x dx : Addr} {H0 : Heap} {R : Result → Shared → Prop} (room : Room A 4) (g : G w H0) (xo : XOk H0 X) (hk : ∀ b o, H0.get? b = some o → s.heap.get? b = some o) (hd : s.heap.get? dx = some emptyDict) (hx : s.heap.get? x = some (instObj 224 dx)) (nd : H0.get? dx = none) (nx : H0.get? x = none) (hsz : H0.objs.size ≤ s.heap.objs.size) (hxd : x ≠ dx)
    (k : ∀ l s' m, (∀ b o, H0.get? b = some o → s'.heap.get? b = some o) → Same s s' → (∃ hs t c, s'.heap.get? dx = some (dictOf [⟨hs, .str (Str.ofString "_headers") t, .ref l⟩] c)) → s'.heap.get? x = some (instObj 224 dx) → s'.heap.get? l = some (lstO [] m) → H0.get? l = none → ¬ X l → 283 ≤ l → l ≠ x → l ≠ dx → R (.ok (.ret .none)) s') :
    codeAny (model pr w) A (.call (.ref 118) ⟨[.ref x], []⟩) R s := by
  have gs : G w s.heap := g.keeps hk
  refine enterC (n := 3) (X := X) (ns := [Str.ofString "self", Str.ofString "headers"]) (ps := [.val (.ref x), .none]) room gs (xo.keeps hk) rfl (by kernel_rfl!) rfl ?_ rfl (by decide) ?_ ?_
  · intro M A' Q' E' h
    exact BindsTo.of_defaults (binds := [(Str.ofString "self", .ref x), (Str.ofString "headers", .none)]) rfl (gs.kin _ _ rfl) rfl rfl rfl M A' E' Q' (h [.ref x, .none] s (.refl s) (Nat.le_refl _) (.cons (.val _) (.cons .none .nil)))
  · intro k y hy
    simp only [List.mem_cons, List.mem_nil_iff, or_false] at hy
    rcases hy with rfl | rfl <;> exact .inl rfl
  intro L X' s₁ E' hL hX hno e₁ ok
  have hown : ∀ b, ¬ X' b → b ≠ L := fun b hb q => hb (q ▸ ok.f.lx)
  refine wpAny_execs_cons (wpAny_Assign_Name (SemFresh.ifFalse (SemT.cmp (SemE.var rfl) SemE.cnone CmpR.noneIsNone) SemFresh.nil _ _ s₁ _ _ ok fun l s₂ vs m e₂ hxl hnl lo hl rv => ?_) rfl)
  cases rv
  have ok₂ := ok.ext e₂
  refine store_any (p := .val (.ref l)) ok₂ (.val _) (.inl rfl) fun s₃ e₃ ok₃ => ?_
  have hol : ¬ own _ l := ok.f.same_own hxl
  have hl₃ : s₃.heap.get? l = some (lstO [] m) := e₃.keep _ _ hol hl
  have okL : Ok w 3 _ ((Str.ofString "headers", .list []) :: _) _ _ s₃ := ok₃.recast fun v r => by
    cases r; exact .list (vs := []) hl₃ hxl .nil
  refine wpAny_execs_cons (if_run (b := false) (SemT.cmp (SemE.call (NameV.bi (g_type w) rfl) callable_ty (SemA.cons (SemE.var rfl) SemA.nil) (SemC.typeOf (n := 0) (TypeP.list (x := [])) (by decide)) (by omega)) (SemE.nameV (NameV.bi (g_list w) rfl)) (CmpR.isNotT rfl)) okL fun s₄ e₄ => ?_)
  refine wpAny_execs_nil ?_
  have ok₄ := ok₃.ext e₄
  have hl₄ := e₄.keep _ _ hl₃
  have k4 : ∀ b o, s.heap.get? b = some o → s₄.heap.get? b = some o := fun b o e => e₄.keep _ _ (e₃.keep _ _ (hno b o e) (e₂.keep _ _ (e₁.keep _ _ e)))
  have hd₄ := k4 _ _ hd
  have hx₄ := k4 _ _ hx
  have n0 : H0.get? l = none := by
    cases e : H0.get? l with
    | none => rfl
    | some o => rw [e₁.keep _ _ (hk _ _ e)] at hnl; cases hnl
  have lL : l ≠ L := hown l hxl
  have xL : x ≠ L := fun q => hno _ _ hx (.inl q)
  have dL : dx ≠ L := fun q => hno _ _ hd (.inl q)
  have lx : l ≠ x := fun q => by rw [q, e₁.keep _ _ hx] at hnl; cases hnl
  have ld : l ≠ dx := fun q => by rw [q, e₁.keep _ _ hd] at hnl; cases hnl
  refine wpAny_execs_cons (plainObj_wpAny_Assign_Attribute (ok₄.atVal rfl (ok₄.atVal rfl ?_ (by decide)) (by decide)))
  cases ok₄.vars (Str.ofString "headers") _ rfl with
  | cell hk' _ _ _ => cases hk'
  | @loc mm v hk' hn hv r =>
  cases r
  have F : Fr H0 L s₄.heap mm := ⟨hn, fun b o e => k4 b o (hk b o e), Nat.le_trans hsz hL⟩
  have N : News H0 L s₄.heap ([] ++ (dx, emptyDict) :: [(x, instObj 224 dx), (l, lstO [] m)]) := by
    intro p hp
    simp only [List.nil_append, List.mem_cons, List.mem_nil_iff, or_false] at hp
    rcases hp with rfl | rfl | rfl
    · exact ⟨hd₄, dL, nd⟩
    · exact ⟨hx₄, xL, nx⟩
    · exact ⟨hl₄, lL, n0⟩
  obtain ⟨c, hput⟩ := putEmpty (PyData.keyHash w.params (Str.ofString "_headers")) (s₄.toks + 1) (.ref l)
  refine set_plain (ox := instObj 224 dx) (od := some emptyDict) ok₄.g.kin ⟨hx₄, rfl, rfl, hd₄⟩ (setattr224 w) ?_
  refine osa_dict (s := { s₄ with toks := s₄.toks + 1 }) (pre := []) (post := [(x, instObj 224 dx), (l, lstO [] m)]) (n := c) F N ok₄.g.kin ⟨hx₄, rfl, rfl, hd₄⟩ rfl (plainOver224 w) (taker224 w) (hasDict224 w) (by rfl) (fun p hp => by cases hp) ?_ hput rfl (by simp) fun h' F' N' => ?_
  · intro p hp
    simp only [List.mem_cons, List.mem_nil_iff, or_false] at hp
    rcases hp with rfl | rfl
    · exact hxd
    · exact ld
  have hd₅ := (N' (dx, dictOf [⟨PyData.keyHash w.params (Str.ofString "_headers"), .str (Str.ofString "_headers") (s₄.toks + 1), .ref l⟩] c) (.head _)).1
  have hx₅ := (N' (x, instObj 224 dx) (.tail _ (.head _))).1
  have hl₅ := (N' (l, lstO [] m) (.tail _ (.tail _ (.head _)))).1
  have ok₅ := ok.remake (s' := { s₄ with heap := h', toks := s₄.toks + 1 + 1 }) (ρ' := [(Str.ofString "headers", .list [])]) (m' := mm) rfl (g.keeps F'.keep) F'.ns (fun y q e => by
    rw [List.lookup_cons] at e
    cases hy : y == Str.ofString "headers" with
    | false => rw [hy] at e; cases e
    | true =>
      rw [hy] at e; cases e
      rw [beq_iff_eq.mp hy]
      exact ⟨_, rfl, hv, .list (vs := []) hl₅ lL .nil⟩)
  show wpAny _ _ (execs _ _) _ _ _
  refine SemB.runAt ok₅ (o := .next [(Str.ofString "headers", .list [])]) ?_ fun s₆ e₆ ok₆ => ?_
  · refine SemB.cons (SemS.ite (b := true) ?_ (fun _ => SemB.cons (SemS.forNone (SemI.list (SemE.var rfl))) SemB.nil) (fun h => by cases h)) SemB.nil
    refine SemT.ofBool ?_
    exact SemE.cbool
  have no6 : ∀ b, b ≠ L → ¬ own _ b := fun b hb q => hb (ok₅.f.ownX b q)
  refine k l s₆ m (fun b o e => e₆.keep _ _ (no6 b ?_) (F'.keep b o e)) ?_ ⟨_, _, _, e₆.keep _ _ (no6 dx dL) hd₅⟩ (e₆.keep _ _ (no6 x xL) hx₅) (e₆.keep _ _ (no6 l lL) hl₅) n0 (fun q => hxl ((hX l).mpr (.inl q))) lo lx ld
  · intro q
    exact absurd (Heap.lt_size e) (Nat.not_lt.mpr (q ▸ Nat.le_trans hsz hL))
  · exact Same.trans e₁.same (Same.trans e₂.same (Same.trans e₃.same (Same.trans e₄.same (Same.trans ⟨h', s₄.toks + 1 + 1, rfl⟩ e₆.same))))

theorem c_make (w : World) {A : Around} {X : Addr → Prop} {s : Shared} {Q E : Value → Shared → Prop} (room : Room A 5) (g : G w s.heap) (xo : XOk s.heap X)
    (k : ∀ x l s' m, Ext s s' → Rep s'.heap (fun b => X b ∨ b = l) (.ref x) (.tab l) → s'.heap.get? l = some (lstO [] m) → s.heap.get? l = none → ¬ X l → 283 ≤ l → Q (.ref x) s') :
    wpAny (model pr w) A (PySem.call (.ref 224) []) Q E s := by
  obtain ⟨hh, gg, d, t, os⟩ := s
  refine wpAny_call (make_core (makes_of g.kin (makes224 w)) (looks_findIn g.kin (init224 w)) (fun self => bind_fn g.kin self (fn118 w)) (.inl rfl) ?_)
  have s1 : (hh.push emptyDict).objs.size = hh.objs.size + 1 := Heap.size_push ..
  have hxat : ((hh.push emptyDict).push (instObj 224 hh.objs.size)).get? (hh.objs.size + 1) = some (instObj 224 hh.objs.size) := by
    rw [← s1]; exact Heap.get?_push_size _ rfl
  have hdat : ((hh.push emptyDict).push (instObj 224 hh.objs.size)).get? hh.objs.size = some emptyDict := Heap.get?_push_of_some _ (Heap.get?_push_size _ rfl)
  refine c_init w (X := X) (H0 := hh) (dx := hh.objs.size) room.make g xo (fun b o e => Heap.get?_push_of_some _ (Heap.get?_push_of_some _ e)) hdat hxat (Heap.get_size _ _ (Nat.le_refl _)) (Heap.get_size _ _ (Nat.le_succ _)) ?_ (Nat.ne_of_gt (Nat.lt_succ_self _)) fun l s' m hk sm ⟨hs, tt, c, h1⟩ h2 h3 h4 h5 h6 h7 h8 => ?_
  · show hh.objs.size ≤ ((hh.push emptyDict).push _).objs.size
    rw [Heap.size_push, s1]; exact Nat.le_succ_of_le (Nat.le_succ _)
  · refine ⟨rfl, ?_⟩
    exact k _ l _ m ⟨Same.trans ⟨_, t, rfl⟩ sm, hk⟩ (.tab h2 h1 (fun q => q.elim (xo.fresh (Nat.le_succ _)) (fun q => h7 q.symm)) (fun q => q.elim (xo.fresh (Nat.le_refl _)) (fun q => h8 q.symm))) h3 h4 h5 h6
end Mine
end

section
open PySem PySem.W PyProof.Rows
set_option autoImplicit false
set_option linter.all false
set_option maxRecDepth 100000
namespace Mine
section
variable {w : World} {n : Nat} {env : Env} {ρ : Rho} {a : Addr} {ps : List P}

theorem SemKS.append {o e : Expr} {apos cpos spos : Pos} {p : P} (ho : SemE w n env ρ o (.val (.ref a))) (he : SemE w n env ρ e p) (hlen : ps.length < 16777216)
    (hbase : attributeBase o (Str.ofString "append") env (eval o env) = eval o env := by rfl) (hline : (apos.endLine == cpos.line) = true := by rfl) (hi : interactive env = false := by rfl)
    (hst : starEach [e] env = [(false, eval e env)] := by rfl) (hsw : swapsWith (.Call (.Attribute o (Str.ofString "append") apos) [e] [] cpos) none spos.line env = pure false := by rfl) :
    SemKS w n env (some a) ρ ps (.Expr (.Call (.Attribute o (Str.ofString "append") apos) [e] [] cpos) spos) (.next ρ (ps ++ [p])) := by
  intro A X s Q E ok ow k
  refine wpAny_Expr ?_ hi hsw
  refine Call_method1 hbase hst hline (ho A X s _ E ok fun v s₁ e₁ r => ?_)
  cases r
  obtain ⟨xa, na, vs, kk, hl, rv⟩ := ow.ext e₁.toO ok.f.ownX
  refine ⟨"list", "list.append", PySem.F.plainAttrs_list, PySem.F.slot_list_append, PySem.F.type_list_append, Heap.IsList.typeIs ⟨_, hl, rfl, kk, rfl⟩, (fun b e => by cases e; exact ⟨_, hl, rfl⟩), ?_⟩
  refine Calls.callWith_builtin rfl (Calls.evalArgs_plain (Calls.spliced_cons (he A X s₁ _ E (ok.ext e₁) fun v s₂ e₂ r => Calls.spliced_nil ?_)))
  have hl₂ := e₂.keep _ _ hl
  have rv₂ : Reps s₂.heap X vs ps := rv.ext e₂
  refine append_at hl₂ (fun h' hs hD' => ?_) (by rw [sL, List.size_toArray, rv.length]; omega)
  have kp : ∀ b o, b ≠ a → s₂.heap.get? b = some o → h'.get? b = some o := fun b o hb e => (hs.2 b hb).trans e
  have hnew : h'.get? a = some (lstO (vs ++ [v]) (kk + 1)) := by rw [hD']; simp [lstO]
  refine k _ ⟨Same.trans (Same.trans e₁.same e₂.same) ⟨_, s₂.toks, rfl⟩, fun b o h1 h2 e => kp b o (fun q => h2 (q ▸ rfl)) (e₂.keep _ _ (e₁.keep _ _ e))⟩ (((ok.ext e₁).ext e₂).ownSet xa na hnew kp) ⟨xa, na, vs ++ [v], kk + 1, hnew, ?_⟩
  exact Reps.append (rv₂.mono fun b o nx e => ⟨kp b o (fun q => nx (q ▸ xa)) e, nx⟩) (.cons (r.mono fun b o nx e => ⟨kp b o (fun q => nx (q ▸ xa)) e, nx⟩) .nil)

/-- the block's own list is from now on plain data -/
theorem Ok.freeze {A : Around} {X : Addr → Prop} {s : Shared} {z : Str} (ok : Ok w n env ((z, .val (.ref a)) :: ρ) A (fun b => X b ∨ b = a) s) (hXa : ¬ X a) (hX : ∀ b, own env b → X b) {vs : List Value} {k : Nat} (hl : s.heap.get? a = some (lstO vs k)) (rv : Reps s.heap (fun b => X b ∨ b = a) vs ps) :
    Ok w n env ((z, .list ps) :: ρ) A X s := by
  have ok' : Ok w n env ((z, .val (.ref a)) :: ρ) A X s := ok.change (X₀ := X) (Y := fun _ => False) (fun _ h => .inl h) (hX _ (.inl rfl)) (fun n c e => hX _ (.inr ⟨n, e⟩)) (fun b q => q.elim) (fun b _ q => q.elim) fun b o _ e => e
  refine ok'.recast fun v r => ?_
  cases r
  exact .list hl hXa (rv.mono fun b o nx e => ⟨e, fun q => nx (.inl q)⟩)

/-- self._headers, the table being filled -/
theorem SemE.attrT {o : Expr} {pos : Pos} {l : Addr} (ho : SemE w n env ρ o (.tab l)) (hbase : attributeBase o (Str.ofString "_headers") env (eval o env) = eval o env := by rfl) (hgo : ∀ a b, letTemporaryGo o a b = pure () := by intro _ _; rfl) :
    SemE w n env ρ (.Attribute o (Str.ofString "_headers") pos) (.val (.ref l)) := by
  intro A X s Q E ok k
  rw [arm_eval_Attribute, hbase]
  refine wpAny_bind (ho A X s _ E ok fun v s₁ e₁ r => wpAny_bind (wpAny_standAt ?_))
  cases r with
  | @tab x dx a hs t c h1 h2 x1 x2 =>
  refine wpAny_bind (wpAny_holding (attr_any (ok.ext e₁).g h1 h2 (wpAny_bind (wpAny_of_eq (hgo _ _) (wpAny_pure ?_)))))
  exact k _ _ (e₁.trans (.tok s₁ _)) (.val _)
end
end Mine
end

section
open PySem PySem.W PyProof.Rows
set_option autoImplicit false
set_option linter.all false
set_option maxRecDepth 100000
namespace Mine

section
variable {w : World} {n : Nat} {env : Env} {ρ : Rho} {A : Around} {X : Addr → Prop} {s : Shared} {Q : Flow → Shared → Prop} {E : Value → Shared → Prop}
theorem SemKS.runAt {a : Option Addr} {ps : List P} {st : Stmt} {o : OutK} (ok : Ok w n env ρ A X s) (ow : OwOk a ps env X s) (h : SemKS w n env a ρ ps st o) (k : PostK w n env a A X s o Q) : wpAny (model pr w) A (exec st env) Q E s := h A X s Q E ok ow k
theorem SemS.runAt {st : Stmt} {o : Out} (ok : Ok w n env ρ A X s) (h : SemS w n env ρ st o) (k : Post w n env A X s o Q) : wpAny (model pr w) A (exec st env) Q E s := h A X s Q E ok k
end
theorem joinOk_one {sep t : List Nat} (h : t.length + sep.length ≤ 16777216) : JoinOk (S sep) ([t].map S) = true := by
  unfold JoinOk Builtin.Str.tooLong
  rw [sL]
  simp [Str.length]
  omega

theorem c_add (w : World) {A : Around} {X : Addr → Prop} {s : Shared} {Q E : Value → Shared → Prop} {l : Addr} {vs : List Value} {m : Nat} {ps : List P} {t : List Nat} {v0 v1 v2 : Value} (room : Room A 5) (g : G w s.heap) (xo : XOk s.heap X) (r0 : Rep s.heap X v0 (.tab l)) (r1 : Rep s.heap X v1 (.str t)) (r2 : Rep s.heap X v2 (.str t))
    (xl : X l) (hl : s.heap.get? l = some (lstO vs m)) (rv : Reps s.heap X vs ps) (ht : ∀ c ∈ t, letter c) (hlt : t.length ≤ 1000) (hps : ps.length < 16777216)
    (k : ∀ s' vs' m', Same s s' → (∀ b o, b ≠ l → s.heap.get? b = some o → s'.heap.get? b = some o) → s'.heap.get? l = some (lstO vs' m') → Reps s'.heap X vs' (ps ++ [pairP t]) → Q .none s') :
    wpAny (model pr w) A (PySem.call (.ref 221) [v0, v1, v2]) Q E s := by
  refine enter (n := 4) (X := X) (ns := [Str.ofString "self", Str.ofString "_name", Str.ofString "_value", Str.ofString "_params"]) (ps := [.tab l, .str t, .str t, .edict]) room g xo rfl (by kernel_rfl!) rfl ?_ rfl (by decide) ?_ ?_
  · intro M A' Q' E' h
    show wpAny M A' (newDict >>= fun d => pure [(Str.ofString "self", v0), (Str.ofString "_name", v1), (Str.ofString "_value", v2), (Str.ofString "_params", d)]) Q' E' s
    simp only [newDict, newObj]
    refine wpAny_bind (wpAny_bind (wpAny_alloc (wpAny_pure (wpAny_pure ?_))))
    refine h [v0, v1, v2, .ref s.heap.objs.size] _ (.push s _) (by rw [Heap.size_push]; exact Nat.le_succ _) (.cons (r0.ext (.push s _)) (.cons (r1.ext (.push s _)) (.cons (r2.ext (.push s _)) (.cons ?_ .nil))))
    exact .edict (Heap.get?_push_size _ rfl) (xo.fresh (Nat.le_refl _)) g.high
  · intro k y hy
    simp only [List.mem_cons, List.mem_nil_iff, or_false] at hy
    rcases hy with rfl | rfl | rfl | rfl <;> exact .inl rfl
  intro L X' s₁ E' hL hX hno e₁ ok
  have nown : ∀ b, X b → ¬ own (callEnvC _ L 221) b := fun b hb => by
    obtain ⟨o, ho⟩ := xo.live b hb
    exact hno b o ho
  refine wpAny_execs_cons (wpAny_Assign_Name (SemFresh.nil _ _ s₁ _ _ ok fun pl s₂ vs0 m0 e₂ hxp hnp lo hp rp => ?_) rfl)
  cases rp
  have ok₂ := ok.addI' e₂.keep hxp hnp lo ⟨_, hp⟩
  refine store_any (p := .val (.ref pl)) ok₂ (.val _) (.inl rfl) fun s₃ e₃ ok₃ => ?_
  have hop : ¬ own _ pl := ok.f.same_own hxp
  have hp₃ := e₃.keep _ _ hop hp
  refine wpAny_execs_cons (SemKS.runAt (a := some pl) (ps := []) (o := .next [(Str.ofString "_value", .str t), (Str.ofString "parts", .val (.ref pl)), (Str.ofString "self", .tab l), (Str.ofString "_name", .str t), (Str.ofString "_value", .str t), (Str.ofString "_params", .edict)] [.str t]) ok₃ ⟨.inr rfl, hop, [], m0, hp₃, .nil⟩ ?_ fun s₄ e₄ ok₄ ow₄ => ?_)
  · refine SemKS.ite (b := true) (SemT.cmp (SemE.var rfl) SemE.cnone CmpR.strNotNone) (fun _ => ?_) (fun h => by cases h)
    refine SemK.cons (SemKS.ofS (SemS.assign (SemE.imethK (SemE.var rfl) InstP.tab (m_convert w) (SemE.var rfl) SemE.cbool (c_convert w _ t false ht hlt) (by omega)) (.inl rfl))) ?_
    exact SemK.cons (SemKS.append (SemE.var rfl) (SemE.var rfl) (by decide)) SemK.nil
  obtain ⟨_, _, vs4, m4, hp4, rv4⟩ := ow₄
  have ok₅ := (ok₄.weak (ρ' := [(Str.ofString "parts", .val (.ref pl)), (Str.ofString "self", .tab l), (Str.ofString "_name", .str t), (Str.ofString "_params", .edict)]) sub_rho).freeze hxp ok.f.ownX hp4 rv4
  have k4 : ∀ b o, s.heap.get? b = some o → s₄.heap.get? b = some o := fun b o e => by
    have h1 := e₁.keep _ _ e
    refine e₄.keep _ _ (hno b o e) (fun q => ?_) (e₃.keep _ _ (hno b o e) (e₂.keep _ _ h1))
    cases q; rw [hnp] at h1; cases h1
  refine wpAny_execs_cons (SemS.runAt ok₅ (SemS.forNoItems rfl) fun s₅ e₅ ok₆ => ?_)
  have k5 : ∀ b o, s.heap.get? b = some o → s₅.heap.get? b = some o := fun b o e => e₅.keep _ _ (hno b o e) (k4 b o e)
  refine wpAny_execs_cons (SemKS.runAt (a := some l) (ps := ps) ok₆ ⟨(hX l).mpr (.inl xl), hno l _ hl, vs, m, k5 _ _ hl, rv.mono fun b o nx e => ⟨k5 b o e, fun q => ((hX b).mp q).elim nx (hno b o e)⟩⟩ (SemKS.append (SemE.attrT (SemE.var rfl)) (SemE.tupD (ps := [.str t, .str t]) (SemA.cons (SemE.imethK (SemE.var rfl) InstP.tab (m_convert w) (SemE.var rfl) SemE.cbool (c_convert w _ t true ht hlt) (by omega)) (SemA.cons (SemE.meth SemE.strc (SemA.cons (SemE.var rfl) SemA.nil) PySem.F.plainAttrs_str PySem.F.slot_str_join PySem.F.type_str_join TypeP.str (SemC.join (n := 0) (xs := [t]) rfl (joinOk_one (by show t.length + 2 ≤ _; omega))) (by omega)) SemA.nil)) (by simp)) hps) fun s₆ e₆ ok₇ ow₇ => ?_)
  obtain ⟨_, _, vs', m', hl6, rv6⟩ := ow₇
  refine wpAny_execs_nil (k s₆ vs' m' ?_ (fun b o hb e => e₆.keep _ _ (hno b o e) (fun q => hb (by cases q; rfl)) (k5 b o e)) hl6 (rv6.mono fun b o nx e => ⟨e, fun q => nx ((hX b).mpr (.inl q))⟩))
  exact Same.trans e₁.same (Same.trans e₂.same (Same.trans e₃.same (Same.trans e₄.same (Same.trans e₅.same e₆.same))))
end Mine
end

section
open PySem PySem.W PyProof.Rows
set_option autoImplicit false
set_option linter.all false
set_option maxRecDepth 100000
namespace Mine
theorem g_headers (w : World) : nsIn (KK w) mainGlobals (Str.ofString "Headers") = some (some (.ref 224)) := by kernel_rfl!
theorem k_headers (w : World) : keepIn (KK w) (.ref 224) = true := by kernel_rfl!
section
variable {w : World} {n : Nat} {env : Env} {ρ : Rho}

theorem SemKS.addHdr {l : Addr} {ps : List P} {z : Str} {pz apos cpos spos : Pos} {e₁ e₂ : Expr} {t : List Nat} (hn : 5 ≤ n) (hz : ρ.lookup z = some (.tab l)) (h1 : SemE w n env ρ e₁ (.str t)) (h2 : SemE w n env ρ e₂ (.str t)) (ht : ∀ c ∈ t, letter c) (hlt : t.length ≤ 1000) (hps : ps.length < 16777216)
    (hi : interactive env = false := by rfl) (he1 : starEach [e₁, e₂] env = (false, eval e₁ env) :: starEach [e₂] env := by rfl) (he2 : starEach [e₂] env = (false, eval e₂ env) :: starEach [] env := by rfl) (hd : (z == ("__debug__" : Str)) = false := by decide)
    (hsw : swapsWith (.Call (.Attribute (.Name z pz) (Str.ofString "add_header") apos) [e₁, e₂] [] cpos) none spos.line env = pure false := by rfl) {pl : Sem Bool}
    (hev : eval (.Call (.Attribute (.Name z pz) (Str.ofString "add_header") apos) [e₁, e₂] [] cpos) env = (do
      let ov ← eval (.Name z pz) env
      standAt apos.atName
      let (f, first) ← holding [ov] (getMethod ov (Str.ofString "add_header") pl)
      callWith cpos f first (backTo cpos (starEach [e₁, e₂] env)) (backToKw cpos (keywordEach [] env))) := by rfl) :
    SemKS w n env (some l) ρ ps (.Expr (.Call (.Attribute (.Name z pz) (Str.ofString "add_header") apos) [e₁, e₂] [] cpos) spos) (.next ρ (ps ++ [pairP t])) := by
  intro A X s Q E ok ow k
  refine wpAny_Expr ?_ hi hsw
  refine instCall ok (SemE.var hz hd) InstP.tab (m_add w) hev fun x s₁ e r => ?_
  have ok₁ := ok.ext e
  refine callWith_K (K := KK w) (h₀ := s₁.heap) ok₁.g.kin (m_add w).keep ?_ he1 (by rw [he2]; rfl)
  refine args_cons (h1 A X s₁ _ E ok₁ fun v1 s₂ e2 r1 => args_cons (h2 A X s₂ _ E (ok₁.ext e2) fun v2 s₃ e3 r2 => args_nil ?_) he2) he1
  have ok₃ := (ok₁.ext e2).ext e3
  refine ⟨ok₃.g.kin, ?_⟩
  obtain ⟨xl, nl, vs, m, hl, rv⟩ := ow.ext ((e.trans e2).trans e3).toO ok.f.ownX
  refine c_add w (ok₃.room.le hn) ok₃.g ok₃.f.x ((r.ext e2).ext e3) (r1.ext e3) r2 xl hl rv ht hlt hps fun s' vs' m' sm kp hl' rv' => ?_
  refine k s' ⟨Same.trans ((e.trans e2).trans e3).same sm, fun b o h1 h2 eb => kp b o (fun q => h2 (q ▸ rfl)) (((e.trans e2).trans e3).keep _ _ eb)⟩ (ok₃.ownSet xl nl hl' kp) ⟨xl, nl, vs', m', hl', rv'⟩

theorem SemKS.retTab {l : Addr} {ps : List P} {z : Str} {pz pos : Pos} (hz : ρ.lookup z = some (.tab l)) (hd : (z == ("__debug__" : Str)) = false := by decide) : SemKS w n env (some l) ρ ps (.Return (some (.Name z pz)) pos) (.ret (.hdr ps)) := by
  intro A X s Q E ok ow k
  refine wpAny_Return_some (SemE.var hz hd A X s _ E ok fun v s₁ e r => ?_)
  obtain ⟨xa, na, vs, kk, hl, rv⟩ := ow.ext e.toO ok.f.ownX
  cases r with
  | tab h1 h2 x1 x2 =>
  exact k _ s₁ e.toK (.hdr h1 h2 hl (fun q => x1 q.1) (fun q => x2 q.1) (fun q => q.2 rfl) (rv.mono fun b o nx e => ⟨e, fun q => nx q.1⟩))

theorem SemB.startTable {z : Str} {pz np cpos pos : Pos} {rest : List Stmt} {q : P} (hn : 5 ≤ n) (hz : Storable env z) (h : ∀ l, SemK w n env (some l) ((z, .tab l) :: ρ) [] rest (.ret q))
    (hx : env.kindOf (Str.ofString "Headers") = some .globalImplicit := by rfl) (hs : swapsWith (.Call (.Name (Str.ofString "Headers") np) [] [] cpos) (some (.Name z pz)) pos.line env = pure false := by rfl)
    (hev : eval (.Call (.Name (Str.ofString "Headers") np) [] [] cpos) env = (do callWith cpos (← eval (.Name (Str.ofString "Headers") np) env) [] (backTo cpos (starEach [] env)) (backToKw cpos (keywordEach [] env))) := by rfl) :
    SemB w n env ρ (.Assign [.Name z pz] (.Call (.Name (Str.ofString "Headers") np) [] [] cpos) pos :: rest) (.ret q) := by
  intro A X s Q E ok k
  refine wpAny_execs_cons (wpAny_Assign_Name (PyProof.Rows.Call_ (NameV.glob (g_headers w) hx (by decide) A X s _ E np ok (callWith_K0 ok.g.kin (k_headers w) ?_)) hev) hs)
  refine c_make w (ok.room.le hn) ok.g ok.f.x fun x l s₁ m e₁ r hl hnl hXl lo => ?_
  have ok₁ := ok.addI' e₁.keep hXl hnl lo ⟨_, hl⟩
  have hol : ¬ own env l := ok.f.same_own hXl
  refine store_any ok₁ r hz fun s₂ e₂ ok₂ => ?_
  refine h l A _ s₂ Q E ok₂ ⟨.inr rfl, hol, [], m, e₂.keep _ _ hol hl, .nil⟩ fun v s' e' r => ?_
  refine k v s' ⟨Same.trans e₁.same (Same.trans e₂.same e'.same), fun b o nb eb => ?_⟩ (r.mono fun b o nx eb => ⟨eb, fun q => nx ⟨.inl q, fun z => hXl (by cases z; exact q)⟩⟩)
  refine e'.keep b o nb (fun z => ?_) (e₂.keep b o nb (e₁.keep _ _ eb))
  cases z
  rw [hnl] at eb; cases eb
end
end Mine
end

section
open PySem PySem.W PyProof.Rows
set_option autoImplicit false
set_option linter.all false
set_option maxRecDepth 100000
namespace Mine

noncomputable def rowAll (parts : List (List Nat)) : List Nat := (parts.flatMap fun p => rowF p.length p) ++ [0]
noncomputable def stepB (ts more : List (List Nat)) : List (List Nat) := ts.flatMap fun x => more.map fun y => x ++ y
noncomputable def loopB : Nat → List Nat → Nat → List (List Nat) → Option (List (List Nat) × Nat)
  | 0, _, _, _ => none
  | m + 1, row, i, ts => match row[i]? with
    | none => none
    | some c => if c = 0 then some (ts, i) else match readF 20 row i with
      | none => none
      | some (more, j) => if ts.length * more.length ≤ 10000 ∧ shortL 100 ts = true ∧ shortL 100 more = true then loopB m row j (stepB ts more) else none
noncomputable def letterB (c : Nat) : Bool := (decide (65 ≤ c) && decide (c ≤ 67)) || (decide (97 ≤ c) && decide (c ≤ 99))
noncomputable def wordB (x : List Nat) : Bool := decide (x.length ≤ 100) && x.all letterB
noncomputable def partB (p : List Nat) : Bool := decide (0 < p.length) && decide (p.length ≤ 10)
noncomputable def brackF (x : List Nat) : Option (List (List Nat)) :=
  let parts := cutF (x.length + 1) x []
  let row := rowAll parts
  if x.length ≤ 100 ∧ parts.length ≤ 100 ∧ parts.all partB = true ∧ row.length ≤ 1000 then match loopB 20 row 0 [[]] with
    | none => none
    | some (ts, _) => if ts.length ≤ 10000 ∧ ts.all wordB = true then some ts else none
  else none

theorem wordB_iff {x : List Nat} (h : wordB x = true) : (∀ c ∈ x, letter c) ∧ x.length ≤ 100 := by
  unfold wordB at h
  obtain ⟨h1, h2⟩ := Bool.and_eq_true_iff.mp h
  refine ⟨fun c hc => ?_, of_decide_eq_true h1⟩
  have := List.all_eq_true.mp h2 c hc
  unfold letterB at this
  unfold letter
  simpa using this

noncomputable def rhoB (row : List Nat) (i : Nat) (ts : List (List Nat)) : Rho := [(Str.ofString "texts", .list (ts.map pS)), (Str.ofString "at", .int i), (Str.ofString "row", .list (row.map pI))]

theorem loopB_while {w : World} {n : Nat} {env : Env} {row : List Nat} {test : Expr} {body : List Stmt} {tE : List (List Nat)} {iE : Nat}
    (htest : ∀ (i : Nat) (ts : List (List Nat)) (c : Nat), row[i]? = some c → SemT w n env (rhoB row i ts) test (!((c : Int) == 0)))
    (hbody : ∀ (i : Nat) (ts more : List (List Nat)) (j : Nat), readF 20 row i = some (more, j) → ts.length * more.length ≤ 10000 → shortL 100 ts = true → shortL 100 more = true → SemK w n env none (rhoB row i ts) [] body (.next (rhoB row j (stepB ts more)) [])) :
    ∀ (m i : Nat) (ts : List (List Nat)), loopB m row i ts = some (tE, iE) → WhileTo w n env none test body (rhoB row i ts) [] (rhoB row iE tE) []
  | 0, i, ts, h => by cases h
  | m + 1, i, ts, h => by
    rw [loopB] at h
    split at h
    · cases h
    rename_i c hc
    split at h
    · rename_i h0
      cases h
      exact .done ((htest iE tE c hc).conv (by subst h0; rfl))
    · rename_i h0
      split at h
      · cases h
      rename_i more j hr
      split at h
      · rename_i hg
        exact .step ((htest i ts c hc).conv (by simp; omega)) (hbody i ts more j hr hg.1 hg.2.1 hg.2.2) (loopB_while htest hbody m j _ h)
      · cases h

theorem row_flat (parts : List (List Nat)) : (parts.map pS).flatMap (fun p => ((rowF p.s.length p.s).map pI).flatMap fun q => [q]) = (parts.flatMap fun p => rowF p.length p).map pI := by
  rw [List.flatMap_map, List.map_flatMap]
  congr 1
  funext p
  show ((rowF p.length p).map pI).flatMap (fun q => [q]) = _
  simp

theorem for_table {w : World} {n : Nat} {env : Env} {l : Addr} {ρ : Rho} {body : List Stmt} (hbody : ∀ (t : List Nat) (ps : List P), wordB t = true → ps.length < 16777216 → SemK w n env (some l) ((Str.ofString "text", .str t) :: ρ) ps body (.next ρ (ps ++ [pairP t]))) :
    ∀ (ts don : List (List Nat)), ts.all wordB = true → don.length + ts.length ≤ 10000 → ForTo w n env (some l) (Str.ofString "text") body (ts.map pS) ρ (don.map pairP) ρ ((don ++ ts).map pairP)
  | [], don, h, hl => by simpa using ForTo.nil
  | t :: ts, don, h, hl => by
    simp only [List.all_cons, Bool.and_eq_true] at h
    simp only [List.length_cons] at hl
    have := for_table hbody ts (don ++ [t]) h.2 (by simp; omega)
    rw [List.map_append, List.append_assoc] at this
    exact .cons (hbody t _ h.1 (by simp; omega)) this

theorem g_brackets (w : World) : nsIn (KK w) mainGlobals (Str.ofString "_law_brackets") = some (some (.ref 257)) := by kernel_rfl!
theorem k_brackets (w : World) : keepIn (KK w) (.ref 257) = true := by kernel_rfl!

theorem c_brackets (w : World) (x : List Nat) (ts : List (List Nat)) (h : brackF x = some ts) : SemC w 41 (.ref 257) [.str x] (.hdr (ts.map pairP)) := by
  unfold brackF at h
  dsimp only at h
  split at h
  case isFalse => cases h
  rename_i hg
  obtain ⟨g1, g2, g3, g4⟩ := hg
  split at h
  · cases h
  rename_i ts' iE hloop
  split at h
  case isFalse => cases h
  rename_i hg2
  cases h
  obtain ⟨g5, g6⟩ := hg2
  refine SemC.fn (n := 40) (ns := [Str.ofString "word"]) rfl (by kernel_rfl!) rfl ?_ rfl (by decide) ?_ ?_
  · exact len1 fun _ => rfl
  · exact mem1 fun _ => .inl rfl
  intro L
  have hcut := c_cut w x (by omega)
  generalize cutF (x.length + 1) x [] = parts at *
  have hrl : (parts.flatMap fun p => rowF p.length p).length ≤ 1000 := by
    unfold rowAll at g4; simp at g4 ⊢; omega
  refine SemB.cons (SemS.assign (p := .list ((rowAll parts).map pI)) (SemE.conv (SemE.addL (SemE.comp (ρc := []) (cl := []) (g := fun p => ((rowF p.s.length p.s).map pI).flatMap fun q => [q]) (SemI.list (SemE.callg (g_cut w) (k_cut w) (SemA.cons (SemE.var rfl) SemA.nil) hcut (by omega))) (fun _ => rfl) rfl (by decide) rfl (by decide) (fun n c e => by cases e) List.Pairwise.nil no_rho (fun C p hp => ?_) (by rw [row_flat, List.length_map]; omega)) (SemE.listD (SemA.cons SemE.int SemA.nil) (by simp)) (by rw [row_flat]; simp at hrl ⊢; omega)) (by rw [row_flat]; simp [rowAll, pI])) (.inl rfl)) ?_
  · obtain ⟨p, hp', rfl⟩ := List.mem_map.mp hp
    have hpb := List.all_eq_true.mp g3 p hp'
    unfold partB at hpb
    obtain ⟨q1, q2⟩ := Bool.and_eq_true_iff.mp hpb
    have q1 := of_decide_eq_true q1
    have q2 := of_decide_eq_true q2
    refine SemItem.name rfl rfl (SemRest.nest rfl (SemI.list (SemE.callg (g_row w) (k_row w) (SemA.cons (SemE.var rfl) SemA.nil) (c_row w p.length p q1 (Nat.le_refl _) (by omega)) (by omega))) (fun _ => rfl) (fun q hq => ?_))
    exact SemItem.name rfl rfl (SemRest.leaf rfl (SemE.var rfl))
  generalize hrow : rowAll parts = row at *
  refine SemB.cons (SemS.assign (SemE.listD (ps := [[]].map pS) (SemA.cons SemE.strc SemA.nil) (by simp)) (.inl rfl)) ?_
  refine SemB.cons (SemS.assign SemE.int (.inl rfl)) ?_
  refine SemB.weak (ρ' := rhoB row 0 [[]]) ?_ (by unfold rhoB; exact sub_rho)
  refine SemB.cons (SemS.ofKS (ρ' := rhoB row iE ts) (ps' := []) (SemKS.while (loopB_while (fun i ts c hc => ?_) (fun i ts more j hr h1 h2 h3 => ?_) 20 0 [[]] hloop))) ?_
  · have hc' : (row.map pI)[i]? = some (pI c) := by rw [List.getElem?_map, hc]; rfl
    have hi : i < row.length := (List.getElem?_eq_some_iff.mp hc).1
    exact SemT.not (SemT.ofBool (SemE.callg (g_EOF w) (k_EOF w) (SemA.cons (SemE.idxL (SemE.var rfl) (SemE.var rfl) rfl hc' (by omega)) SemA.nil) (c_EOF w c) (by omega)))
  · refine SemK.cons (SemKS.ofS (SemS.assign2 (SemE.callg (g_readings w) (k_readings w) (SemA.cons (SemE.var rfl) (SemA.cons (SemE.var rfl) SemA.nil)) (c_readings w 20 row i more j hr g4) (by omega)) (.inr ⟨rfl, rfl⟩) (.inl rfl))) ?_
    refine SemK.cons (SemKS.ofS (SemS.assignComp2 [(Str.ofString "more", .list (more.map pS))] (cl := [(Str.ofString "more", L + 1)]) (fun x y => x ++ y) rfl (SemI.list (SemE.var rfl)) (fun C a ha => SemI.list (SemE.var rfl)) (fun C a ha b hb => ?_) (one_rho rfl rfl (fun _ => rfl) rfl) (fun n c e => find_sub rfl e) (List.pairwise_singleton _ _) (by omega) (.inl rfl))) ?_
    · have := of_decide_eq_true (List.all_eq_true.mp h2 a ha)
      have := of_decide_eq_true (List.all_eq_true.mp h3 b hb)
      exact SemE.addS (SemE.var rfl) (SemE.var rfl) (by omega)
    · exact SemK.weak (ρ' := rhoB row j (stepB ts more)) SemK.nil (by unfold rhoB; exact sub_rho)
  refine SemB.startTable (by omega) (.inl rfl) fun l => ?_
  refine SemK.cons (SemKS.for (SemI.list (SemE.var rfl)) (for_table (fun t ps ht hps => ?_) ts [] g6 (by simpa using g5)) (.inl rfl)) (SemK.consR (SemKS.retTab rfl))
  obtain ⟨q1, q2⟩ := wordB_iff ht
  exact SemK.cons (SemKS.addHdr (by omega) rfl (SemE.var rfl) (SemE.var rfl) q1 (by omega) hps) (SemK.weak SemK.nil (by unfold rhoB; exact sub_rho))
end Mine
end

section
open PySem PySem.W PyProof.Rows
set_option autoImplicit false
set_option linter.all false
set_option maxRecDepth 100000
namespace Mine

/-- led stays, and what is not plain stays so -/
noncomputable def Later (t t' : SetTable) : Prop := t'.led = t.led ∧ (t.plain = false → t'.plain = false)
theorem standIn_led (t : SetTable) (n : Nat) : Later t (t.standIn n) := ⟨rfl, fun h => by first | rfl | exact h⟩
theorem orStandIn_led (t : SetTable) (n : Nat) : Later t (t.orStandIn n) := by
  unfold SetTable.orStandIn
  split
  · exact ⟨rfl, id⟩
  · exact standIn_led _ _
theorem layNew_led (t : SetTable) (es : Array (Int × Value)) (h : Int) (x : Value) : Later t (layNew t es h x).2.1 := by
  unfold layNew
  split
  · rename_i slot wd _
    have h1 : Later t (t.put slot).1 := ⟨rfl, id⟩
    have h2 := orStandIn_led (t.put slot).1 (SetTable.insertAt es (t.put slot).2 (h, x)).size
    exact ⟨h2.1.trans h1.1, fun e => h2.2 (h1.2 e)⟩
  · exact standIn_led _ _
theorem laid_led {mask finger moves : Nat} {led plain : Bool} {hs : Array Int} {t : SetTable} {o : Array Nat} (h : SetTable.laid mask finger moves led plain hs = some (t, o)) : t.led = led ∧ t.plain = plain := by
  unfold SetTable.laid at h
  cases e : SetTable.layClean mask hs with
  | none => rw [e] at h; cases h
  | some ow => rw [e] at h; cases h; exact ⟨rfl, rfl⟩
theorem relayAll_led (t : SetTable) (es : Array (Int × Value)) (n : Nat) : Later t (relayAll t es n).2.1 := by
  unfold relayAll
  split
  · rename_i t' o h
    have := laid_led h
    dsimp only
    split
    · exact ⟨this.1, fun e => this.2.trans e⟩
    · exact standIn_led _ _
  · exact standIn_led _ _
end Mine
end

section
open PySem PySem.W PyProof.Rows
set_option autoImplicit false
set_option linter.all false
set_option maxRecDepth 100000
namespace Mine

noncomputable abbrev setO (es : Array (Int × Value)) (ep : Nat) (t : SetTable) : Obj := { cls := .type "set", data := .set es ep t }
/-- a set of these texts -/
noncomputable def SetAt (w : World) (h : Heap) (a : Addr) (vs : List Value) (led : Bool) : Prop :=
  ∃ es ep t, h.get? a = some (setO es ep t) ∧ ElemsOf (strKind pr w) es.toList ∧ (es.toList.map (·.2)).Perm vs ∧ es.size < scanBound ∧ t.fits es.size = true ∧ t.led = led ∧ (t.plain = false ∨ es.size = 0)

theorem isStrOf_str {w : World} (k y : Str) (t : Tok) : (strKind pr w).is k (.str y t) = (y == k) := rfl

theorem set_put {w : World} {A : Around} {E : Value → Shared → Prop} {s : Shared} {a : Addr} {es es' : Array (Int × Value)} {ep : Nat} {t t' : SetTable} {Q : Unit → Shared → Prop} (ho : s.heap.get? a = some (setO es ep t)) (hz : es'.size < scanBound)
    (h : ∀ h', Heap.SameBut a s.heap h' → h'.get? a = some (setO es' (ep + 1) t') → Q () { s with heap := h' }) : wpAny (model pr w) A (storeSet a es' t') Q E s := by
  refine wpAny_storeSet_of ho rfl (h _ (Heap.SameBut.update ..) ?_) (fits_of_scanBound hz)
  have := Heap.get?_update_self (Obj.putSet es' t') ho (by rfl)
  exact this

theorem findIdx_isS {w : World} (k : Str) : ∀ {l : List (Int × Value)}, (l.findIdx? fun e => (strKind pr w).is k e.2).isSome = (l.map (·.2)).any fun v => (strKind pr w).is k v
  | [] => rfl
  | e :: l => by
    rw [List.findIdx?_cons, List.map_cons, List.any_cons]
    cases h : (strKind pr w).is k e.2 with
    | true => simp
    | false => simp [← findIdx_isS (w := w) k (l := l)]

theorem set_add {w : World} {A : Around} {E : Value → Shared → Prop} {s : Shared} {a : Addr} {vs : List Value} {led : Bool} {k : Str} {tk : Tok} {Q : Bool → Shared → Prop} (hS : SetAt w s.heap a vs led) (hroom : vs.length + 1 < scanBound)
    (h : ∀ b h' n, Heap.SameBut a s.heap h' → SetAt w h' a (if vs.any (fun v => (strKind pr w).is k v) = true then vs else vs ++ [.str k tk]) led → Q b { s with heap := h', toks := n }) :
    wpAny (model pr w) A (setAdd a (.str k tk)) Q E s := by
  obtain ⟨es, ep, t, ho, hel, hp, hb, hf, hled, hpl⟩ := hS
  have hlen : es.size = vs.length := by rw [← Array.length_toList, ← List.length_map (f := (·.2)), hp.length_eq]
  have hkey : (strKind pr w).is k (.str k tk) = true := by rw [isStrOf_str]; simp
  unfold setAdd
  refine wpAny_holding (wpAny_bind ((strKind pr w).pyHash hkey ?_))
  unfold setAddHashed setAddHashedIn
  refine wpAny_holding (wpAny_bind (wpAny_setState_of (s := { s with toks := s.toks + 1 }) ho rfl hf ?_))
  dsimp only
  rw [byScan_of rfl hb hel]
  simp only [↓reduceIte]
  unfold setAddByScan
  refine wpAny_bind ?_
  refine wpAny_bind (wpAny_rule ?_)
  refine wpAny_bind (wpAny_setScan_of (s := { s with toks := s.toks + 1 }) hkey ho rfl hf hel ?_)
  have hany : (es.toList.findIdx? fun e => (strKind pr w).is k e.2).isSome = vs.any fun v => (strKind pr w).is k v := by
    rw [findIdx_isS, hp.any_eq]
  cases hr : List.findIdx? (fun e => (strKind pr w).is k e.2) es.toList with
  | some j =>
    dsimp only
    rw [hr] at hany
    refine wpAny_pure (wpAny_pure ?_)
    exact h _ s.heap _ (Heap.SameBut.refl a s.heap) (by rw [if_pos (by rw [← hany]; rfl)]; exact ⟨es, ep, t, ho, hel, hp, hb, hf, hled, hpl⟩)
  | none =>
    dsimp only
    rw [hr] at hany
    have hgw : ∀ (b : Bool) {s₁ : Shared} {Q' : Unit → Shared → Prop}, Q' () s₁ → wpAny (model pr w) A (match b with | true => rule "set.scan.the-table-gave-way" | false => pure ()) Q' E s₁ :=
      fun b s₁ Q' hq => by cases b <;> first | exact wpAny_pure hq | exact wpAny_rule hq
    have hb1 : es.size + 1 < scanBound := by omega
    have hperm := layNew_perm t es ((strKind pr w).hash k) (.str k tk)
    have hfits := layNew_fits t es ((strKind pr w).hash k) (.str k tk)
    have hlater := layNew_led t es ((strKind pr w).hash k) (.str k tk)
    generalize hL : layNew t es ((strKind pr w).hash k) (.str k tk) = L at hperm hfits hlater ⊢
    obtain ⟨es1, t1, wasDummy, gave⟩ := L
    dsimp only at hperm hfits hlater ⊢
    rw [Array.toList_push] at hperm
    have hel1 : ElemsOf (strKind pr w) es1.toList := (hel.push hkey rfl).perm hperm
    have hp1 : (es1.toList.map (·.2)).Perm (vs ++ [.str k tk]) := (hperm.map _).trans (by rw [List.map_append]; exact hp.append_right _)
    have hsz1 : es1.size = es.size + 1 := by rw [← Array.length_toList, hperm.length_eq, List.length_append, Array.length_toList]; rfl
    refine wpAny_bind (hgw _ ?_)
    have hno : ¬ (vs.any fun v => (strKind pr w).is k v) = true := by rw [← hany]; decide
    have fin : ∀ b h' n, Heap.SameBut a s.heap h' → SetAt w h' a (vs ++ [.str k tk]) led → Q b { s with heap := h', toks := n } := fun b h' n hs hS => h b h' n hs (by rw [if_neg hno]; exact hS)
    have hb1' : es1.size < scanBound := by omega
    have tail : ∀ (t2 : SetTable), t2.fits es1.size = true → t2.led = led → t2.plain = false → wpAny (model pr w) A (do
        storeSet a es1 t2
        if (!wasDummy && t2.tooFull) = true then do
            (match (relayAll t2 es1 (SetTable.grown es1.size)).2.2 with | true => rule "set.scan.the-table-gave-way" | false => pure ())
            storeSet a (relayAll t2 es1 (SetTable.grown es1.size)).1 (relayAll t2 es1 (SetTable.grown es1.size)).2.1
            pure (some true)
          else pure (some true)) (fun r s' => wpAny (model pr w) A (match r with | some added => pure added | none => setAddHashedIn a (.str k tk) ((strKind pr w).hash k) 99999) Q E s') E { s with toks := s.toks + 1 } := by
      intro t2 hf2 hl2 hp2
      refine wpAny_bind (set_put (s := { s with toks := s.toks + 1 }) ho hb1' fun h' hs ho' => ?_)
      split
      · have hpr := relayAll_perm t2 es1 (SetTable.grown es1.size)
        have hfr := relayAll_fits t2 es1 (SetTable.grown es1.size)
        have hlr := relayAll_led t2 es1 (SetTable.grown es1.size)
        generalize relayAll t2 es1 (SetTable.grown es1.size) = Rl at hpr hfr hlr ⊢
        obtain ⟨es2, t3, gave2⟩ := Rl
        dsimp only at hpr hfr hlr ⊢
        have hsz2 : es2.size = es1.size := by rw [← Array.length_toList, hpr.length_eq, Array.length_toList]
        refine wpAny_bind (hgw _ (wpAny_bind (set_put ho' (by omega) fun h'' hs' ho'' => wpAny_pure (wpAny_pure ?_))))
        exact fin true h'' _ (hs.trans hs') ⟨es2, _, t3, ho'', hel1.perm hpr, (hpr.map _).trans hp1, by omega, hfr, hlr.1.trans hl2, .inl (hlr.2 hp2)⟩
      · exact wpAny_pure (wpAny_pure (fin true h' _ hs ⟨es1, _, t2, ho', hel1, hp1, hb1', hf2, hl2, .inl hp2⟩))
    split
    · refine wpAny_bind ?_
      rw [hashByValue_scannable 8 rfl]
      refine wpAny_pure ?_
      exact tail { t1 with plain := false } (SetTable.fits_plain_off hfits) (hlater.1.trans hled) rfl
    · rename_i hpf
      refine wpAny_bind (wpAny_pure ?_)
      simp only [↓reduceIte]
      exact tail t1 hfits (hlater.1.trans hled) (by simpa using hpf)
end Mine
end

section
open PySem PySem.W PyProof.Rows
set_option autoImplicit false
set_option linter.all false
set_option maxRecDepth 100000
namespace Mine

theorem wpAny_choose {M : Model} {A : Around} {E : Value → Shared → Prop} {s : Shared} {n : Nat} {Q : Nat → Shared → Prop} (hn : n ≠ 0) (h : ∀ i d, i < n → Q i { s with drawn := d }) : wpAny M A (choose .order n) Q E s :=
  fun Γ p hΓ => ⟨hn, h _ _ (Nat.mod_lt _ (Nat.pos_of_ne_zero hn))⟩

theorem erase_perm {α : Type} : ∀ (l : List α) (i : Nat) (h : i < l.length), (l[i] :: l.eraseIdx i).Perm l
  | x :: l, 0, h => .refl _
  | x :: l, i + 1, h => by
    have := erase_perm l i (by simpa using h)
    exact (List.Perm.swap x _ _).trans (this.cons x)

theorem drawOrder_any {α : Type} {M : Model} {A : Around} {E : Value → Shared → Prop} : ∀ (n : Nat) (xs : List α) (s : Shared) (Q : List α → Shared → Prop), xs.length ≤ n → (∀ ys d, ys.Perm xs → Q ys { s with drawn := d }) → wpAny M A (drawOrder n xs) Q E s
  | 0, xs, s, Q, hl, h => by
    have : xs = [] := List.length_eq_zero_iff.mp (Nat.le_zero.mp hl)
    subst this
    rw [drawOrder]
    exact wpAny_pure (h [] s.drawn (.refl _))
  | n + 1, [], s, Q, hl, h => by
    rw [drawOrder]
    · exact wpAny_pure (h [] s.drawn (.refl _))
    · intro q; cases q
  | n + 1, x :: xs, s, Q, hl, h => by
    rw [drawOrder]
    · refine wpAny_bind (wpAny_choose (by simp) fun i d hi => ?_)
      rw [List.getElem?_eq_getElem hi]
      refine wpAny_bind (drawOrder_any n _ _ _ (by rw [List.length_eraseIdx_of_lt hi]; simp at hl ⊢; omega) fun ys d' hp => ?_)
      exact wpAny_pure (h _ d' ((hp.cons _).trans (erase_perm _ i hi)))
    · simp
end Mine
end

section
open PySem PySem.W PyProof.Rows
set_option autoImplicit false
set_option linter.all false
set_option maxRecDepth 100000
namespace Mine

theorem pick_go {α : Type} (f : Nat → Nat) : ∀ (n k : Nat) (left : List α) (out : Array α), left.length = n → (pickOrder.go f n k left out).toList.Perm (out.toList ++ left)
  | 0, k, left, out, h => by
    have : left = [] := List.length_eq_zero_iff.mp h
    subst this
    rw [pickOrder.go]; simp
  | n + 1, k, left, out, h => by
    rw [pickOrder.go]
    have hlt : f k % left.length < left.length := Nat.mod_lt _ (by omega)
    rw [List.getElem?_eq_getElem hlt]
    dsimp only
    refine (pick_go f n (k + 1) _ _ (by rw [List.length_eraseIdx_of_lt hlt]; omega)).trans ?_
    rw [Array.toList_push, List.append_assoc]
    exact List.Perm.append_left _ (erase_perm left _ hlt)
theorem pick_perm {α : Type} (f : Nat → Nat) (xs : Array α) : (pickOrder f xs).toList.Perm xs.toList := by
  unfold pickOrder
  have := pick_go f xs.size 0 xs.toList #[] (by simp)
  simpa using this
end Mine
end

section
open PySem PySem.W PyProof.Rows
set_option autoImplicit false
set_option linter.all false
set_option maxRecDepth 100000
namespace Mine

theorem slot_setit_next : Slot "set_iterator" (Str.ofString "__next__") "set_iterator.__next__" :=
  .of (owner := "set_iterator") (n := "__next__") (by rw [typeLookup_type, builtinLookup_eq_fast]; kernel_rfl) (by decide +kernel) (by decide +kernel) (by decide +kernel)
    (by first | exact .inl (by decide +kernel) | exact .inr (by decide +kernel)) (by rw [isSubtype_type]; kernel_rfl)
theorem entry_setit_next : entryFor table "set_iterator.__next__" = some Builtin.«set_iterator.__next__» := entryFor_of_tree (by kernel_rfl)
theorem args_setit_next (a : Value) : argsOk "set_iterator.__next__" ⟨[a], []⟩ := by unfold argsOk; kernel_rfl
theorem slot_setit_iter : Slot "set_iterator" (Str.ofString "__iter__") "set_iterator.__iter__" :=
  .of (owner := "set_iterator") (n := "__iter__") (by rw [typeLookup_type, builtinLookup_eq_fast]; kernel_rfl) (by decide +kernel) (by decide +kernel) (by decide +kernel)
    (by first | exact .inl (by decide +kernel) | exact .inr (by decide +kernel)) (by rw [isSubtype_type]; kernel_rfl)
theorem entry_setit_iter : entryFor table "set_iterator.__iter__" = some Builtin.«dict_keyiterator.__iter__» :=
  entryFor_alias (id' := "dict_keyiterator.__iter__") (by rw [fastTable_eq_tree]; kernel_rfl) rfl (by decide +kernel) (by rw [fastTable_eq_tree]; kernel_rfl)
theorem args_setit_iter (a : Value) : argsOk "set_iterator.__iter__" ⟨[a], []⟩ := by unfold argsOk; kernel_rfl
theorem entry_set_iter : entryFor table "set.__iter__" = some Builtin.«frozenset.__iter__» :=
  entryFor_alias (id' := "frozenset.__iter__") (by rw [fastTable_eq_tree]; kernel_rfl) rfl (by decide +kernel) (by rw [fastTable_eq_tree]; kernel_rfl)
end Mine
end

section
open PySem PySem.W PyProof.Rows
set_option autoImplicit false
set_option linter.all false
set_option maxRecDepth 100000
namespace Mine

noncomputable abbrev setIt (first : Value) (i : Nat) (a : Value) (n ep : Nat) : Obj := { cls := .type "set_iterator", data := .fields #[first, rawInt i, a, rawInt n, rawInt ep] }

theorem field_put {M : Model} {A : Around} {E : Value → Shared → Prop} {s : Shared} {I : Addr} {c : Value} {fs : Array Value} {k : Nat} {x : Value} {Q : Unit → Shared → Prop} (ho : s.heap.get? I = some { cls := c, data := .fields fs }) (hk : k < fs.size)
    (h : ∀ h', Heap.SameBut I s.heap h' → h'.get? I = some { cls := c, data := .fields (fs.setIfInBounds k x) } → Q () { s with heap := h' }) : wpAny M A (setField (.ref I) k x) Q E s := by
  refine wpAny_setField ho rfl hk (h _ (Heap.SameBut.update ..) ?_)
  exact Heap.get?_update_self _ ho rfl


theorem next_drawn {w : World} {A : Around} {E : Value → Shared → Prop} {s : Shared} {I T a : Addr} {i n ep : Nat} {es : Array (Int × Value)} {t : SetTable} {places : List Nat} {p : Nat} {hx : Int} {x : Value} {k : Nat} {Q : Option Value → Shared → Prop}
    (hI : s.heap.get? I = some (setIt (.ref T) i (.ref a) n ep)) (hT : s.heap.get? T = some { cls := .type "tuple", data := .seq (places.map fun (i : Nat) => rawInt i).toArray k }) (ha : s.heap.get? a = some (setO es ep t)) (hf : t.fits es.size = true) (hn : es.size = n)
    (hp : places[i]? = some p) (he : es[p]? = some (hx, x))
    (hQ : ∀ h', Heap.SameBut I s.heap h' → h'.get? I = some (setIt (.ref T) (i + 1) (.ref a) n ep) → Q (some x) { s with heap := h' }) : wpAny (model pr w) A (pyNext (.ref I)) Q E s := by
  have hty : s.TypeIs (.ref I) "set_iterator" := ⟨_, hI, rfl⟩
  unfold pyNext
  refine wpAny_bind (wpAny_attempt (wpAny_callSpecial?_slot (name := Str.ofString "__next__") hty slot_setit_next (wpAny_call_entry slot_setit_next hty entry_setit_next ?_ (args_setit_next _))))
  unfold Builtin.«set_iterator.__next__»
  refine wpAny_bind (wpAny_pure ?_)
  refine wpAny_bind (wpAny_fieldsOf hI rfl ?_)
  dsimp only [rawInt]
  refine wpAny_bind (wpAny_bind (wpAny_setState_of ha rfl hf (wpAny_pure ?_)))
  refine wpAny_of_neg (by simp [hn]) ?_
  refine wpAny_bind (wpAny_seqItems hT rfl ?_)
  have e1 : (places.map fun (i : Nat) => rawInt i).toArray[(i : Int).toNat]? = some (rawInt p) := by simp [hp]
  dsimp only
  rw [e1]
  dsimp only [rawInt]
  unfold setNextDrawn
  refine wpAny_bind (wpAny_bind (wpAny_setState_of ha rfl hf ?_))
  dsimp only
  refine wpAny_of_neg (by simp) ?_
  have e2 : es[(p : Int).toNat]? = some (hx, x) := by simpa using he
  rw [e2]
  dsimp only
  refine wpAny_pure ?_
  refine wpAny_bind (field_put hI (by simp) fun h' hs hI' => wpAny_pure ⟨x, rfl, wpAny_pure (hQ h' hs ?_)⟩)
  rw [hI']
  simp [setIt, rawInt]
end Mine
end

section
open PySem PySem.W PyProof.Rows
set_option autoImplicit false
set_option linter.all false
set_option maxRecDepth 100000
namespace Mine

theorem stop_tail {M : Model} {A : Around} {E : Value → Shared → Prop} {s : Shared} {Q : Option Value → Shared → Prop} {Q' : PySem.Fin → Shared → Prop} (hh : A.handled = none)
    (hQ : ∀ h', (∀ b o, s.heap.get? b = some o → h'.get? b = some o) → Q none { s with heap := h' }) :
    wpAny M A.in1 (do raiseNew (← newExc (.type "StopIteration") [])) Q' (fun e s' => wpAny M A (do if ← isInstance e (.type "StopIteration") then pure none else throw e) Q E s') s := by
  refine wpAny_bind ?_
  simp only [newExc, newTuple]
  refine wpAny_bind (wpAny_newObj_type ?_ (by size_fits))
  refine wpAny_bind (m := firstArgMember _ _) (wpAny_of_eq (a := Value.none) (by first | rfl | (simp only [firstArgMember]; rfl)) ?_)
  refine wpAny_newObj_type ?_ (by size_fits)
  simp only [raiseNew]
  refine wpAny_bind (wpAny_handled ?_)
  first | rw [show A.in1.handled = none from hh] | rw [hh]
  refine wpAny_bind (wpAny_pure (wpAny_throw ?_))
  refine wpAny_bind (wpAny_isInstance (T := "StopIteration") (b := true) ⟨_, Heap.get?_push_size _ rfl, rfl⟩ isSubtype_stop ?_)
  exact wpAny_pure (hQ _ fun b o e => Heap.get?_push_of_some _ (Heap.get?_push_of_some _ e))

theorem next_drawn_end {w : World} {A : Around} {E : Value → Shared → Prop} {s : Shared} {I T a : Addr} {i n ep : Nat} {es : Array (Int × Value)} {t : SetTable} {places : List Nat} {k : Nat} {Q : Option Value → Shared → Prop} (hh : A.handled = none)
    (hI : s.heap.get? I = some (setIt (.ref T) i (.ref a) n ep)) (hT : s.heap.get? T = some { cls := .type "tuple", data := .seq (places.map fun (i : Nat) => rawInt i).toArray k }) (ha : s.heap.get? a = some (setO es ep t)) (hf : t.fits es.size = true) (hn : es.size = n)
    (hp : places[i]? = none) (hQ : ∀ h', (∀ b o, b ≠ I → s.heap.get? b = some o → h'.get? b = some o) → Q none { s with heap := h' }) : wpAny (model pr w) A (pyNext (.ref I)) Q E s := by
  have hty : s.TypeIs (.ref I) "set_iterator" := ⟨_, hI, rfl⟩
  unfold pyNext
  refine wpAny_bind (wpAny_attempt (wpAny_callSpecial?_slot (name := Str.ofString "__next__") hty slot_setit_next (wpAny_call_entry slot_setit_next hty entry_setit_next ?_ (args_setit_next _))))
  unfold Builtin.«set_iterator.__next__»
  refine wpAny_bind (wpAny_pure ?_)
  refine wpAny_bind (wpAny_fieldsOf hI rfl ?_)
  dsimp only [rawInt]
  refine wpAny_bind (wpAny_bind (wpAny_setState_of ha rfl hf (wpAny_pure ?_)))
  refine wpAny_of_neg (by simp [hn]) ?_
  refine wpAny_bind (wpAny_seqItems hT rfl ?_)
  have e1 : (places.map fun (i : Nat) => rawInt i).toArray[(i : Int).toNat]? = none := by simpa using hp
  dsimp only
  rw [e1]
  dsimp only
  refine wpAny_bind (field_put hI (by simp) fun h1 hs1 hI1 => wpAny_bind (field_put hI1 (by simp) fun h2 hs2 hI2 => ?_))
  exact stop_tail hh fun h3 hk => hQ h3 fun b o hb e => hk b o ((hs2.2 b hb).trans ((hs1.2 b hb).trans e))

/-- the world leads the sets' order -/
noncomputable abbrev byText (w : World) : Bool := w.params.followText "set-order"

theorem next_text {w : World} {A : Around} {E : Value → Shared → Prop} {s : Shared} {I a : Addr} {sl : Nat} {i n ep : Nat} {es : Array (Int × Value)} {t : SetTable} {x : Value} {hx : Int} {Q : Option Value → Shared → Prop} (hw : byText w = true)
    (hI : s.heap.get? I = some (setIt (rawInt sl) i (.ref a) n ep)) (ha : s.heap.get? a = some (setO es ep t)) (hf : t.fits es.size = true) (hn : es.size = n)
    (hp : (pickOrder (w.params.setOrder a ep) es)[i]? = some (hx, x))
    (hQ : ∀ h', Heap.SameBut I s.heap h' → h'.get? I = some (setIt (rawInt sl) (i + 1) (.ref a) n ep) → Q (some x) { s with heap := h' }) : wpAny (model pr w) A (pyNext (.ref I)) Q E s := by
  have hty : s.TypeIs (.ref I) "set_iterator" := ⟨_, hI, rfl⟩
  unfold pyNext
  refine wpAny_bind (wpAny_attempt (wpAny_callSpecial?_slot (name := Str.ofString "__next__") hty slot_setit_next (wpAny_call_entry slot_setit_next hty entry_setit_next ?_ (args_setit_next _))))
  unfold Builtin.«set_iterator.__next__»
  refine wpAny_bind (wpAny_pure ?_)
  refine wpAny_bind (wpAny_fieldsOf hI rfl ?_)
  dsimp only [rawInt]
  refine wpAny_bind (wpAny_bind (wpAny_setState_of ha rfl hf (wpAny_pure ?_)))
  refine wpAny_of_neg (by simp [hn]) ?_
  unfold setNext
  refine wpAny_bind (wpAny_bind (wpAny_setState_of ha rfl hf ?_))
  dsimp only
  refine wpAny_bind (wpAny_bind (wpAny_askSetting (wpAny_pure ?_)))
  refine wpAny_of_pos hw ?_
  refine wpAny_of_neg (by simp) ?_
  unfold setWalk
  refine wpAny_bind (wpAny_bind (wpAny_setState_of ha rfl hf ?_))
  dsimp only
  refine wpAny_bind (wpAny_bind (wpAny_askSetting (wpAny_pure ?_)))
  refine wpAny_of_pos hw ?_
  refine wpAny_bind (wpAny_askSetting (wpAny_pure (wpAny_pure ?_)))
  have e1 : (pickOrder (w.params.setOrder a ep) es)[(i : Int).toNat]? = some (hx, x) := by simpa using hp
  show wpAny _ _ (match Option.map (fun e => (e.2, (sl : Int).toNat)) (pickOrder (w.params.setOrder a ep) es)[(i : Int).toNat]? with | some (x, next) => _ | none => _) _ _ _
  rw [e1]
  refine wpAny_bind (field_put hI (by simp) fun h1 hs1 hI1 => wpAny_bind (field_put hI1 (by simp) fun h2 hs2 hI2 => wpAny_pure ⟨x, rfl, wpAny_pure (hQ h2 (hs1.trans hs2) ?_)⟩))
  rw [hI2]
  simp [setIt, rawInt]
theorem next_text_end {w : World} {A : Around} {E : Value → Shared → Prop} {s : Shared} {I a : Addr} {sl : Nat} {i n ep : Nat} {es : Array (Int × Value)} {t : SetTable} {Q : Option Value → Shared → Prop} (hh : A.handled = none) (hw : byText w = true)
    (hI : s.heap.get? I = some (setIt (rawInt sl) i (.ref a) n ep)) (ha : s.heap.get? a = some (setO es ep t)) (hf : t.fits es.size = true) (hn : es.size = n)
    (hp : (pickOrder (w.params.setOrder a ep) es)[i]? = none)
    (hQ : ∀ h', (∀ b o, b ≠ I → s.heap.get? b = some o → h'.get? b = some o) → Q none { s with heap := h' }) : wpAny (model pr w) A (pyNext (.ref I)) Q E s := by
  have hty : s.TypeIs (.ref I) "set_iterator" := ⟨_, hI, rfl⟩
  unfold pyNext
  refine wpAny_bind (wpAny_attempt (wpAny_callSpecial?_slot (name := Str.ofString "__next__") hty slot_setit_next (wpAny_call_entry slot_setit_next hty entry_setit_next ?_ (args_setit_next _))))
  unfold Builtin.«set_iterator.__next__»
  refine wpAny_bind (wpAny_pure ?_)
  refine wpAny_bind (wpAny_fieldsOf hI rfl ?_)
  dsimp only [rawInt]
  refine wpAny_bind (wpAny_bind (wpAny_setState_of ha rfl hf (wpAny_pure ?_)))
  refine wpAny_of_neg (by simp [hn]) ?_
  unfold setNext
  refine wpAny_bind (wpAny_bind (wpAny_setState_of ha rfl hf ?_))
  dsimp only
  refine wpAny_bind (wpAny_bind (wpAny_askSetting (wpAny_pure ?_)))
  refine wpAny_of_pos hw ?_
  refine wpAny_of_neg (by simp) ?_
  unfold setWalk
  refine wpAny_bind (wpAny_bind (wpAny_setState_of ha rfl hf ?_))
  dsimp only
  refine wpAny_bind (wpAny_bind (wpAny_askSetting (wpAny_pure ?_)))
  refine wpAny_of_pos hw ?_
  refine wpAny_bind (wpAny_askSetting (wpAny_pure (wpAny_pure ?_)))
  have e1 : (pickOrder (w.params.setOrder a ep) es)[(i : Int).toNat]? = none := by simpa using hp
  show wpAny _ _ (match Option.map (fun e => (e.2, (sl : Int).toNat)) (pickOrder (w.params.setOrder a ep) es)[(i : Int).toNat]? with | some (x, next) => _ | none => _) _ _ _
  rw [e1]
  refine wpAny_bind (field_put hI (by simp) fun h1 hs1 hI1 => ?_)
  exact stop_tail hh fun h3 hk => hQ h3 fun b o hb e => hk b o ((hs1.2 b hb).trans e)
end Mine
end

section
open PySem PySem.W PyProof.Rows
set_option autoImplicit false
set_option linter.all false
set_option maxRecDepth 100000
namespace Mine

theorem next_plain {w : World} {A : Around} {E : Value → Shared → Prop} {s : Shared} {I a : Addr} {sl : Nat} {i n ep : Nat} {es : Array (Int × Value)} {t : SetTable} {x : Value} {hx : Int} {j : Nat} {Q : Option Value → Shared → Prop} (hw : byText w = false) (hled : t.led = true ∨ es.size = 0) (hsz : es.size ≤ 1)
    (hI : s.heap.get? I = some (setIt (rawInt sl) i (.ref a) n ep)) (ha : s.heap.get? a = some (setO es ep t)) (hf : t.fits es.size = true) (hn : es.size = n)
    (h1 : es[SetTable.below t.place sl]? = some (hx, x)) (h2 : t.place[SetTable.below t.place sl]? = some j)
    (hQ : ∀ h', Heap.SameBut I s.heap h' → h'.get? I = some (setIt (rawInt (j + 1 : Nat)) (i + 1) (.ref a) n ep) → Q (some x) { s with heap := h' }) : wpAny (model pr w) A (pyNext (.ref I)) Q E s := by
  have hty : s.TypeIs (.ref I) "set_iterator" := ⟨_, hI, rfl⟩
  unfold pyNext
  refine wpAny_bind (wpAny_attempt (wpAny_callSpecial?_slot (name := Str.ofString "__next__") hty slot_setit_next (wpAny_call_entry slot_setit_next hty entry_setit_next ?_ (args_setit_next _))))
  unfold Builtin.«set_iterator.__next__»
  refine wpAny_bind (wpAny_pure ?_)
  refine wpAny_bind (wpAny_fieldsOf hI rfl ?_)
  dsimp only [rawInt]
  refine wpAny_bind (wpAny_bind (wpAny_setState_of ha rfl hf (wpAny_pure ?_)))
  refine wpAny_of_neg (by simp [hn]) ?_
  unfold setNext
  refine wpAny_bind (wpAny_bind (wpAny_setState_of ha rfl hf ?_))
  dsimp only
  refine wpAny_bind (wpAny_bind (wpAny_askSetting (wpAny_pure ?_)))
  refine wpAny_of_neg (by show ¬ byText w = true; rw [hw]; decide) ?_
  refine wpAny_of_neg (by show ¬ (!t.plain && decide (es.size > 1)) = true; simp; intro _; omega) ?_
  refine wpAny_bind ?_
  show wpAny _ _ (if (!t.led && !es.isEmpty) = true then (unsupported "set:maker-not-led" : Sem Unit) else pure ()) _ _ _
  refine wpAny_of_neg (by
    rcases hled with h | h
    · rw [h]; simp
    · have : es = #[] := Array.eq_empty_of_size_eq_zero h
      rw [this]; simp) (wpAny_pure (wpAny_pure ?_))
  have e1 : es[SetTable.below t.place (sl : Int).toNat]? = some (hx, x) := h1
  have e2 : t.place[SetTable.below t.place (sl : Int).toNat]? = some j := h2
  rw [e1, e2]
  refine wpAny_bind (field_put hI (by simp) fun h1 hs1 hI1 => wpAny_bind (field_put hI1 (by simp) fun h2 hs2 hI2 => wpAny_pure ⟨x, rfl, wpAny_pure (hQ h2 (hs1.trans hs2) ?_)⟩))
  rw [hI2]
  simp [setIt, rawInt]
theorem next_plain_end {w : World} {A : Around} {E : Value → Shared → Prop} {s : Shared} {I a : Addr} {sl : Nat} {i n ep : Nat} {es : Array (Int × Value)} {t : SetTable} {Q : Option Value → Shared → Prop} (hh : A.handled = none) (hw : byText w = false) (hled : t.led = true ∨ es.size = 0) (hsz : es.size ≤ 1)
    (hI : s.heap.get? I = some (setIt (rawInt sl) i (.ref a) n ep)) (ha : s.heap.get? a = some (setO es ep t)) (hf : t.fits es.size = true) (hn : es.size = n)
    (h1 : es[SetTable.below t.place sl]? = none)
    (hQ : ∀ h', (∀ b o, b ≠ I → s.heap.get? b = some o → h'.get? b = some o) → Q none { s with heap := h' }) : wpAny (model pr w) A (pyNext (.ref I)) Q E s := by
  have hty : s.TypeIs (.ref I) "set_iterator" := ⟨_, hI, rfl⟩
  unfold pyNext
  refine wpAny_bind (wpAny_attempt (wpAny_callSpecial?_slot (name := Str.ofString "__next__") hty slot_setit_next (wpAny_call_entry slot_setit_next hty entry_setit_next ?_ (args_setit_next _))))
  unfold Builtin.«set_iterator.__next__»
  refine wpAny_bind (wpAny_pure ?_)
  refine wpAny_bind (wpAny_fieldsOf hI rfl ?_)
  dsimp only [rawInt]
  refine wpAny_bind (wpAny_bind (wpAny_setState_of ha rfl hf (wpAny_pure ?_)))
  refine wpAny_of_neg (by simp [hn]) ?_
  unfold setNext
  refine wpAny_bind (wpAny_bind (wpAny_setState_of ha rfl hf ?_))
  dsimp only
  refine wpAny_bind (wpAny_bind (wpAny_askSetting (wpAny_pure ?_)))
  refine wpAny_of_neg (by show ¬ byText w = true; rw [hw]; decide) ?_
  refine wpAny_of_neg (by show ¬ (!t.plain && decide (es.size > 1)) = true; simp; intro _; omega) ?_
  refine wpAny_bind ?_
  show wpAny _ _ (if (!t.led && !es.isEmpty) = true then (unsupported "set:maker-not-led" : Sem Unit) else pure ()) _ _ _
  refine wpAny_of_neg (by
    rcases hled with h | h
    · rw [h]; simp
    · have : es = #[] := Array.eq_empty_of_size_eq_zero h
      rw [this]; simp) (wpAny_pure (wpAny_pure ?_))
  have e1 : es[SetTable.below t.place (sl : Int).toNat]? = none := h1
  rw [e1]
  refine wpAny_bind (field_put hI (by simp) fun h1 hs1 hI1 => ?_)
  exact stop_tail hh fun h3 hk => hQ h3 fun b o hb e => hk b o ((hs1.2 b hb).trans e)
end Mine
end

section
open PySem PySem.W PyProof.Rows
set_option autoImplicit false
set_option linter.all false
set_option maxRecDepth 100000
namespace Mine

theorem setit_self {w : World} {A : Around} {E : Value → Shared → Prop} {s : Shared} {I : Addr} {o : Obj} {Q : Value → Shared → Prop} (hI : s.heap.get? I = some o) (hc : o.cls = .type "set_iterator") (h : Q (.ref I) s) : wpAny (model pr w) A (pyIter (.ref I)) Q E s := by
  have hT : s.TypeIs (.ref I) "set_iterator" := ⟨_, hI, hc⟩
  refine wpAny_pyIter_slot hT slot_setit_iter (wpAny_call_entry slot_setit_iter hT entry_setit_iter ?_ (args_setit_iter _))
  show wpAny _ _ (ret (.ref I)) _ _ s
  exact wpAny_pure ⟨_, rfl, "set_iterator", _, hT, slot_setit_next.lookup, h⟩

theorem walks_drawn {w : World} {A : Around} (hh : A.handled = none) {I T a : Addr} {n ep : Nat} {es : Array (Int × Value)} {t : SetTable} {places : List Nat} {k : Nat} (hIT : T ≠ I) (hIa : a ≠ I) (hf : t.fits es.size = true) (hn : es.size = n) (hp : places.Perm (List.range n)) :
    Walks pr w A I [I, T, a] [I] n (fun i v => (places.map fun p => (es[p]?.map (·.2)).getD .none)[i]? = some v) (fun i h => h.get? I = some (setIt (.ref T) i (.ref a) n ep) ∧ h.get? T = some { cls := .type "tuple", data := .seq (places.map fun (i : Nat) => rawInt i).toArray k } ∧ h.get? a = some (setO es ep t)) where
  sub := fun b hb => by simp at hb; simp [hb]
  frame := fun i h h' st hk => ⟨hk I (by simp) _ st.1, hk T (by simp) _ st.2.1, hk a (by simp) _ st.2.2⟩
  item := fun i s Q E hi st hQ => by
    have hlen : places.length = n := by rw [hp.length_eq, List.length_range]
    have hp1 : places[i]? = some places[i] := List.getElem?_eq_getElem (by omega)
    have hlt : places[i] < es.size := by rw [hn]; exact List.mem_range.mp (hp.mem_iff.mp (List.getElem_mem (by omega)))
    have he : es[places[i]]? = some (es[places[i]].1, es[places[i]].2) := Array.getElem?_eq_getElem hlt
    refine next_drawn st.1 st.2.1 st.2.2 hf hn hp1 he fun h' hs hI' => ?_
    refine hQ _ h' s.toks ?_ ⟨hI', (hs.2 T hIT).trans st.2.1, (hs.2 a hIa).trans st.2.2⟩ fun b o hb e => (hs.2 b (fun q => hb (by simp [q]))).trans e
    rw [List.getElem?_map, hp1]
    simp [he]
  done := fun s Q E st hQ => by
    have hlen : places.length = n := by rw [hp.length_eq, List.length_range]
    refine next_drawn_end hh st.1 st.2.1 st.2.2 hf hn (List.getElem?_eq_none (by omega)) fun h' hk => ?_
    exact hQ h' s.toks fun b o hb e => hk b o (fun q => hb (by simp [q])) e
  self := fun i s Q E st h => setit_self st.1 rfl h

theorem walks_text {w : World} {A : Around} (hh : A.handled = none) (hw : byText w = true) {I a : Addr} {n ep : Nat} {es : Array (Int × Value)} {t : SetTable} {sl : Nat} (hIa : a ≠ I) (hf : t.fits es.size = true) (hn : es.size = n) :
    Walks pr w A I [I, a] [I] n (fun i v => ((pickOrder (w.params.setOrder a ep) es).toList.map (·.2))[i]? = some v) (fun i h => h.get? I = some (setIt (rawInt sl) i (.ref a) n ep) ∧ h.get? a = some (setO es ep t)) where
  sub := fun b hb => by simp at hb; simp [hb]
  frame := fun i h h' st hk => ⟨hk I (by simp) _ st.1, hk a (by simp) _ st.2⟩
  item := fun i s Q E hi st hQ => by
    have hlen : (pickOrder (w.params.setOrder a ep) es).size = n := by rw [← Array.length_toList, (pick_perm _ es).length_eq, Array.length_toList, hn]
    have hp1 : (pickOrder (w.params.setOrder a ep) es)[i]? = some ((pickOrder (w.params.setOrder a ep) es)[i].1, (pickOrder (w.params.setOrder a ep) es)[i].2) := Array.getElem?_eq_getElem (by omega)
    refine next_text hw st.1 st.2 hf hn hp1 fun h' hs hI' => ?_
    refine hQ _ h' s.toks ?_ ⟨hI', (hs.2 a hIa).trans st.2⟩ fun b o hb e => (hs.2 b (fun q => hb (by simp [q]))).trans e
    rw [List.getElem?_map, Array.getElem?_toList, hp1]
    rfl
  done := fun s Q E st hQ => by
    have hlen : (pickOrder (w.params.setOrder a ep) es).size = n := by rw [← Array.length_toList, (pick_perm _ es).length_eq, Array.length_toList, hn]
    refine next_text_end hh hw st.1 st.2 hf hn (Array.getElem?_eq_none (by omega)) fun h' hk => ?_
    exact hQ h' s.toks fun b o hb e => hk b o (fun q => hb (by simp [q])) e
  self := fun i s Q E st h => setit_self st.1 rfl h
end Mine
end

section
open PySem PySem.W PyProof.Rows
set_option autoImplicit false
set_option linter.all false
set_option maxRecDepth 100000
namespace Mine

theorem below_one (j sl : Nat) : SetTable.below #[j] sl = if j < sl then 1 else 0 := by
  unfold SetTable.below
  simp [SetTable.below.go]

theorem walks_plain0 {w : World} {A : Around} (hh : A.handled = none) (hw : byText w = false) {I a : Addr} {ep : Nat} {es : Array (Int × Value)} {t : SetTable} (hIa : a ≠ I) (hf : t.fits es.size = true) (hn : es.size = 0) {P : Nat → Value → Prop} :
    Walks pr w A I [I, a] [I] 0 P (fun i h => i = 0 ∧ h.get? I = some (setIt (rawInt (0 : Nat)) 0 (.ref a) 0 ep) ∧ h.get? a = some (setO es ep t)) where
  sub := fun b hb => by simp at hb; simp [hb]
  frame := fun i h h' st hk => ⟨st.1, hk I (by simp) _ st.2.1, hk a (by simp) _ st.2.2⟩
  item := fun i s Q E hi st hQ => absurd hi (Nat.not_lt_zero i)
  done := fun s Q E st hQ => next_plain_end hh hw (.inr hn) (by omega) st.2.1 st.2.2 hf hn (Array.getElem?_eq_none (by omega)) fun h' hk => hQ h' s.toks fun b o hb e => hk b o (fun q => hb (by simp [q])) e
  self := fun i s Q E st h => setit_self st.2.1 rfl h

theorem walks_plain1 {w : World} {A : Around} (hh : A.handled = none) (hw : byText w = false) {I a : Addr} {ep : Nat} {hx : Int} {x : Value} {t : SetTable} {j : Nat} (hled : t.led = true) (hpl : t.place = #[j]) (hIa : a ≠ I) (hf : t.fits 1 = true) :
    Walks pr w A I [I, a] [I] 1 (fun i v => [x][i]? = some v) (fun i h => (h.get? I = some (setIt (rawInt (if i = 0 then 0 else j + 1 : Nat)) i (.ref a) 1 ep)) ∧ h.get? a = some (setO #[(hx, x)] ep t)) where
  sub := fun b hb => by simp at hb; simp [hb]
  frame := fun i h h' st hk => ⟨hk I (by simp) _ st.1, hk a (by simp) _ st.2⟩
  item := fun i s Q E hi st hQ => by
    have h0 : i = 0 := by omega
    subst h0
    have hb : SetTable.below t.place 0 = 0 := by rw [hpl, below_one]; simp
    refine next_plain (x := x) (hx := hx) (j := j) hw (.inl hled) (by simp) st.1 st.2 hf rfl (by show #[(hx, x)][SetTable.below t.place 0]? = _; rw [hb]; rfl) (by show t.place[SetTable.below t.place 0]? = _; rw [hb, hpl]; rfl) fun h' hs hI' => ?_
    exact hQ x h' s.toks rfl ⟨hI', (hs.2 a hIa).trans st.2⟩ fun b o hb e => (hs.2 b (fun q => hb (by simp [q]))).trans e
  done := fun s Q E st hQ => by
    have hb : SetTable.below t.place (j + 1) = 1 := by rw [hpl, below_one]; simp
    refine next_plain_end hh hw (.inl hled) (by simp) st.1 st.2 hf rfl (by show #[(hx, x)][SetTable.below t.place (j + 1)]? = _; rw [hb]; rfl) fun h' hk => hQ h' s.toks fun b o hb e => hk b o (fun q => hb (by simp [q])) e
  self := fun i s Q E st h => setit_self st.1 rfl h
end Mine
end

section
open PySem PySem.W PyProof.Rows
set_option autoImplicit false
set_option linter.all false
set_option maxRecDepth 100000
namespace Mine

/-- what iter(set) hands over -/
structure SetWalk (w : World) (h : Heap) (n0 : Nat) (a I : Addr) (vs order : List Value) : Prop where
  perm : order.Perm vs
  ex : ∃ fp St, (∀ A : Around, A.handled = none → Walks pr w A I fp [I] vs.length (fun i v => order[i]? = some v) St) ∧ St 0 h ∧ I ∈ fp ∧ (∀ b ∈ fp, b < h.objs.size) ∧ (∀ b ∈ fp, b = a ∨ n0 ≤ b) ∧ n0 ≤ I ∧ ∃ o, h.get? I = some o ∧ o.cls = .type "set_iterator"

theorem set_iter {w : World} {A : Around} {E : Value → Shared → Prop} {s : Shared} {a : Addr} {vs : List Value} {led : Bool} {Q : Value → Shared → Prop} (hS : SetAt w s.heap a vs led) (hled : led = !byText w)
    (h : ∀ I h' d order, (∀ b o, s.heap.get? b = some o → h'.get? b = some o) → SetWalk w h' s.heap.objs.size a I vs order → Q (.ref I) { s with heap := h', drawn := d }) : wpAny (model pr w) A (pyIter (.ref a)) Q E s := by
  obtain ⟨es, ep, t, ho, hel, hp, hb, hf, hl, hpl⟩ := hS
  have hlen : es.size = vs.length := by rw [← Array.length_toList, ← List.length_map (f := (·.2)), hp.length_eq]
  have hT : s.TypeIs (.ref a) "set" := ⟨_, ho, rfl⟩
  refine wpAny_pyIter_slot hT PySem.F.slot_set_iter (wpAny_call_entry PySem.F.slot_set_iter hT entry_set_iter ?_ (PySem.F.args_set_iter_1 _))
  unfold Builtin.«frozenset.__iter__»
  refine wpAny_bind (wpAny_pure ?_)
  refine wpAny_bind (wpAny_bind (wpAny_bind (wpAny_setState_of ho rfl hf (wpAny_pure (wpAny_pure ?_)))))
  unfold setDrawn
  refine wpAny_bind (wpAny_bind (wpAny_setState_of ho rfl hf ?_))
  dsimp only
  refine wpAny_bind (wpAny_bind (wpAny_askSetting (wpAny_pure (wpAny_pure ?_))))
  have ha : a < s.heap.objs.size := Heap.lt_size ho
  have fin : ∀ (order : List Value) (fp : List Addr) (St : Nat → Heap → Prop), order.Perm vs → (∀ A : Around, A.handled = none → Walks pr w A s.heap.objs.size fp [s.heap.objs.size] es.size (fun i v => order[i]? = some v) St) →
      St 0 (s.heap.push (setIt (rawInt 0) 0 (.ref a) es.size ep)) → s.heap.objs.size ∈ fp → (∀ b ∈ fp, b ≤ s.heap.objs.size) → (∀ b ∈ fp, b = a ∨ s.heap.objs.size ≤ b) →
      wpAny (model pr w) A.in1 (do
        let first ← (pure (rawInt 0) : Sem Value)
        let e ← setEpoch a
        let r ← newFields "set_iterator" [first, rawInt 0, .ref a, rawInt es.size, rawInt e]
        ret r) (fun fin s' => ∃ v, fin = .done (.ret v) ∧ ∃ T' r, s'.TypeIs v T' ∧ typeLookup (.type T') (Str.ofString "__next__") = pure (some r) ∧ Q v s') E s := by
    intro order fp St hpo W hst hI hfp hfa
    refine wpAny_bind (wpAny_pure (wpAny_bind (wpAny_setEpoch_of ho rfl hf ?_)))
    unfold newFields
    refine wpAny_bind (wpAny_newObj_type ?_)
    have hnew : (s.heap.push (setIt (rawInt 0) 0 (.ref a) es.size ep)).get? s.heap.objs.size = some (setIt (rawInt 0) 0 (.ref a) es.size ep) := Heap.get?_push_size _ rfl
    refine wpAny_pure ⟨_, rfl, "set_iterator", _, ⟨_, hnew, rfl⟩, slot_setit_next.lookup, ?_⟩
    refine h s.heap.objs.size (s.heap.push (setIt (rawInt 0) 0 (.ref a) es.size ep)) s.drawn order (fun b o e => Heap.get?_push_of_some _ e) ⟨hpo, fp, St, (fun A hA => by rw [← hlen]; exact W A hA), hst, hI, fun b hb => ?_, hfa, Nat.le_refl _, _, hnew, rfl⟩
    rw [Heap.size_push]; exact Nat.lt_succ_of_le (hfp b hb)
  have hne : a ≠ s.heap.objs.size := Nat.ne_of_lt ha
  have hnew : (s.heap.push (setIt (rawInt 0) 0 (.ref a) es.size ep)).get? s.heap.objs.size = some (setIt (rawInt 0) 0 (.ref a) es.size ep) := Heap.get?_push_size _ rfl
  have hold : (s.heap.push (setIt (rawInt 0) 0 (.ref a) es.size ep)).get? a = some (setO es ep t) := Heap.get?_push_of_some _ ho
  have hfp2 : ∀ b ∈ [s.heap.objs.size, a], b ≤ s.heap.objs.size := fun b hb => by
    simp only [List.mem_cons, List.mem_nil_iff, or_false] at hb
    rcases hb with rfl | rfl
    · exact Nat.le_refl _
    · exact Nat.le_of_lt ha
  have hfa2 : ∀ b ∈ [s.heap.objs.size, a], b = a ∨ s.heap.objs.size ≤ b := fun b hb => by
    simp only [List.mem_cons, List.mem_nil_iff, or_false] at hb
    rcases hb with rfl | rfl
    · exact .inr (Nat.le_refl _)
    · exact .inl rfl
  cases hbt : byText w with
  | true =>
    refine wpAny_of_neg (by show ¬ (!(byText w) && _) = true; rw [hbt]; simp) ?_
    refine fin ((pickOrder (w.params.setOrder a ep) es).toList.map (·.2)) _ _ (((pick_perm _ es).map _).trans hp) (fun A hA => walks_text hA hbt (sl := 0) hne hf rfl) ⟨hnew, hold⟩ (by simp) hfp2 hfa2
  | false =>
    by_cases hsz : es.size > 1
    · refine wpAny_of_pos (by
        show (!(byText w) && (!t.plain && decide (es.size > 1))) = true
        rcases hpl with q | q
        · rw [hbt, q]; simp [hsz]
        · omega) ?_
      refine wpAny_bind (drawOrder_any _ _ _ _ (by simp) fun places d hperm => ?_)
      have hpl : places.length = es.size := by rw [hperm.length_eq, List.length_range]
      refine wpAny_bind (wpAny_newTuple ?_ (by rw [List.length_map, hpl]; exact fits_of_scanBound hb))
      generalize hT1 : ({ cls := .type "tuple", data := .seq (places.map fun (i : Nat) => rawInt i).toArray } : Obj) = oT
      have ho1 : (s.heap.push oT).get? a = some (setO es ep t) := Heap.get?_push_of_some _ ho
      refine wpAny_bind (wpAny_setEpoch_of (s := { s with heap := s.heap.push oT, drawn := d }) ho1 rfl hf ?_)
      unfold newFields
      refine wpAny_bind (wpAny_newObj_type ?_)
      have hsz1 : (s.heap.push oT).objs.size = s.heap.objs.size + 1 := Heap.size_push ..
      have hnew2 : ((s.heap.push oT).push (setIt (.ref s.heap.objs.size) 0 (.ref a) es.size ep)).get? (s.heap.push oT).objs.size = some (setIt (.ref s.heap.objs.size) 0 (.ref a) es.size ep) := Heap.get?_push_size _ rfl
      have hTat : ((s.heap.push oT).push (setIt (.ref s.heap.objs.size) 0 (.ref a) es.size ep)).get? s.heap.objs.size = some oT := Heap.get?_push_of_some _ (Heap.get?_push_size _ (by rw [← hT1]; rfl))
      have hold2 : ((s.heap.push oT).push (setIt (.ref s.heap.objs.size) 0 (.ref a) es.size ep)).get? a = some (setO es ep t) := Heap.get?_push_of_some _ ho1
      refine wpAny_pure ⟨_, rfl, "set_iterator", _, ⟨_, hnew2, rfl⟩, slot_setit_next.lookup, ?_⟩
      have n1 : s.heap.objs.size ≠ (s.heap.push oT).objs.size := by rw [hsz1]; exact Nat.ne_of_lt (Nat.lt_succ_self _)
      have n2 : a ≠ (s.heap.push oT).objs.size := by rw [hsz1]; exact Nat.ne_of_lt (Nat.lt_succ_of_lt ha)
      refine h (s.heap.push oT).objs.size _ d (places.map fun p => (es[p]?.map (·.2)).getD .none) (fun b o e => Heap.get?_push_of_some _ (Heap.get?_push_of_some _ e)) ⟨?_, [(s.heap.push oT).objs.size, s.heap.objs.size, a], (fun i h => h.get? (s.heap.push oT).objs.size = some (setIt (.ref s.heap.objs.size) i (.ref a) es.size ep) ∧ h.get? s.heap.objs.size = some { cls := .type "tuple", data := .seq (places.map fun (i : Nat) => rawInt i).toArray 0 } ∧ h.get? a = some (setO es ep t)), (fun A hA => by rw [← hlen]; exact walks_drawn hA (ep := ep) (k := 0) n1 n2 hf rfl hperm), ⟨hnew2, hTat.trans (by rw [← hT1]), hold2⟩, by simp, fun b hb => ?_, fun b hb => ?_, by rw [hsz1]; exact Nat.le_succ _, _, hnew2, rfl⟩
      · refine (hperm.map _).trans (List.Perm.trans ?_ hp)
        rw [show (List.range es.size).map (fun p => (es[p]?.map (·.2)).getD Value.none) = es.toList.map (·.2) from ?_]
        apply List.ext_getElem (by simp)
        intro i h1 h2
        simp at h1 ⊢
        simp [h1]
      · show b < ((s.heap.push oT).push _).objs.size
        rw [Heap.size_push, hsz1]
        simp only [List.mem_cons, List.mem_nil_iff, or_false] at hb
        rcases hb with rfl | rfl | rfl
        · rw [hsz1]; exact Nat.lt_succ_self _
        · exact Nat.lt_succ_of_lt (Nat.lt_succ_self _)
        · exact Nat.lt_succ_of_lt (Nat.lt_succ_of_lt ha)
      · simp only [List.mem_cons, List.mem_nil_iff, or_false] at hb
        rcases hb with rfl | rfl | rfl
        · exact .inr (by rw [hsz1]; exact Nat.le_succ _)
        · exact .inr (Nat.le_refl _)
        · exact .inl rfl
    · refine wpAny_of_neg (by show ¬ (!(byText w) && (!t.plain && decide (es.size > 1))) = true; simp [hsz]) ?_
      have hcase : es.size = 0 ∨ es.size = 1 := by omega
      rcases hcase with h0 | h1
      · have he : es = #[] := Array.eq_empty_of_size_eq_zero h0
        subst he
        refine fin [] [s.heap.objs.size, a] _ (by simpa using hp) (fun A hA => walks_plain0 (t := t) hA hbt hne hf rfl) ⟨rfl, hnew, hold⟩ (by simp) hfp2 hfa2
      · obtain ⟨e, he⟩ := Array.size_eq_one_iff.mp h1
        subst he
        have hps : t.place.size = 1 := by
          simp only [SetTable.fits, Bool.and_eq_true, beq_iff_eq] at hf
          exact hf.1
        obtain ⟨j, hj⟩ := Array.size_eq_one_iff.mp hps
        refine fin [e.2] [s.heap.objs.size, a] _ (by simpa using hp) (fun A hA => walks_plain1 (hx := e.1) (x := e.2) (ep := ep) hA hbt (by rw [hl, hled, hbt]; rfl) hj hne hf) ⟨hnew, hold⟩ (by simp) hfp2 hfa2
end Mine
end

section
open PySem PySem.W PyProof.Rows
set_option autoImplicit false
set_option linter.all false
set_option maxRecDepth 100000
namespace Mine

theorem sub_set_set : isSubtype (.type "set") (.type "set") = pure true := by rw [isSubtype_type]; kernel_rfl

theorem list_upd {M : Model} {A : Around} {E : Value → Shared → Prop} {s : Shared} {D : Addr} {vs : List Value} {k : Nat} {f : Array Value → Array Value} {Q : Unit → Shared → Prop} (hD : s.heap.get? D = some (lstO vs k)) (hz : vs.length ≤ sizeLine) (hz' : (f vs.toArray).size ≤ sizeLine + 1)
    (h : ∀ h', Heap.SameBut D s.heap h' → h'.get? D = some (Obj.mapSeq f (lstO vs k)) → Q () { s with heap := h' }) : wpAny M A (updateSeq D f) Q E s :=
  wpAny_updateSeq hD rfl (h _ (Heap.SameBut.update ..) (Heap.get?_update_self _ hD rfl)) (by simpa using hz) hz'

theorem collect_set {w : World} {A : Around} {E : Value → Shared → Prop} {s : Shared} {a : Addr} {vs : List Value} {led : Bool} {Q : List Value → Shared → Prop} (hh : A.handled = none) (hS : SetAt w s.heap a vs led) (hled : led = !byText w) (hn : vs.length ≤ 1000)
    (h : ∀ order s', order.Perm vs → Ext s s' → Q order s') : wpAny (model pr w) A (collect (.ref a)) Q E s := by
  have hT : s.TypeIs (.ref a) "set" := by obtain ⟨es, ep, t, ho, _⟩ := hS; exact ⟨_, ho, rfl⟩
  unfold collect
  refine wpAny_bind (wpAny_runValue (codeAny_builtin PySem.F.entry_proto_collect ?_))
  rw [Around.under_plainId PySem.F.plain_proto_collect _]
  show wpAny _ A.in1 (newList [] >>= fun l => again (.builtin "list.__iadd__" ⟨[l, .ref a], []⟩)) _ _ s
  refine wpAny_bind (wpAny_newObj_type ?_)
  refine wpAny_pure ⟨plainId_quiet PySem.F.plain_list_iadd _, codeAny_builtin PySem.F.entry_list_iadd ?_⟩
  rw [Around.under_plainId PySem.F.plain_list_iadd _]
  show wpAny _ A.in1 (Builtin.List.listExtendWith (.ref s.heap.objs.size) (.ref a) (.ref s.heap.objs.size)) _ _ _
  unfold Builtin.List.listExtendWith
  have hne : a ≠ s.heap.objs.size := by
    obtain ⟨es, ep, t, ho, _⟩ := hS
    exact Nat.ne_of_lt (Heap.lt_size ho)
  have hS1 : SetAt w (s.heap.push { cls := .type "list", data := .seq ([] : List Value).toArray }) a vs led := by
    obtain ⟨es, ep, t, ho, r⟩ := hS
    exact ⟨es, ep, t, Heap.get?_push_of_some _ ho, r⟩
  have hT1 : Shared.TypeIs { s with heap := s.heap.push { cls := .type "list", data := .seq ([] : List Value).toArray } } (.ref a) "set" := by
    obtain ⟨es, ep, t, ho, _⟩ := hS1; exact ⟨_, ho, rfl⟩
  refine wpAny_bind (wpAny_typeOf hT1 ?_)
  have h1 : Builtin.List.listSameRef (.ref s.heap.objs.size) (.ref a) = false := by
    show (s.heap.objs.size == a) = false
    rw [beq_eq_false_iff_ne]; exact Ne.symm hne
  have h2 : (Value.type "set" == Value.type "list") = false := by decide
  have h3 : (Value.type "set" == Value.type "tuple") = false := by decide
  simp only [h1, h2, h3, Bool.or_false, Bool.false_eq_true, if_false]
  refine wpAny_bind (set_iter hS1 hled fun I h' d order hk W => ?_)
  refine wpAny_bind (wpAny_holding ?_)
  have hT2 : Shared.TypeIs { s with heap := h', drawn := d } (.ref a) "set" := by
    obtain ⟨es, ep, t, ho, _⟩ := hS1; exact ⟨_, hk _ _ ho, rfl⟩
  unfold Builtin.List.listLengthHint
  refine wpAny_bind (wpAny_specialOf (T := "set") hT2 PySem.F.slot_set_len.lookup ?_)
  wp_delta
  refine wpAny_bind (wpAny_isInstance (T := "set") (b := true) hT2 sub_set_set ?_)
  show wpAny _ A.in1 (typeOf (.ref a) >>= _) _ _ _
  refine wpAny_bind (wpAny_typeOf hT2 ?_)
  refine wpAny_pure ?_
  refine wpAny_of_pos (by decide) ?_
  refine wpAny_bind (wpAny_rule ?_)
  obtain ⟨hperm, fp, St, Wk, hst, hI, hfp, hfa, hn0, oI, hoI, hcI⟩ := W
  have hD : h'.get? s.heap.objs.size = some (lstO [] 0) := hk _ _ (Heap.get?_push_size _ rfl)
  have hpz : (s.heap.push { cls := .type "list", data := .seq ([] : List Value).toArray }).objs.size = s.heap.objs.size + 1 := Heap.size_push ..
  have hDf : s.heap.objs.size ∉ fp := fun hb => by
    rcases hfa _ hb with q | q
    · exact hne q.symm
    · rw [hpz] at q; exact Nat.not_succ_le_self _ q
  refine wpAny_bind ?_
  unfold Builtin.List.listTouch Builtin.List.listUpdate
  refine wpAny_bind (list_upd (vs := []) hD (by simp) (by rw [sL]; simp) fun h1 hs1 hD1 => ?_)
  refine list_upd (vs := [.none]) hD1 (by rw [sL]; simp) (by rw [sL]; simp) fun h2 hs2 hD2 => ?_
  have k2 : ∀ b o, b ≠ s.heap.objs.size → h'.get? b = some o → h2.get? b = some o := fun b o hb e => (hs2.2 b hb).trans ((hs1.2 b hb).trans e)
  have hIn := Wk A.in1 hh
  have hst2 : St 0 h2 := hIn.frame 0 h' h2 hst fun b hb o e => k2 b o (fun q => hDf (q ▸ hb)) e
  refine wpAny_pure ⟨plainId_quiet PySem.F.plain_extend_loop _, codeAny_extend_loopS hIn.toS (by rw [sL]; omega) _ hDf _ vs.length 0 _ _ _ rfl (Nat.zero_le _) hst2 hD2 (ItemsOf.nil _) fun s' acc' c' hm hS' hacc => ?_⟩
  show wpAny _ A (load s.heap.objs.size >>= _) _ _ s'
  refine wpAny_bind (wpAny_load hS' ?_)
  have hacc2 : acc'.toList = order := by
    apply List.ext_getElem?
    intro i
    rw [Array.getElem?_toList]
    cases e : acc'[i]? with
    | some v => exact (hacc.2 i v e).symm
    | none =>
      have : acc'.size ≤ i := by simpa using e
      rw [List.getElem?_eq_none]
      rw [hperm.length_eq, ← hacc.1]; exact this
  refine wpAny_pure (h _ s' (by rw [hacc2]; exact hperm) ⟨.of hm.gens hm.os, fun b o e => ?_⟩)
  have hlt := Heap.lt_size e
  refine hm.heap b o (fun hb => ?_) (k2 b o (Nat.ne_of_lt hlt) (hk _ _ (Heap.get?_push_of_some _ e)))
  simp only [List.mem_cons, List.mem_nil_iff, or_false] at hb
  rcases hb with rfl | rfl
  · exact Nat.lt_irrefl _ hlt
  · rw [hpz] at hn0; exact Nat.lt_irrefl _ (Nat.lt_trans hlt hn0)
end Mine
end

section
open PySem PySem.W PyProof.Rows
set_option autoImplicit false
set_option linter.all false
set_option maxRecDepth 100000
namespace Mine

/-- not after, sign by sign -/
noncomputable def leT : List Nat → List Nat → Bool
  | [], _ => true
  | _ :: _, [] => false
  | a :: r, b :: t => Nat.blt a b || (Nat.beq a b && leT r t)
noncomputable def insT (x : List Nat) : List (List Nat) → List (List Nat)
  | [] => [x]
  | y :: l => if leT x y then x :: y :: l else y :: insT x l
noncomputable def sortT : List (List Nat) → List (List Nat)
  | [] => []
  | x :: l => insT x (sortT l)

theorem leT_lt : ∀ (a b : List Nat), leT a b = !(PySem.Spec.ltCps b a)
  | [], [] => rfl
  | [], _ :: _ => rfl
  | _ :: _, [] => rfl
  | a :: r, b :: t => by
    rw [leT, PySem.Spec.ltCps, leT_lt r t]
    rcases Nat.lt_trichotomy a b with h | h | h
    · have : ¬ b < a := by omega
      have h2 : (b == a) = false := by simpa using (by omega : ¬ b = a)
      have h1 : Nat.blt a b = true := by simpa using h
      simp [h1, this, h2]
    · subst h
      simp
    · have h1 : Nat.blt a b = false := by
        cases e : Nat.blt a b with
        | false => rfl
        | true => have : a < b := by simpa using e
                  omega
      have h2 : Nat.beq a b = false := by
        cases e : Nat.beq a b with
        | false => rfl
        | true => have := Nat.eq_of_beq_eq_true e; omega
      simp [h1, h2, h]

theorem leT_total : ∀ (a b : List Nat), leT a b = true ∨ leT b a = true
  | [], _ => .inl rfl
  | _ :: _, [] => .inr rfl
  | a :: r, b :: t => by
    rw [leT, leT]
    rcases Nat.lt_trichotomy a b with h | h | h
    · left; have : Nat.blt a b = true := by simpa using h
      simp [this]
    · subst h; simpa using leT_total r t
    · right; have : Nat.blt b a = true := by simpa using h
      simp [this]
theorem leT_iff (a b : Nat) (r t : List Nat) : leT (a :: r) (b :: t) = true ↔ a < b ∨ (a = b ∧ leT r t = true) := by
  rw [leT]
  simp only [Bool.or_eq_true, Bool.and_eq_true]
  constructor
  · rintro (h | ⟨h, k⟩)
    · exact .inl (by simpa using h)
    · exact .inr ⟨Nat.eq_of_beq_eq_true h, k⟩
  · rintro (h | ⟨h, k⟩)
    · exact .inl (by simpa using h)
    · exact .inr ⟨by subst h; exact Nat.beq_refl a, k⟩
theorem leT_anti : ∀ {a b : List Nat}, leT a b = true → leT b a = true → a = b
  | [], [], _, _ => rfl
  | [], _ :: _, _, k => by cases k
  | _ :: _, [], h, _ => by cases h
  | a :: r, b :: t, h, k => by
    rw [leT_iff] at h k
    have e : a = b := by omega
    subst e
    rw [leT_anti (a := r) (b := t) (by rcases h with h | h; omega; exact h.2) (by rcases k with k | k; omega; exact k.2)]
theorem leT_trans : ∀ {a b c : List Nat}, leT a b = true → leT b c = true → leT a c = true
  | [], _, _, _, _ => rfl
  | _ :: _, [], _, h, _ => by cases h
  | _ :: _, _ :: _, [], _, k => by cases k
  | a :: r, b :: t, c :: u, h, k => by
    rw [leT_iff] at h k ⊢
    rcases h with h | ⟨h, h'⟩ <;> rcases k with k | ⟨k, k'⟩
    · exact .inl (by omega)
    · exact .inl (by omega)
    · exact .inl (by omega)
    · exact .inr ⟨by omega, leT_trans h' k'⟩

theorem insT_perm (x : List Nat) : ∀ l, (insT x l).Perm (x :: l)
  | [] => .refl _
  | y :: l => by
    rw [insT]
    split
    · exact .refl _
    · exact ((insT_perm x l).cons y).trans (.swap x y l)
theorem sortT_perm : ∀ l, (sortT l).Perm l
  | [] => .refl _
  | x :: l => (insT_perm x _).trans ((sortT_perm l).cons x)
theorem insT_pw (x : List Nat) : ∀ {l : List (List Nat)}, l.Pairwise (fun a b => leT a b = true) → (insT x l).Pairwise (fun a b => leT a b = true)
  | [], _ => List.pairwise_singleton _ _
  | y :: l, h => by
    have h' := List.pairwise_cons.mp h
    rw [insT]
    split
    · rename_i q
      refine List.pairwise_cons.mpr ⟨fun z hz => ?_, h⟩
      rcases List.mem_cons.mp hz with rfl | hz
      · exact q
      · exact leT_trans q (h'.1 z hz)
    · rename_i q
      refine List.pairwise_cons.mpr ⟨fun z hz => ?_, insT_pw x h'.2⟩
      rcases List.mem_cons.mp ((insT_perm x l).mem_iff.mp hz) with rfl | hz
      · exact (leT_total _ _).resolve_left q
      · exact h'.1 z hz
theorem sortT_pw : ∀ l, (sortT l).Pairwise (fun a b => leT a b = true)
  | [] => .nil
  | x :: l => insT_pw x (sortT_pw l)
theorem sortT_eq {l m : List (List Nat)} (hp : l.Perm m) (h : l.Pairwise (fun a b => leT a b = true)) : l = sortT m :=
  List.Perm.eq_of_pairwise (fun a b _ _ => leT_anti) h (sortT_pw m) (hp.trans (sortT_perm m).symm)

theorem rising_pw : ∀ (l : List Str) (p : Str), risingS p l = true → (p :: l).Pairwise (fun a b => leT a.cps.toList b.cps.toList = true)
  | [], p, _ => List.pairwise_singleton _ _
  | x :: r, p, h => by
    rw [risingS, Bool.and_eq_true] at h
    have ih := rising_pw r x h.2
    have hx : leT p.cps.toList x.cps.toList = true := by rw [leT_lt]; exact h.1
    refine List.pairwise_cons.mpr ⟨fun z hz => ?_, ih⟩
    rcases List.mem_cons.mp hz with rfl | hz
    · exact hx
    · exact leT_trans hx ((List.pairwise_cons.mp ih).1 z hz)
theorem sortedS_pw : ∀ {l : List Str}, sortedS l = true → l.Pairwise (fun a b => leT a.cps.toList b.cps.toList = true)
  | [], _ => .nil
  | x :: r, h => rising_pw r x h

noncomputable abbrev tx (v : Value) : List Nat := (strOf v).cps.toList

theorem sorted_out {vs : List Value} (hv : ∀ v ∈ vs, ∃ x t, v = .str x t) {xs : Array Keyed} (hp : xs.Perm (pairsOf vs)) (hs : SortedToK PyProof.Rows.strKind xs (pairsOf vs).size) :
    (xs.map (·.2)).toList.Perm vs ∧ (xs.map (·.2)).toList.map tx = sortT (vs.map tx) := by
  have hS := strsAre_map vs hv
  have h2 : (xs.map (·.2)).toList.Perm vs := by
    have := (Array.perm_iff_toList_perm.mp hp).map (·.2)
    rw [pairsOf_toList] at this
    rw [Array.toList_map]
    refine this.trans ?_
    rw [List.map_snd_zip (Nat.le_refl _)]
  refine ⟨h2, ?_⟩
  obtain ⟨ss', a1, a2, a3⟩ := sorted_out_str hS hp hs
  have e := a1.strs
  refine sortT_eq (h2.map _) ?_
  have := sortedS_pw a3
  rw [← e, List.pairwise_map] at this
  rw [List.pairwise_map]
  exact this

theorem sorted_set {w : World} {A : Around} {E : Value → Shared → Prop} {s : Shared} {a : Addr} {vs : List Value} {led : Bool} {Q : Value → Shared → Prop} (hh : A.handled = none) (hS : SetAt w s.heap a vs led) (hled : led = !byText w) (hn : vs.length < 64)
    (hv : ∀ v ∈ vs, ∃ x t, v = .str x t)
    (h : ∀ out s' l k, Ext s s' → out.Perm vs → out.map tx = sortT (vs.map tx) → s.heap.get? l = none → s'.heap.get? l = some (lstO out k) → Q (.ref l) s') :
    wpAny (model pr w) A (PySem.call (.builtin "sorted") [.ref a]) Q E s := by
  refine Calls.call_function_entry kind_sorted plain_sorted entry_sorted (args_sorted1 _) ?_
  unfold Builtin.«sorted»
  refine wpAny_bind (m := checkCount "sorted" 1 1 _) (wpAny_pure ?_)
  refine wpAny_bind (collect_set hh hS hled (by omega) fun order s₁ hpo e₁ => ?_)
  refine wpAny_bind (wpAny_newList ?_ (by rw [sL, hpo.length_eq]; omega))
  have hl0 : (s₁.heap.push (seqObj "list" order.toArray 0)).get? s₁.heap.objs.size = some (seqObj "list" order.toArray 0) := Heap.get?_push_size _ rfl
  have hvo : ∀ v ∈ order, ∃ x t, v = .str x t := fun v hm => hv v (hpo.mem_iff.mp hm)
  have hSo := strsAre_map order hvo
  refine wpAny_bind (wpAny_holding (wpAny_call_entry slot_list_sort ⟨_, hl0, rfl⟩ entry_list_sort (list_sort_treeK strKind_oneLt hl0 hSo.keysOf (fun v₁ v₂ rest e => keyKind_strs (by rw [← e]; exact hSo)) (by rw [hpo.length_eq]; omega) fun st' a1 a2 => ⟨_, rfl, ?_⟩) (args_list_sort _)))
  obtain ⟨b1, b2⟩ := sorted_out hvo a1 a2
  obtain ⟨ep, hat⟩ := sortedHeap_at (out := (arrOf st').map (·.2)) hl0
  refine wpAny_pure ⟨_, rfl, h ((arrOf st').map (·.2)).toList _ _ ep (e₁.trans (.ofH fun b o eb => ?_)) (b1.trans hpo) ?_ ?_ hat⟩
  · have hlt := Heap.lt_size eb
    rw [sortedHeap_old (Nat.ne_of_lt hlt) (by rw [size_push']; exact Nat.lt_succ_of_lt hlt)]
    exact Heap.get?_push_of_some _ eb
  · rw [b2]
    exact sortT_eq ((sortT_perm _).trans (hpo.map _)) (sortT_pw _)
  · cases e : s.heap.get? s₁.heap.objs.size with
    | none => rfl
    | some o => exact absurd (Heap.lt_size (e₁.keep _ _ e)) (Nat.lt_irrefl _)
end Mine
end

section
open PySem PySem.W PyProof.Rows
set_option autoImplicit false
set_option linter.all false
set_option maxRecDepth 100000
namespace Mine

noncomputable def addT (l : List (List Nat)) (k : List Nat) : List (List Nat) := if l.any (· == k) then l else l ++ [k]
noncomputable def distT (l : List (List Nat)) : List (List Nat) := l.foldl addT []

theorem str_beq (y k : Str) : (y == k) = (y.cps.toList == k.cps.toList) := by
  obtain ⟨⟨y⟩⟩ := y
  obtain ⟨⟨k⟩⟩ := k
  by_cases h : y = k
  · subst h; simp
  · have h1 : ((⟨⟨y⟩⟩ : Str) == ⟨⟨k⟩⟩) = false := by
      rw [beq_eq_false_iff_ne]; intro e; injection e with e; injection e with e; exact h e
    rw [h1]; symm; simpa using h

/-- texts with tokens of their own -/
noncomputable def Txts (vs : List Value) (n : Nat) : Prop := ∀ v ∈ vs, ∃ y t, v = .str y t ∧ 1 ≤ t ∧ t < n
theorem Txts.mono {vs : List Value} {n m : Nat} (x : Txts vs n) (h : n ≤ m) : Txts vs m := fun v hv => let ⟨y, t, e, a, b⟩ := x v hv; ⟨y, t, e, a, Nat.lt_of_lt_of_le b h⟩

theorem any_tx {w : World} {n : Nat} (k : Str) : ∀ {vs : List Value}, Txts vs n → (vs.any fun v => (strKind pr w).is k v) = (vs.map tx).any (· == k.cps.toList)
  | [], _ => rfl
  | v :: vs, h => by
    obtain ⟨y, t, rfl, -, -⟩ := h v (.head _)
    rw [List.any_cons, List.map_cons, List.any_cons, any_tx k fun u hu => h u (.tail _ hu), isStrOf_str, str_beq]
    rfl
theorem add_tx {w : World} {n : Nat} (k : Str) (tk : Tok) {vs : List Value} (h : Txts vs n) : (if vs.any (fun v => (strKind pr w).is k v) = true then vs else vs ++ [.str k tk]).map tx = addT (vs.map tx) k.cps.toList := by
  unfold addT
  rw [any_tx k h]
  split
  · rfl
  · rw [List.map_append]; rfl
theorem add_txts {w : World} {n : Nat} {k : Str} {tk : Tok} {vs : List Value} (h : Txts vs n) (h1 : 1 ≤ tk) (h2 : tk < n) : Txts (if vs.any (fun v => (strKind pr w).is k v) = true then vs else vs ++ [.str k tk]) n := by
  split
  · exact h
  · intro v hv
    rcases List.mem_append.mp hv with hv | hv
    · exact h v hv
    · rcases List.mem_singleton.mp hv with rfl
      exact ⟨k, tk, rfl, h1, h2⟩
theorem add_len {p : Value → Bool} {v : Value} (vs : List Value) : (if vs.any p = true then vs else vs ++ [v]).length ≤ vs.length + 1 := by
  split
  · omega
  · simp

theorem set_loop {w : World} {A : Around} {R : Result → Shared → Prop} {x : Str} {t : Tok} {S I : Addr} {led : Bool} (hh : A.handled = none) (hSI : S ≠ I) (hz : x.cps.size + 1 < scanBound) :
    ∀ (k i : Nat) (s : Shared) (vs : List Value), x.cps.size - i = k → i ≤ x.cps.size → s.heap.IsStrIter I "str_ascii_iterator" x t i → SetAt w s.heap S vs led → Txts vs s.toks → vs.length ≤ i → 1 ≤ s.toks →
      (∀ s' vs', Same s s' → s.toks ≤ s'.toks → (∀ b o, b ≠ S → b ≠ I → s.heap.get? b = some o → s'.heap.get? b = some o) → SetAt w s'.heap S vs' led → Txts vs' s'.toks → vs'.length ≤ x.cps.size →
        vs'.map tx = ((x.cps.toList.drop i).map fun c => [c]).foldl addT (vs.map tx) → R (.ok (.ret .none)) s') →
      codeAny (model pr w) A (.builtin "set.update.loop" ⟨[.ref S, .ref I], []⟩) R s := by
  intro k
  induction k with
  | zero =>
    intro i s vs hk hi hit hS ht hl h1 hR
    have hin : i = x.cps.size := by omega
    subst hin
    refine codeAny_builtin PyProof.Rows.F.entry_set_update_loop ?_
    rw [Around.under_plainId PyProof.Rows.F.plain_set_update_loop _]
    show wpAny _ A.in1 (pyNext (.ref I) >>= _) _ _ s
    refine wpAny_bind (wpAny_pyNext_ascii_end hh hit (by simp) fun h' he => ?_)
    show wpAny _ A.in1 (ret Value.none) _ _ _
    refine wpAny_pure (hR _ vs ⟨_, _, rfl⟩ (Nat.le_refl _) (fun b o _ hb e => he b o hb e) ?_ ht hl ?_)
    · obtain ⟨es, ep, tb, ho, r⟩ := hS
      exact ⟨es, ep, tb, he _ _ hSI ho, r⟩
    · rw [List.drop_eq_nil_of_le (by simp)]; rfl
  | succ k ih =>
    intro i s vs hk hi hit hS ht hl h1 hR
    have hlt : i < x.cps.size := by omega
    refine codeAny_builtin PyProof.Rows.F.entry_set_update_loop ?_
    rw [Around.under_plainId PyProof.Rows.F.plain_set_update_loop _]
    show wpAny _ A.in1 (pyNext (.ref I) >>= _) _ _ s
    refine wpAny_bind (wpAny_pyNext_ascii_item hit (c := x.cps[i]) (by simp [hlt]) fun h1' hit1 hs1 => ?_)
    show wpAny _ A.in1 (holding [Value.str ⟨#[x.cps[i]]⟩ s.toks] (setAdd S (.str ⟨#[x.cps[i]]⟩ s.toks)) >>= _) _ _ _
    have hS1 : SetAt w h1' S vs led := by
      obtain ⟨es, ep, tb, ho, r⟩ := hS
      exact ⟨es, ep, tb, (hs1.2 S hSI).trans ho, r⟩
    refine wpAny_bind (wpAny_holding (wpAny_with_toks (Nat.le_refl (s.toks + 1)) (set_add hS1 (by omega) fun b h' n hs hS2 htk => ?_)))
    have htk : s.toks + 1 ≤ n := htk
    have ht2 := ht.mono (Nat.le_trans (Nat.le_succ _) htk)
    have hit2 : h'.IsStrIter I "str_ascii_iterator" x t (i + 1) := by
      obtain ⟨o, ho, r⟩ := hit1
      exact ⟨o, (hs.2 I (Ne.symm hSI)).trans ho, r⟩
    refine wpAny_pure ⟨plainId_quiet PyProof.Rows.F.plain_set_update_loop _, ih (i + 1) _ _ (by omega) hlt hit2 hS2 (add_txts ht2 h1 (Nat.lt_of_succ_le htk)) (Nat.le_trans (add_len vs) (by omega)) (Nat.le_trans h1 (Nat.le_trans (Nat.le_succ _) htk)) fun s' vs' e1 e2 e3 e4 e5 e6 e7 => ?_⟩
    refine hR s' vs' (.trans ⟨_, _, rfl⟩ e1) (Nat.le_trans (Nat.le_trans (Nat.le_succ _) htk) e2) (fun b o b1 b2 e => e3 b o b1 b2 ((hs.2 b b1).trans ((hs1.2 b b2).trans e))) e4 e5 e6 ?_
    have hd : x.cps.toList.drop i = x.cps[i] :: x.cps.toList.drop (i + 1) := by
      rw [List.drop_eq_getElem_cons (i := i) (by simpa using hlt), Array.getElem_toList]
    rw [e7, add_tx _ _ ht2, hd]
    rfl
end Mine
end

section
open PySem PySem.W PyProof.Rows
set_option autoImplicit false
set_option linter.all false
set_option maxRecDepth 100000
namespace Mine

noncomputable abbrev newSetO (led : Bool) : Obj := { cls := .type "set", dict := none, data := .set #[] 0 (.fresh 0 0 led) }

theorem fresh_setAt {w : World} {h : Heap} {S : Addr} {led : Bool} (ho : h.get? S = some (newSetO led)) : SetAt w h S [] led :=
  ⟨#[], 0, .fresh 0 0 led, ho, (fun e he => by simp at he), .refl _, by show 0 < scanBound; unfold scanBound; decide, by kernel_rfl, rfl, .inr rfl⟩

theorem code_set_new_led {w : World} {A : Around} {E : Value → Shared → Prop} {s : Shared} (a : Value) {Q₁ : Value → Shared → Prop}
    (h : Q₁ (.ref s.heap.objs.size) { s with heap := s.heap.push (newSetO (!byText w)) }) :
    codeAny (model pr w) A (.call (.builtin "set.__new__") ⟨[.type "set", a], []⟩) (wants Q₁ E) s := by
  refine codeAny_of_tree ?_
  show wpAny _ A.in1 (do checkBuiltinCall "set.__new__" ⟨[.type "set", a], []⟩; again (.builtin "set.__new__" ⟨[.type "set", a], []⟩)) _ _ s
  refine wpAny_bind (wpAny_of_eq (PySem.F.newCall_set_1 a) (wpAny_pure ⟨plainId_quiet PySem.F.plain_set_new _, codeAny_builtin PySem.F.entry_set_new ?_⟩))
  rw [Around.under_plainId PySem.F.plain_set_new _]
  unfold Builtin.«set.__new__» Builtin.Frozenset.newClass
  have hsub := sub_set_self
  obtain ⟨hp, g, d, tk, os⟩ := s
  dsimp only
  wp_walk
  refine wpAny_askSetting (wpAny_pure ?_)
  dsimp only
  simp only [newObj]
  refine wpAny_bind (wpAny_alloc (wpAny_pure ?_))
  exact wpAny_pure h

theorem sub_str_set : isSubtype (.type "str") (.type "set") = pure false := by rw [isSubtype_type]; kernel_rfl
theorem sub_str_frozenset : isSubtype (.type "str") (.type "frozenset") = pure false := by rw [isSubtype_type]; kernel_rfl

set_option maxHeartbeats 3200000 in
theorem call_set_str {w : World} {A : Around} {E : Value → Shared → Prop} {s : Shared} {x : Str} {t : Tok} {Q : Value → Shared → Prop}
    (hh : A.handled = none) (ha : x.cps.all (· < 128) = true) (hb : x.cps.size + 1 < scanBound) (h1 : 1 ≤ s.toks)
    (h : ∀ S s' vs, Ext s s' → s.heap.get? S = none → SetAt w s'.heap S vs (!byText w) → Txts vs s'.toks → vs.length ≤ x.cps.size → vs.map tx = distT (x.cps.toList.map fun c => [c]) → Q (.ref S) s') :
    wpAny (model pr w) A (PySem.call (.type "set") [.str x t]) Q E s := by
  obtain ⟨c, tl, hmro⟩ := PySem.F.called_set.mro
  have hmade := PySem.F.called_set.made
  have hsub := PySem.F.called_set.sub
  refine wpAny_call (codeAny_of_tree ?_)
  show wpAny _ _ (callAny (.type "set") _) _ _ _
  refine wpAny_pure ⟨Code.quiet_builtin _ (by decide +kernel), codeAny_builtin PySem.F.entry_type_call ?_⟩
  rw [Around.under_plain (weight_type_call_type "set" [.str x t] []) rfl]
  have k1 := PySem.F.called_set.notType
  have k2 := PySem.F.called_set.canCreate
  have hct := PySem.F.typeCall_set_1 (.str x t)
  repeat (any_goals (first | assumption | wp_step))
  refine codeAny_mono (code_set_new_led (.str x t) (E := E) (Q₁ := fun obj s₁ => obj = .ref s.heap.objs.size ∧ s₁ = { s with heap := s.heap.push (newSetO (!byText w)) }) ⟨rfl, rfl⟩) fun r s₁ hr => ?_
  cases r with
  | error e => exact hr
  | ok fl =>
    cases fl with
    | ret obj =>
      obtain ⟨rfl, rfl⟩ := hr
      have hS : (s.heap.push (newSetO (!byText w))).get? s.heap.objs.size = some (newSetO (!byText w)) := Heap.get?_push_size _ rfl
      have hT : Shared.TypeIs { s with heap := s.heap.push (newSetO (!byText w)) } (.ref s.heap.objs.size) "set" := ⟨_, hS, rfl⟩
      have hli := PySem.F.called_set.init.lookup
      have hbi := PySem.F.called_set.init.bind (.ref s.heap.objs.size)
      repeat (any_goals (first | assumption | wp_step))
      refine codeAny_mono (codeAny_call_builtin (R := wants (fun r s₂ => r = .none ∧ Q (.ref s.heap.objs.size) s₂) E) PySem.F.called_set.init.plain PySem.F.entry_set_init (check_set_init_1 hT ?_)) fun r₂ s₂ hr₂ => ?_
      · have hsls := sub_str_set
        have hslf := sub_str_frozenset
        have hne : (Value.type "str" == Value.type "dict") = false := by decide
        unfold Builtin.«set.__init__» noKeywords Builtin.Frozenset.updateFrom
        generalize hPI : pyIter = PI
        wp_walk
        subst hPI
        refine wpAny_pyIter_ascii ha ?_
        refine wpAny_bind (wpAny_runValue ?_)
        have hneI : s.heap.objs.size ≠ (s.heap.push (newSetO (!byText w))).objs.size := by rw [Heap.size_push]; exact Nat.ne_of_lt (Nat.lt_succ_self _)
        refine set_loop (by simpa using hh) hneI hb (x.cps.size - 0) 0 _ [] (by omega) (Nat.zero_le _) ⟨_, Heap.get?_push_size _ rfl, rfl, rfl⟩ (fresh_setAt (Heap.get?_push_of_some _ hS)) (fun v hv => by simp at hv) (by simp) h1 fun s' vs' e1 e2 e3 e4 e5 e6 e7 => ?_
        show wpAny _ _ _ _ _ _
        refine wpAny_pure ?_
        show wpAny _ _ (ret Value.none) _ _ _
        refine wpAny_pure ⟨rfl, h s.heap.objs.size s' vs' ⟨.of e1.gens e1.os, fun b o e => ?_⟩ (Heap.get_size _ _ (Nat.le_refl _)) e4 e5 e6 (by rw [e7]; rfl)⟩
        have hlt := Heap.lt_size e
        refine e3 b o (Nat.ne_of_lt hlt) ?_ (Heap.get?_push_of_some _ (Heap.get?_push_of_some _ e))
        rw [Heap.size_push]; exact Nat.ne_of_lt (Nat.lt_succ_of_lt hlt)
      · cases r₂ with
        | error e => exact hr₂
        | ok fl₂ =>
          cases fl₂ with
          | ret r =>
            obtain ⟨rfl, hq⟩ := hr₂
            repeat (any_goals (first | assumption | wp_step))
          | _ => exact hr₂.elim
    | _ => exact hr.elim
end Mine
end

section
open PySem PySem.W PyProof.Rows PySem.Builtin PySem.Builtin.Str
set_option autoImplicit false
set_option linter.all false
set_option maxRecDepth 100000
namespace Mine

noncomputable abbrev cutsOf (x y : Str) : List Nat := occurrences x y 0 x.length 1
theorem gives_replace1 (x y z : Str) (t u v tc : Tok) (hc : ((cutsOf x y).isEmpty || (y.length == 0 && z.length == 0)) = false) (h0 : (u == 0 || v == 0) = false) (huv : (u == v) = false) (hyz : (y == z) = false)
    (hl : tooLong (x.length + (cutsOf x y).length * z.length) = false) :
    Gives («str.replace» ⟨[.str x t, .str y u, .str z v, .int 1 tc], []⟩) (.str (glued z (partsBetween x (cutsOf x y) y.length))) := by
  show Gives (if ((cutsOf x y).isEmpty || (y.length == 0 && z.length == 0)) = true then (do rule "str.replace.nothing"; ret (.str x t)) else
          (do let same ← isSame (.str y u) (.str z v)
              if same = true then (do rule "str.replace.old-is-new"; ret (.str x t)) else
              if tooLong (x.length + (cutsOf x y).length * z.length) = true then unsupported "str.replace:memory" else
              retStr (glued z (partsBetween x (cutsOf x y) y.length)))) _
  rw [hc, isSame_str_other y z u v h0 huv hyz, hl]
  exact .of_eq rfl

noncomputable def words : Nat → List (List Nat)
  | 0 => [[]]
  | n + 1 => (words n).flatMap fun x => [97 :: x, 98 :: x, 99 :: x]
noncomputable def replM (x : List Nat) (c : Nat) : List Nat := (glued (S []) (partsBetween (S x) (cutsOf (S x) (S [c])) 1)).cps.toList
noncomputable def replOk (x : List Nat) (c : Nat) : Bool := !(cutsOf (S x) (S [c])).isEmpty && replM x c == x.erase c
theorem repl_all : ([1, 2, 3, 4].all fun n => (words n).all fun x => x.all fun c => replOk x c) = true := by decide +kernel
end Mine
end

section
open PySem PySem.W PyProof.Rows
set_option autoImplicit false
set_option linter.all false
set_option maxRecDepth 100000
namespace Mine

theorem wt {α : Type} {M : Model} {A : Around} {s : Shared} {t : Sem α} {Q : α → Shared → Prop} {E : Value → Shared → Prop} {T : Nat} (hT : T ≤ s.toks) (h : wpAny M A t (fun a s' => T ≤ s'.toks → Q a s') E s) : wpAny M A t Q E s :=
  wpAny_with_toks hT (wpAny_mono h (fun _ _ h => h) fun _ _ e _ => e)

section
variable {w : World} {n T : Nat} {env : Env} {ρ : Rho}
noncomputable def SemET (w : World) (n : Nat) (env : Env) (ρ : Rho) (T : Nat) (e : Expr) (p : P) : Prop :=
  ∀ (A : Around) (X : Addr → Prop) (s : Shared) (Q : Value → Shared → Prop) (E : Value → Shared → Prop), Ok w n env ρ A X s → T ≤ s.toks →
    (∀ v s', Ext s s' → T ≤ s'.toks → Rep s'.heap X v p → Q v s') → wpAny (model pr w) A (eval e env) Q E s
theorem SemE.toET {e : Expr} {p : P} (h : SemE w n env ρ e p) : SemET w n env ρ T e p := fun A X s Q E ok hT k => wt hT (h A X s _ E ok fun v s' e r => fun hT' => k v s' e hT' r)
theorem SemET.list {e : Expr} {ps : List P} (h : SemET w n env ρ T e (.list ps)) : SemIT w n env ρ T e ps := fun A X s Q E ok hT k => h A X s Q E ok hT fun v s' e _ r => k v s' e (IterTo.list ok.room.hd r)

theorem call1_any {A : Around} {X : Addr → Prop} {s : Shared} {Q E : Value → Shared → Prop} {x : Str} {np pos : Pos} {e : Expr} {f : Value} (ok : Ok w n env ρ A X s) (hf : NameV w n env ρ x f) (hc : Callable w f)
    (h : wpAny (model pr w) A (eval e env) (fun v s₁ => (KK w).In s₁.heap ∧ wpAny (model pr w) A (PySem.call f [v]) Q E s₁) E s)
    (he : starEach [e] env = [(false, eval e env)] := by rfl)
    (hev : eval (.Call (.Name x np) [e] [] pos) env = (do callWith pos (← eval (.Name x np) env) [] (backTo pos (starEach [e] env)) (backToKw pos (keywordEach [] env))) := by rfl) : wpAny (model pr w) A (eval (.Call (.Name x np) [e] [] pos) env) Q E s := by
  refine PyProof.Rows.Call_ (hf A X s _ E np ok (hc A s Q E env pos e [] ok.g.kin he rfl (args_cons (wpAny_mono h (fun v s₁ hh => args_nil hh) fun _ _ h => h) he))) hev

theorem SemET.call1 {m : Nat} {x : Str} {np pos : Pos} {e : Expr} {f : Value} {p q : P} (hf : NameV w n env ρ x f) (hc : Callable w f) (ha : SemET w n env ρ T e p) (h : SemC w m f [p] q) (hm : m ≤ n)
    (he : starEach [e] env = [(false, eval e env)] := by rfl)
    (hev : eval (.Call (.Name x np) [e] [] pos) env = (do callWith pos (← eval (.Name x np) env) [] (backTo pos (starEach [e] env)) (backToKw pos (keywordEach [] env))) := by rfl) : SemET w n env ρ T (.Call (.Name x np) [e] [] pos) q := by
  intro A X s Q E ok hT k
  refine call1_any ok hf hc (ha A X s _ E ok hT fun v s₁ e₁ hT₁ r => ⟨(ok.ext e₁).g.kin, ?_⟩) he hev
  exact wt hT₁ (h A X s₁ [v] _ E (ok.room.le hm) (ok.ext e₁).g (ok.f.x.keeps e₁.keep) (.cons r .nil) fun v s' e₂ rv => fun hT₂ => k v s' (e₁.trans e₂) hT₂ rv)

theorem SemE.ofVal {e : Expr} {y : List Nat} {t : Tok} (h : SemE w n env ρ e (.val (.str (S y) t))) : SemE w n env ρ e (.str y) := fun A X s Q E ok k => h A X s Q E ok fun v s' e r => by
  cases r
  exact k _ s' e (.str y t)

theorem call_replace1 {A : Around} {E : Value → Shared → Prop} {s : Shared} {x : List Nat} {c : Nat} {t u v tc : Tok} {Q : Value → Shared → Prop} (hu : 1 ≤ u) (hv : 1 ≤ v) (huv : u ≠ v) (hr : replOk x c = true) (hz : x.length ≤ 1000)
    (hq : ∀ t' k, Q (.str (S (x.erase c)) t') { s with toks := k }) : wpAny (model pr w) A (PySem.call (.builtin "str.replace") [.str (S x) t, .str (S [c]) u, .str (S []) v, .int 1 tc]) Q E s := by
  unfold replOk at hr
  rw [Bool.and_eq_true] at hr
  have hxl : (S x).length = x.length := by simp [Str.length]
  have hl : PySem.Builtin.Str.tooLong ((S x).length + (cutsOf (S x) (S [c])).length * (S []).length) = false := by
    have : (S []).length = 0 := rfl
    rw [this, Nat.mul_zero, hxl]
    unfold PySem.Builtin.Str.tooLong sizeLine
    exact decide_eq_false (by omega)
  have hg : PySem.Builtin.Str.glued (S []) (PySem.Builtin.Str.partsBetween (S x) (cutsOf (S x) (S [c])) (S [c]).length) = S (x.erase c) := by
    have h2 := eq_of_beq hr.2
    unfold replM at h2
    rw [← h2]
    rfl
  refine call_gives PySem.F.slot_str_replace (typeIs_str _ _ _) PySem.F.entry_str_replace (PySem.F.args_str_replace_4 _ _ _ _)
    (gives_replace1 (S x) (S [c]) (S []) t u v tc ?_ ?_ ?_ rfl hl) ?_
  · have h1 : (cutsOf (S x) (S [c])).isEmpty = false := by simpa using hr.1
    rw [h1]; rfl
  · have h1 : u ≠ 0 := Nat.ne_of_gt hu
    have h2 : v ≠ 0 := Nat.ne_of_gt hv
    simp [h1, h2]
  · simpa using huv
  · rw [hg]
    have he := List.length_erase_le (a := c) (l := x)
    exact ⟨by rw [sL]; simp [Str.length]; omega, hq _ _⟩

theorem SemET.replace {o sg : Expr} {apos p1 p2 pos : Pos} {k1 k2 : Nat} {x : List Nat} {c : Nat} {u : Tok} (ho : SemE w n env ρ o (.str x)) (hs : SemE w n env ρ sg (.val (.str (S [c]) u))) (hu : 1 ≤ u) (hT : u < T) (hr : replOk x c = true) (hz : x.length ≤ 1000)
    (hbase : attributeBase o (Str.ofString "replace") env (eval o env) = eval o env := by rfl)
    (hfew : ((backTo pos (starEach [sg, .Constant (.str (S [])) k1 p1, .Constant (.int 1) k2 p2] env)).all (fun x => !x.1) && (backToKw pos (keywordEach [] env)).all (fun x => x.1.isSome) && decide ([sg, .Constant (.str (S [])) k1 p1, .Constant (.int 1) k2 p2].length + ([] : List Keyword).length + (if ([] : List Keyword).isEmpty then 0 else 1) < 30)) = true := by rfl)
    (hline : (apos.endLine == pos.line) = true := by rfl) (he : starEach [sg, .Constant (.str (S [])) k1 p1, .Constant (.int 1) k2 p2] env = (false, eval sg env) :: starEach [.Constant (.str (S [])) k1 p1, .Constant (.int 1) k2 p2] env := by rfl) :
    SemET w n env ρ T (.Call (.Attribute o (Str.ofString "replace") apos) [sg, .Constant (.str (S [])) k1 p1, .Constant (.int 1) k2 p2] [] pos) (.str (x.erase c)) := by
  intro A X s Q E ok hT₀ k
  refine wpAny_Call_method_lateS hbase hfew hline (wt hT₀ (ho A X s _ E ok fun ov s₁ e₁ r => fun hT₁ => ?_))
  cases r with
  | @str _ t =>
  refine ⟨"str", "str.replace", PySem.F.plainAttrs_str, PySem.F.slot_str_replace, PySem.F.type_str_replace, typeIs_str _ _ _, ?_, ?_⟩
  · exact TypeP.str X s₁ _ (.str x t) |>.2
  have hsp : wpAny (model pr w) A (spliced (backTo pos (starEach [sg, .Constant (.str (S [])) k1 p1, .Constant (.int 1) k2 p2] env))) (fun vs s' => wpAny (model pr w) A (PySem.call (.builtin "str.replace") (.str (S x) t :: vs)) Q E s') E s₁ := by
    refine args_cons (wt hT₁ (hs A X s₁ _ E (ok.ext e₁) fun sv s₂ e₂ rs => fun hT₂ => ?_)) he
    cases rs
    refine args_cons (Calls.Constant_str ?_) rfl
    refine args_cons (wpAny_Constant_int ?_) rfl
    refine args_nil ?_
    refine wt (T := T) (Nat.le_trans hT₂ (Nat.le_trans (Nat.le_succ _) (Nat.le_succ _))) (call_replace1 hu (Nat.le_trans hu (Nat.le_trans (Nat.le_of_lt hT) hT₂)) (Nat.ne_of_lt (Nat.lt_of_lt_of_le hT hT₂)) hr hz fun t' tk => fun hT₃ => ?_)
    exact k _ _ (e₁.trans (e₂.trans (.tok s₂ tk))) hT₃ (.str _ t')
  rw [he] at hsp ⊢
  exact Calls.callWith_builtin rfl (Calls.evalArgs_plain hsp)
end
end Mine
end

section
open PySem PySem.W PyProof.Rows
set_option autoImplicit false
set_option linter.all false
set_option maxRecDepth 100000
namespace Mine

noncomputable def ordF : Nat → List Nat → List (List Nat)
  | 0, _ => [[]]
  | m + 1, x => (sortT (distT (x.map fun c => [c]))).flatMap fun t => (ordF m (x.erase (t.headD 0))).map (t ++ ·)

noncomputable def abc (c : Nat) : Prop := c = 97 ∨ c = 98 ∨ c = 99
theorem words_mem : ∀ (m : Nat) (x : List Nat), x ∈ words m ↔ x.length = m ∧ ∀ c ∈ x, abc c
  | 0, x => by
    rw [words, List.mem_singleton]
    constructor
    · rintro rfl; exact ⟨rfl, fun c h => by cases h⟩
    · rintro ⟨h, -⟩; exact List.length_eq_zero_iff.mp h
  | m + 1, x => by
    rw [words, List.mem_flatMap]
    constructor
    · rintro ⟨y, hy, hx⟩
      obtain ⟨h1, h2⟩ := (words_mem m y).mp hy
      simp only [List.mem_cons, List.mem_nil_iff, or_false] at hx
      rcases hx with rfl | rfl | rfl
      · exact ⟨by simp [h1], fun c hc => (List.mem_cons.mp hc).elim (fun q => .inl q) (h2 c)⟩
      · exact ⟨by simp [h1], fun c hc => (List.mem_cons.mp hc).elim (fun q => .inr (.inl q)) (h2 c)⟩
      · exact ⟨by simp [h1], fun c hc => (List.mem_cons.mp hc).elim (fun q => .inr (.inr q)) (h2 c)⟩
    · rintro ⟨h1, h2⟩
      cases x with
      | nil => simp at h1
      | cons a y =>
        refine ⟨y, (words_mem m y).mpr ⟨by simpa using h1, fun c hc => h2 c (.tail _ hc)⟩, ?_⟩
        rcases h2 a (.head _) with rfl | rfl | rfl <;> simp
theorem words_erase {m : Nat} {x : List Nat} {c : Nat} (h : x ∈ words (m + 1)) (hc : c ∈ x) : x.erase c ∈ words m := by
  obtain ⟨h1, h2⟩ := (words_mem _ _).mp h
  exact (words_mem _ _).mpr ⟨by rw [List.length_erase_of_mem hc, h1]; rfl, fun d hd => h2 d (List.mem_of_mem_erase hd)⟩
noncomputable def ordOk (m : Nat) (x : List Nat) : Bool := Nat.ble (ordF m x).length 100 && (ordF m x).all fun z => Nat.ble z.length 100
theorem ord_all : ([0, 1, 2, 3, 4].all fun n => (words n).all fun x => ordOk n x) = true := by decide +kernel
theorem ord_ok {m : Nat} {x : List Nat} (hm : m ≤ 4) (h : x ∈ words m) : (ordF m x).length ≤ 100 ∧ ∀ z ∈ ordF m x, z.length ≤ 100 := by
  have h1 := List.all_eq_true.mp ord_all m (by
    have : m = 0 ∨ m = 1 ∨ m = 2 ∨ m = 3 ∨ m = 4 := by omega
    rcases this with rfl | rfl | rfl | rfl | rfl <;> simp)
  have h2 := List.all_eq_true.mp h1 x h
  unfold ordOk at h2
  rw [Bool.and_eq_true] at h2
  exact ⟨Nat.le_of_ble_eq_true h2.1, fun z hz => Nat.le_of_ble_eq_true (List.all_eq_true.mp h2.2 z hz)⟩
theorem repl_ok {m : Nat} {x : List Nat} {c : Nat} (hm : m ≤ 4) (h : x ∈ words m) (hc : c ∈ x) : replOk x c = true := by
  have h0 : m = 1 ∨ m = 2 ∨ m = 3 ∨ m = 4 := by
    have := (words_mem m x).mp h
    have : 0 < x.length := List.length_pos_of_mem hc
    omega
  have h1 := List.all_eq_true.mp repl_all m (by rcases h0 with rfl | rfl | rfl | rfl <;> simp)
  exact List.all_eq_true.mp (List.all_eq_true.mp h1 x h) c hc

theorem addT_mem {l : List (List Nat)} {k t : List Nat} (h : t ∈ addT l k) : t ∈ l ∨ t = k := by
  unfold addT at h
  split at h
  · exact .inl h
  · simpa using h
theorem foldl_addT_mem {t : List Nat} : ∀ {l acc : List (List Nat)}, t ∈ l.foldl addT acc → t ∈ acc ∨ t ∈ l
  | [], acc, h => .inl h
  | k :: l, acc, h => by
    rcases foldl_addT_mem (l := l) h with h | h
    · rcases addT_mem h with h | rfl
      · exact .inl h
      · exact .inr (.head _)
    · exact .inr (.tail _ h)
theorem dist_mem {x : List Nat} {t : List Nat} (h : t ∈ sortT (distT (x.map fun c => [c]))) : ∃ c ∈ x, t = [c] := by
  have h1 := (sortT_perm _).mem_iff.mp h
  rcases foldl_addT_mem h1 with h1 | h1
  · cases h1
  · obtain ⟨c, hc, rfl⟩ := List.mem_map.mp h1
    exact ⟨c, hc, rfl⟩

theorem g_orders (w : World) : nsIn (KK w) mainGlobals (Str.ofString "_law_orders") = some (some (.ref 272)) := by kernel_rfl!
theorem k_orders (w : World) : keepIn (KK w) (.ref 272) = true := by kernel_rfl!
theorem g_sorted (w : World) : nsIn (KK w) mainGlobals (Str.ofString "sorted") = some none := by kernel_rfl!
theorem g_set (w : World) : nsIn (KK w) mainGlobals (Str.ofString "set") = some none := by kernel_rfl!

/-- if x == c: return ..; return e -/
theorem SemB.ifret1 {w : World} {n : Nat} {env : Env} {ρ : Rho} {x : Str} {c : Str} {k : Nat} {p1 p2 p3 pos rpos : Pos} {body : List Stmt} {e : Expr} {xs : List Nat} {q : P} (hv : ρ.lookup x = some (.str xs)) (h1 : (xs == c.cps.toList) = true → SemB w n env ρ body (.ret q))
    (h2 : (xs == c.cps.toList) = false → SemET w n env ρ 1 e q) (hd : (x == ("__debug__" : Str)) = false := by decide) (hm : behindInMarks .Eq (.Constant (.str c) k p2) = false := by with_unfolding_all rfl) :
    SemB w n env ρ (.If (.Compare (.Name x p1) [.Eq] [.Constant (.str c) k p2] p3) body [] pos :: [.Return (some e) rpos]) (.ret q) := by
  intro A X s Q E ok kk
  refine wpAny_execs_cons (wpAny_If (wpAny_isTrue_Compare1 (SemE.var hv hd A X s _ E ok fun a s₁ e₁ r => Calls.Constant_str ?_) hm))
  cases r with
  | @str _ t =>
  refine PyProof.Rows.eq_str (wpAny_truthy_bool ?_)
  have hb : (S xs == c) = (xs == c.cps.toList) := S_beq xs c.cps.toList
  rw [hb]
  have e₂ : Ext s { s₁ with toks := s₁.toks + 1 } := e₁.trans (.tok s₁ _)
  cases hx : (xs == c.cps.toList) with
  | true =>
    simp only [if_true]
    exact h1 hx A X _ _ E (ok.ext e₂) fun v s' e r => kk v s' (e₂.toO.trans e) r
  | false =>
    simp only [Bool.false_eq_true, if_false]
    refine wpAny_execs_nil ?_
    refine wpAny_execs_cons (wpAny_Return_some (h2 hx A X _ _ E (ok.ext e₂) (Nat.le_add_left 1 _) fun v s' e _ r => kk v s' (e₂.trans e).toO r))
end Mine
end

section
open PySem PySem.W PyProof.Rows
set_option autoImplicit false
set_option linter.all false
set_option maxRecDepth 100000
namespace Mine

noncomputable def ordG (m : Nat) (x : List Nat) : P → List P
  | .val v => (ordF m (x.erase ((tx v).headD 0))).map fun r => pS (tx v ++ r)
  | _ => []

theorem Reps.vals {h : Heap} {X : Addr → Prop} : ∀ (vs : List Value), Reps h X vs (vs.map .val)
  | [] => .nil
  | v :: vs => .cons (.val v) (Reps.vals vs)

theorem c_orders (w : World) : ∀ (m : Nat) (x : List Nat), m ≤ 4 → x ∈ words m → SemC w (6 + m) (.ref 272) [.str x] (.list ((ordF m x).map pS)) := by
  intro m
  induction m with
  | zero =>
    intro x _ hx
    have hx : x = [] := by simpa [words] using hx
    subst hx
    refine SemC.fn (n := 5) (ns := [Str.ofString "letters"]) rfl (by kernel_rfl!) rfl ?_ rfl (by decide) ?_ ?_
    · exact len1 fun _ => rfl
    · exact mem1 fun _ => .inr ⟨rfl, rfl⟩
    · intro L
      refine SemB.ifret (SemT.cmp (SemE.var rfl) SemE.strc (CmpR.eqS _ _)) (fun h1 => ?_) (fun h1 => ?_)
      · exact SemB.consR (SemS.ret (SemE.listD (ps := [[]].map pS) (SemA.cons SemE.strc SemA.nil) (by simp)))
      · cases h1
  | succ m ih =>
    intro x hm' hx
    obtain ⟨hxl, hxa⟩ := (words_mem _ _).mp hx
    refine SemC.fn (n := 6 + m) (ns := [Str.ofString "letters"]) rfl (by kernel_rfl!) rfl ?_ rfl (by decide) ?_ ?_
    · exact len1 fun _ => rfl
    · exact mem1 fun _ => .inr ⟨rfl, rfl⟩
    intro L
    refine SemB.ifret1 rfl (fun h1 => ?_) (fun h1 => ?_)
    · have : x = [] := eq_of_beq h1
      subst this; simp at hxl
    intro A X s Q E ok hT kQ
    refine wt hT (SemE.compT (ρc := [(Str.ofString "letters", .str x)]) (outs := (ordF (m + 1) x).map pS) (cl := [(Str.ofString "letters", L + 1)]) 1 ?_ (fun _ => rfl) rfl (by decide) rfl (by decide) (fun n c e => find_sub rfl e) (List.pairwise_singleton _ _) (one_rho rfl rfl (fun _ => rfl) rfl) ?_ rfl ok hT fun v s' e r => fun hT' => kQ v s' e hT' r)
    · clear ok hT kQ Q E s X A
      intro A X s E ok hT
      have h128 : (S x).cps.all (· < 128) = true := by
        rw [← Array.all_toList]
        refine List.all_eq_true.mpr fun c hc => ?_
        have := hxa c hc
        unfold abc at this
        exact decide_eq_true (by omega)
      have hsz : (S x).cps.size + 1 < scanBound := by
        show x.toArray.size + 1 < 4096
        rw [List.size_toArray]; omega
      refine call1_any (f := .builtin "sorted") ok (NameV.bi (g_sorted w) rfl) callable_bi (call1_any (f := .type "set") ok (NameV.bi (g_set w) rfl) callable_ty (wt hT (SemE.var rfl (by decide) A X s _ E ok fun v s₁ e₁ r => fun hT₁ => ?_)))
      have ok₁ := ok.ext e₁
      cases r with
      | @str _ t =>
      refine ⟨ok₁.g.kin, ?_⟩
      refine call_set_str ok.room.hd h128 hsz hT₁ fun Sa s₂ vs e₂ hn hS ht hl hm => ?_
      refine ⟨(ok₁.ext e₂).g.kin, ?_⟩
      have hvl : vs.length ≤ 4 := by
        have : (S x).cps.size = x.length := by simp
        omega
      refine wt (Nat.le_refl s₂.toks) (sorted_set ok.room.hd hS rfl (by omega) (fun v hv => let ⟨y, t, e, _⟩ := ht v hv; ⟨y, t, e⟩) fun out s₃ l k e₃ hp ho hn3 hl3 => fun hT₃ => ?_)
      have hX : ¬ X l := fun q => by
        obtain ⟨o, eo⟩ := (ok₁.ext e₂).f.x.live l q
        rw [hn3] at eo; cases eo
      have hS' : sortT (distT (x.map fun c => [c])) = out.map tx := (ho.trans (by rw [hm])).symm
      refine ⟨(e₁.trans e₂).trans e₃, s₂.toks, out.map .val, ordG m x, hT₃, IterTo.list ok.room.hd (.list hl3 hX (Reps.vals out)), ?_, fun C p hpm => ?_⟩
      · rw [ordF, hS', List.flatMap_map, List.flatMap_map, List.map_flatMap]
        congr 1
        funext v
        rw [List.map_map]
        rfl
      · obtain ⟨v, hv, rfl⟩ := List.mem_map.mp hpm
        obtain ⟨c, hc, hvc⟩ := dist_mem (t := tx v) (by rw [hS']; exact List.mem_map_of_mem hv)
        obtain ⟨y, u, rfl, hu1, hu2⟩ := ht v (hp.mem_iff.mp hv)
        have hy : y = S [c] := by
          obtain ⟨⟨y⟩⟩ := y
          have : y = [c] := hvc
          subst this; rfl
        subst hy
        have hg : ordG m x (.val (.str (S [c]) u)) = ((ordF m (x.erase c)).map pS).flatMap fun q => [pS ([c] ++ q.s)] := by
          rw [List.flatMap_map, ← List.map_eq_flatMap]; rfl
        rw [hg]
        have hxe := words_erase hx hc
        refine SemItem.name rfl rfl (SemRest.nestT rfl (SemET.list (SemET.call1 (NameV.glob (g_orders w)) (callable_fn (k_orders w)) (SemET.replace (SemE.var rfl) (SemE.var rfl) hu1 hu2 (repl_ok hm' hx hc) (by omega)) (ih _ (by omega) hxe) (Nat.le_refl _))) (fun _ => rfl) fun q hq => ?_)
        obtain ⟨z, hz, rfl⟩ := List.mem_map.mp hq
        have := (ord_ok (by omega) hxe).2 z hz
        exact SemItem.name rfl rfl (SemRest.leaf rfl (SemE.addS (SemE.ofVal (SemE.var rfl)) (SemE.var rfl) (by show 1 + z.length ≤ 16777216; omega)))
    · rw [List.length_map]
      have := (ord_ok (m := m + 1) hm' hx).1
      omega
end Mine
end

section
open PySem PySem.W PyProof.Rows
set_option autoImplicit false
set_option linter.all false
set_option maxRecDepth 100000
namespace Mine

noncomputable def StrV (vs : List Value) : Prop := ∀ v ∈ vs, ∃ y t, v = .str y t
theorem any_txV {w : World} (k : Str) : ∀ {vs : List Value}, StrV vs → (vs.any fun v => (strKind pr w).is k v) = (vs.map tx).any (· == k.cps.toList)
  | [], _ => rfl
  | v :: vs, h => by
    obtain ⟨y, t, rfl⟩ := h v (.head _)
    rw [List.any_cons, List.map_cons, List.any_cons, any_txV k fun u hu => h u (.tail _ hu), isStrOf_str, str_beq]
    rfl
theorem add_txV {w : World} (k : Str) (tk : Tok) {vs : List Value} (h : StrV vs) : (if vs.any (fun v => (strKind pr w).is k v) = true then vs else vs ++ [.str k tk]).map tx = addT (vs.map tx) k.cps.toList := by
  unfold addT
  rw [any_txV k h]
  split
  · rfl
  · rw [List.map_append]; rfl
theorem add_strV {p : Value → Bool} {k : Str} {tk : Tok} {vs : List Value} (h : StrV vs) : StrV (if vs.any p = true then vs else vs ++ [.str k tk]) := by
  split
  · exact h
  · intro v hv
    rcases List.mem_append.mp hv with hv | hv
    · exact h v hv
    · rcases List.mem_singleton.mp hv with rfl
      exact ⟨k, tk, rfl⟩
theorem SetAt.keep {w : World} {h h' : Heap} {a : Addr} {vs : List Value} {led : Bool} (x : SetAt w h a vs led) (k : ∀ o, h.get? a = some o → h'.get? a = some o) : SetAt w h' a vs led :=
  let ⟨es, ep, t, ho, r⟩ := x; ⟨es, ep, t, k _ ho, r⟩

noncomputable def tailS (elt : Expr) (gens : List Comprehension) (scope : Scope) (pos : Pos) (d : Nat) (target : Expr) (ifs : List Expr) (it acc : Value) (env : Env) (v : Value) : Sem Fin := do
  letOwnedTupleGo target it v
  assign target env v
  let mut ok := true
  for c in ifs do
    if ok then ok ← isTrue c env (eval c env)
  if ok then
    match gens[d + 1]? with
    | some g' =>
      let x ← eval g'.iter env
      standAt g'.iter.pos
      let x ← if g'.is_async != 0 then foldedIterable g'.iter x else foldedSetIterable g'.iter env x
      let _ ← runOwn (.compStart (.SetComp elt gens scope pos) (d + 1) (← holding [x] (if g'.is_async != 0 then asyncIter x else pyIter x)) acc env) env
    | none => (do let v ← eval elt env; standAt elt.pos; let _ ← call (.builtin "set.add") [acc, v])
  again (.compLoop (.SetComp elt gens scope pos) d it acc env)

theorem setTurn {elt : Expr} {gens : List Comprehension} {scope : Scope} {pos : Pos} {d : Nat} {target iter : Expr} {ifs : List Expr} (hg : gens[d]? = some ⟨target, iter, ifs, 0⟩) (it acc : Value) (env : Env) :
    compTurn (.SetComp elt gens scope pos) d it acc env = (do
      standAt iter.pos
      match ← pyNext it with
      | none => pure (.done .next)
      | some v => tailS elt gens scope pos d target ifs it acc env v) := by
  unfold compTurn
  simp only [hg]
  rfl

theorem set_add_call {w : World} {A : Around} {E : Value → Shared → Prop} {s : Shared} {a : Addr} {vs : List Value} {led : Bool} {k : Str} {tk : Tok} {Q : Value → Shared → Prop} (hS : SetAt w s.heap a vs led) (hroom : vs.length + 1 < scanBound)
    (h : ∀ h' n, Heap.SameBut a s.heap h' → SetAt w h' a (if vs.any (fun v => (strKind pr w).is k v) = true then vs else vs ++ [.str k tk]) led → Q .none { s with heap := h', toks := n }) :
    wpAny (model pr w) A (PySem.call (.builtin "set.add") [.ref a, .str k tk]) Q E s := by
  have hT : s.TypeIs (.ref a) "set" := by obtain ⟨es, ep, t, ho, _⟩ := hS; exact ⟨_, ho, rfl⟩
  refine wpAny_call_entry PySem.F.slot_set_add hT PySem.F.entry_set_add ?_ (PySem.F.args_set_add_2 _ _)
  unfold Builtin.«set.add» Builtin.Frozenset.oneOther
  simp only [List.isEmpty_nil, bind_assoc]
  unfold Builtin.Frozenset.addrOf
  refine wpAny_bind (wpAny_pure ?_)
  try dsimp only
  refine wpAny_bind (wpAny_pure ?_)
  try dsimp only
  refine wpAny_bind (set_add hS hroom fun b h' n hs hS' => ?_)
  show wpAny _ _ (ret Value.none) _ _ _
  exact wpAny_pure ⟨_, rfl, h h' n hs hS'⟩

section
variable {w : World} {n : Nat} {cenv : Env} {elt iter : Expr} {x : Str} {px : Pos} {scope : Scope} {pos : Pos}
noncomputable abbrev setE (elt iter : Expr) (x : Str) (px : Pos) (scope : Scope) (pos : Pos) : Expr := .SetComp elt [⟨.Name x px, iter, [], 0⟩] scope pos

theorem set_cell {env : Env} {h : Heap} {X : Addr → Prop} (f : Frm env h X) {D : Addr} {vs : List Value} {led : Bool} (hl : SetAt w h D vs led) : ∀ n c, env.cells.lookup n = some c → c ≠ D := fun n c e q => by
  obtain ⟨_, _, v, o, ho, hd⟩ := f.cellx n c e
  obtain ⟨es, ep, t, hs, _⟩ := hl
  rw [q, hs] at ho; cases ho; cases hd

theorem setLoop_sem {A : Around} {X X₀ : Addr → Prop} {s : Shared} {D I : Addr} {R : Result → Shared → Prop} {xs : List (List Nat)} {f : List Nat → List Nat} {fp : List Addr} {Pf : Nat → Value → Prop} {St : Nat → Heap → Prop} {led : Bool}
    (ok : Ok w n cenv [] A X s) (hkx : cenv.kindOf x = some .local) (hXX : ∀ b, X b ↔ (X₀ b ∨ b = I)) (hI₀ : ¬ X₀ I) (hD : X₀ D) (hDC : D ≠ cenv.locals) (hl : SetAt w s.heap D [] led) (hz : xs.length + 1 < scanBound)
    (hL₀ : X₀ cenv.locals) (hC₀ : ∀ n c, cenv.cells.lookup n = some c → X₀ c) (hfp : ∀ b ∈ fp, (b = I ∨ ¬ X₀ b) ∧ ∃ o, s.heap.get? b = some o) (W : Walks pr w A I fp [I] (xs.map pS).length Pf St) (hst : St 0 s.heap) (hlive : ∀ i h, St i h → ∃ o, h.get? I = some o)
    (hitem : ∀ i v, Pf i v → ∀ p, (xs.map pS)[i]? = some p → Rep s.heap X v p) (item : ∀ y ∈ xs, SemE w n cenv [(x, pS y)] elt (.str (f y))) (hidle : ∀ i h, St (i + 1) h → Idle h I)
    (hR : ∀ s' vs, Same s s' → (∀ b o, b ≠ cenv.locals → b ≠ D → b ≠ I → s.heap.get? b = some o → s'.heap.get? b = some o) → SetAt w s'.heap D vs led → StrV vs → vs.map tx = distT (xs.map f) → vs.length ≤ xs.length → (∃ m, s'.heap.Ns cenv.locals m) → R (.ok .next) s') :
    codeAny (model pr w) A (.compLoop (setE elt iter x px scope pos) 0 (.ref I) (.ref D) cenv) R s := by
  have hIL : I ≠ cenv.locals := fun q => hI₀ (q ▸ hL₀)
  have hID : I ≠ D := fun q => hI₀ (q ▸ hD)
  have hIc : ∀ n c, cenv.cells.lookup n = some c → c ≠ I := fun n c e q => hI₀ (q ▸ hC₀ n c e)
  have hXI : X I := (hXX I).mpr (.inr rfl)
  have hXD : X D := (hXX D).mpr (.inl hD)
  have sub : ∀ b, X₀ b → X b := fun b h => (hXX b).mpr (.inl h)
  have hlen : (xs.map pS).length = xs.length := List.length_map _
  rw [hlen] at W
  refine codeAny_loop rfl (fun j s' => ∃ i vs, j = xs.length + 1 - i ∧ i ≤ xs.length ∧ Same s s' ∧ (∀ b o, b ≠ cenv.locals → b ≠ D → b ≠ I → s.heap.get? b = some o → s'.heap.get? b = some o) ∧
    SetAt w s'.heap D vs led ∧ StrV vs ∧ vs.map tx = distT ((xs.take i).map f) ∧ vs.length ≤ i ∧ Ok w n cenv [] A X s' ∧ St i s'.heap) ?_ (xs.length + 1) ⟨0, [], rfl, Nat.zero_le _, ⟨s.heap, s.toks, rfl⟩, fun _ _ _ _ _ e => e, hl, fun v hv => by simp at hv, rfl, by simp, ok, hst⟩
  rintro j s' ⟨i, vs, rfl, hi, sm, kp, hl', hv, ht, hvl, ok', st'⟩
  show wpAny _ A ((compTurn (setE elt iter x px scope pos) 0 (.ref I) (.ref D) cenv).onRaise (fun x => do noteFrame x cenv; theTreesLotGoes x)) _ _ s'
  refine wpAny_noted ?_
  rw [setTurn (gens := [⟨.Name x px, iter, [], 0⟩]) (d := 0) rfl]
  refine wpAny_bind (wpAny_standAt (wpAny_bind ?_))
  by_cases hlt : i < xs.length
  · refine W.item i s' _ _ hlt st' fun v h' tk hPv hst' hk => ?_
    have hk' : ∀ b o, b ≠ I → s'.heap.get? b = some o → h'.get? b = some o := fun b o hb e => hk b o (by simpa using hb) e
    obtain ⟨oI, hoI⟩ := hlive _ _ hst'
    have ok₁ : Ok w n cenv [] A X { s' with heap := h', toks := tk } := ok'.change (X₀ := X) (Y := fun b => b = I) (fun _ h => h) ok'.f.lx (fun n c e => (ok'.f.cellx n c e).1) (fun b q => by subst q; exact ⟨hXI, hIL, hIc⟩) (fun b _ q => ⟨oI, q ▸ hoI⟩) fun b o q e => hk' b o q e
    have hp : (xs.map pS)[i]? = some (pS xs[i]) := by rw [List.getElem?_map, List.getElem?_eq_getElem hlt]; rfl
    have hr : Rep h' X v (pS xs[i]) := (hitem i v hPv _ hp).mono fun b o nx e => ⟨hk' b o (fun q => nx (q ▸ hXI)) (kp b o (fun q => nx (q ▸ ok.f.lx)) (fun q => nx (q ▸ hXD)) (fun q => nx (q ▸ hXI)) e), nx⟩
    have hl₁ : SetAt w h' D vs led := hl'.keep fun o e => hk' _ _ (Ne.symm hID) e
    unfold tailS
    refine wpAny_bind ((hidle _ _ hst').go (wpAny_bind (wpAny_assign_Name (store_loc ok₁ hr hkx fun s₂ sm₂ kp₂ ok₂ => ?_))))
    simp only [List.forIn_nil]
    refine wpAny_bind (wpAny_pure ?_)
    simp only [if_true]
    refine wpAny_bind (wpAny_bind (item xs[i] (List.getElem_mem hlt) A X s₂ _ _ ok₂ fun u s₃ e₃ ru => ?_))
    cases ru with
    | @str _ ut =>
    have hl₃ : SetAt w s₃.heap D vs led := (hl₁.keep fun o e => kp₂ _ _ hDC e).keep fun o e => e₃.keep _ _ e
    refine wpAny_bind (wpAny_standAt (wpAny_bind (set_add_call hl₃ (by omega) fun h₄ n₄ hs₄ hS₄ => wpAny_pure (wpAny_pure ⟨rfl, xs.length + 1 - (i + 1), by omega, ?_⟩))))
    have hsplit : xs.take (i + 1) = xs.take i ++ [xs[i]] := by rw [List.take_add_one, List.getElem?_eq_getElem hlt]; rfl
    have kall : ∀ b o, b ≠ cenv.locals → b ≠ D → b ≠ I → s'.heap.get? b = some o → h₄.get? b = some o := fun b o h1 h2 h3 e => (hs₄.2 b h2).trans (e₃.keep _ _ (kp₂ b o h1 (hk' b o h3 e)))
    have okw : Ok w n cenv [] A X s₃ := (ok₂.ext e₃).weak fun y q e => by cases e
    refine ⟨i + 1, _, rfl, hlt, (sm.trans ⟨h', tk, rfl⟩).trans (sm₂.trans (e₃.same.trans ⟨h₄, n₄, rfl⟩)), fun c o h1 h2 h3 e => kall c o h1 h2 h3 (kp c o h1 h2 h3 e), hS₄, add_strV hv, ?_, Nat.le_trans (add_len vs) (by omega), ?_, ?_⟩
    · rw [add_txV _ _ hv, ht, hsplit, List.map_append]
      unfold distT
      rw [List.foldl_append]
      rfl
    · obtain ⟨es, ep, t, ho, _⟩ := hS₄
      exact okw.change (X₀ := X) (Y := fun b => b = D) (fun _ h => h) okw.f.lx (fun n c e => (okw.f.cellx n c e).1) (fun b q => by subst q; exact ⟨hXD, hDC, set_cell okw.f hl₃⟩) (fun b _ q => ⟨_, q ▸ ho⟩) fun b o q e => (hs₄.2 b q).trans e
    · refine W.frame _ _ _ hst' fun c hc o e => ?_
      rcases (hfp c hc).1 with rfl | hn
      · exact (hs₄.2 _ hID).trans (e₃.keep _ _ (kp₂ _ _ hIL e))
      · exact (hs₄.2 c fun q => hn (q ▸ hD)).trans (e₃.keep _ _ (kp₂ _ _ (fun q => hn (q ▸ hL₀)) e))
  · have hin : i = xs.length := by omega
    subst hin
    refine W.done s' _ _ st' fun h' tk hk => ?_
    have hk' : ∀ b o, b ≠ I → s'.heap.get? b = some o → h'.get? b = some o := fun b o hb e => hk b o (by simpa using hb) e
    rw [List.take_length] at ht
    refine wpAny_pure ?_
    obtain ⟨m, hm⟩ := ok'.f.ns
    exact hR _ vs (sm.trans ⟨h', tk, rfl⟩) (fun b o h1 h2 h3 e => hk' b o h3 (kp b o h1 h2 h3 e)) (hl'.keep fun o e => hk' _ _ (Ne.symm hID) e) hv ht hvl ⟨m, Heap.Ns.at'' hm fun o e => hk' _ _ (Ne.symm hIL) e⟩
end
end Mine
end

section
open PySem PySem.W PyProof.Rows
set_option autoImplicit false
set_option linter.all false
set_option maxRecDepth 100000
namespace Mine
section
variable {w : World} {n : Nat} {env : Env} {ρ : Rho} {elt iter : Expr} {x : Str} {px : Pos} {scope : Scope} {pos : Pos}

theorem setStart_sem {cenv : Env} {A : Around} {D I : Addr} {R : Result → Shared → Prop} {s : Shared}
    (h0 : codeAny (model pr w) A (.compLoop (setE elt iter x px scope pos) 0 (.ref I) (.ref D) cenv) R s) (hs : ∀ (Q : Value → Shared → Prop) (E : Value → Shared → Prop), Q (.ref I) s → wpAny (model pr w) A (pyIter (.ref I)) Q E s) :
    codeAny (model pr w) A (.compStart (setE elt iter x px scope pos) 0 (.ref I) (.ref D) cenv) R s := by
  refine codeAny_of_tree ?_
  show wpAny _ A ((compStart (setE elt iter x px scope pos) 0 (.ref I) (.ref D) cenv).onRaise (fun x => do noteFrame x cenv; standAt theWindowsPlace)) _ _ s
  refine wpAny_notedAt ?_
  unfold compStart
  have hc : (clausesOf (setE elt iter x px scope pos))[0]? = some ⟨.Name x px, iter, [], 0⟩ := rfl
  simp only [hc]
  show wpAny _ _ (ask >>= _) _ _ s
  refine wpAny_bind (wpAny_askSetting (wpAny_ite ?_))
  split
  · first
      | exact wpAny_bind (wpAny_pure (wpAny_pure (And.intro rfl h0)))
      | exact wpAny_pure (And.intro rfl h0)
  · first
      | exact wpAny_bind (wpAny_rule (wpAny_bind (wpAny_standAt (wpAny_bind (hs _ _ (wpAny_pure (And.intro rfl h0)))))))
      | (refine wpAny_bind (wpAny_rule ?_); show wpAny _ _ (standAt iter.pos >>= _) _ _ s; exact wpAny_bind (wpAny_standAt (wpAny_bind (hs _ _ (wpAny_pure (And.intro rfl h0))))))

theorem newSet_any {A : Around} {s : Shared} {Q E : Value → Shared → Prop} (h : Q (.ref s.heap.objs.size) { s with heap := s.heap.push (newSetO (!byText w)) }) : wpAny (model pr w) A (newSet (.type "set")) Q E s := by
  unfold newSet setsByText
  refine wpAny_bind (wpAny_bind (wpAny_askSetting (wpAny_pure ?_)))
  dsimp only
  simp only [newObj]
  exact wpAny_bind (wpAny_alloc (wpAny_pure h))

theorem setComp_any {A : Around} {X : Addr → Prop} {s : Shared} {Q E : Value → Shared → Prop} {xs : List (List Nat)} {f : List Nat → List Nat} (ok : Ok w n env ρ A X s) (hi : SemI w n env ρ iter (xs.map pS))
    (hf : ∀ v, foldedSetIterable iter env v = pure v) (hclos : closureFor scope env = pure []) (hcell : ∀ y ∈ scope.names, y.2 ≠ .cell) (hkind : scope.kind = .function) (hnames : ∀ x ∈ scope.names, x.2 = .local → scope.names.lookup x.1 = some .local)
    (hkx : ∀ C, (compEnvC scope [] C env).kindOf x = some .local) (item : ∀ C, ∀ y ∈ xs, SemE w n (compEnvC scope [] C env) [(x, pS y)] elt (.str (f y))) (hz : xs.length + 1 < scanBound)
    (hev : eval (setE elt iter x px scope pos) env = comprehension (setE elt iter x px scope pos) scope env (firstIterPos [⟨.Name x px, iter, [], 0⟩] pos) (newSet (.type "set")) false (eval iter env))
    (kQ : ∀ D s' vs, Ext s s' → s.heap.get? D = none → SetAt w s'.heap D vs (!byText w) → StrV vs → vs.map tx = distT (xs.map f) → vs.length ≤ xs.length → Q (.ref D) s') :
    wpAny (model pr w) A (eval (setE elt iter x px scope pos) env) Q E s := by
  rw [hev]
  refine wpAny_comprehension_free (use := none) rfl hf hclos hkind hnames (hi A X s _ E ok fun v s₁ e₁ hx => ?_)
  refine hx _ E fun I h fp Pf St up hI hI2 hfp W hst hlive hitem hidle => ?_
  have ok₁ := ok.ext e₁
  have eI : Ext s₁ { s₁ with heap := h } := .ofH up
  have hIX : ¬ X I := ok₁.f.x.fresh hI
  have ok₂ : Ok w n env ρ A X { s₁ with heap := h } := ok₁.ext eI
  refine newSet_any (wpAny_newFunctionEnv hcell (by intro y hy; simp at hy) (fun h₁ hns₁ hsb₁ => ?_) hkind)
  dsimp only at hns₁ hsb₁ ⊢
  generalize hH2 : h.push (newSetO (!byText w)) = H2 at hns₁ hsb₁ ⊢
  have hC : H2.objs.size = h.objs.size + 1 := by rw [← hH2, Heap.size_push]
  generalize hDe : h.objs.size = D at hC ⊢
  generalize hCe : H2.objs.size = C at hC hns₁ hsb₁ ⊢
  have hDC' : @Ne Nat D C := by omega
  have hDC : D ≠ C := hDC'
  obtain ⟨oI, hoI⟩ := hI2
  have hIlt : @LT.lt Nat instLTNat I D := hDe ▸ Heap.lt_size hoI
  have old : ∀ b o, h.get? b = some o → h₁.get? b = some o := fun b o e => by
    have hb : @LT.lt Nat instLTNat b D := hDe ▸ Heap.lt_size e
    have hb' : @Ne Nat b C := by omega
    exact hsb₁.extBut b o hb' (Heap.get?_push_of_some _ (hH2 ▸ Heap.get?_push_of_some _ e))
  have hacc : h₁.get? D = some (newSetO (!byText w)) := hsb₁.extBut _ _ hDC (Heap.get?_push_of_some _ (by rw [← hH2, ← hDe]; exact Heap.get?_push_size _ rfl))
  have nD : ∀ b o, h.get? b = some o → b ≠ D ∧ b ≠ C := fun b o e => by
    have hb : @LT.lt Nat instLTNat b D := hDe ▸ Heap.lt_size e
    have hb' : @Ne Nat b C := by omega
    have hb'' : @Ne Nat b D := by omega
    exact ⟨hb'', hb'⟩
  have hXlive : ∀ b, X b → b ≠ D ∧ b ≠ C ∧ b ≠ I := fun b hb => by
    obtain ⟨o, ho⟩ := ok₁.f.x.live b hb
    have h1 := nD b o (up _ _ ho)
    refine ⟨h1.1, h1.2, fun q => hIX (q ▸ hb)⟩
  let X₀ : Addr → Prop := fun b => X b ∨ b = D ∨ b = C
  let X' : Addr → Prop := fun b => X₀ b ∨ b = I
  have hI₀ : ¬ X₀ I := fun q => q.elim hIX fun q => q.elim (fun q => Nat.lt_irrefl D (q ▸ hIlt)) fun q => by have q' : @Eq Nat I C := q; omega
  have lo : 283 ≤ D := hDe ▸ ok₂.g.high
  have okc : Ok w n (compEnvC scope [] C env) [] A X' { s₁ with heap := h₁, toks := s₁.toks + ([] : List (Str × Value)).length } := by
    refine ⟨ok.room, ok₂.g.keeps old, ⟨hkind, ok.f.glob, ok.f.bi, ⟨_, hns₁⟩, .inl (.inr (.inr rfl)), (fun k c e => by cases e), List.Pairwise.nil, ⟨fun b hb => ?_, fun b hb => ?_⟩⟩, fun x p e => by cases e⟩
    · rcases hb with (hb | hb | hb) | hb
      · exact ok.f.x.high b hb
      · rw [hb]; exact lo
      · have lo' : @LE.le Nat instLENat 283 D := lo
        have : @LE.le Nat instLENat 283 C := by omega
        rw [hb]; exact this
      · rw [hb]; exact Nat.le_trans ok₁.g.high hI
    · rcases hb with (hb | hb | hb) | hb
      · obtain ⟨o, ho⟩ := ok₂.f.x.live b hb
        exact ⟨o, old _ _ ho⟩
      · rw [hb]; exact ⟨_, hacc⟩
      · obtain ⟨o, _, _, ho, _⟩ := hns₁
        rw [hb]; exact ⟨o, ho⟩
      · rw [hb]; exact ⟨oI, old _ _ hoI⟩
  have hst₁ : St 0 h₁ := W.frame _ _ _ hst fun b _ o e => old b o e
  refine setStart_sem ?_ fun Q E q => W.self 0 _ Q E hst₁ q
  refine setLoop_sem (X := X') (X₀ := X₀) (n := n) okc (hkx C) (fun b => Iff.rfl) hI₀ (.inr (.inl rfl)) hDC (fresh_setAt hacc) hz (.inr (.inr rfl)) (fun n c e => by cases e) (fun b hb => ?_) W hst₁ hlive ?_ (item C) hidle ?_
  · obtain ⟨h1, o, ho⟩ := hfp b hb
    refine ⟨h1.imp id fun nx q => ?_, o, old _ _ ho⟩
    have hn := nD b o ho
    rcases q with q | q | q
    · exact nx q
    · exact hn.1 q
    · exact hn.2 q
  · intro i v hP p hp
    refine (hitem i v hP p hp).mono fun b o nx e => ⟨old b o e, fun q => ?_⟩
    have hn := nD b o e
    rcases q with (q | q | q) | q
    · exact nx (.inl q)
    · exact hn.1 q
    · exact hn.2 q
    · exact nx (.inr q)
  · intro s' vs sm kp hS hv ht hvl ⟨m, hm⟩
    have nn : ∀ b : Addr, @LE.le Nat instLENat h.objs.size b → s.heap.get? b = none := fun b hb => by
      cases e : s.heap.get? b with
      | none => rfl
      | some o => exact absurd (Heap.lt_size (up _ _ (e₁.keep _ _ e))) (Nat.not_lt.mpr hb)
    have freshC := nn C (by omega)
    refine ⟨m, hm, fun h'' hs'' => ?_⟩
    refine kQ D _ vs ⟨Same.trans e₁.same (Same.trans ⟨_, _, rfl⟩ (sm.trans ⟨h'', s'.toks, rfl⟩)), fun b o e => ?_⟩ (nn D (Nat.le_of_eq hDe)) (hS.keep fun o e => hs''.extBut D _ hDC e) hv ht hvl
    have e' := e₁.keep _ _ e
    have hn := nD b o (up _ _ e')
    refine hs''.extBut b o hn.2 (kp b o hn.2 hn.1 (fun q => ?_) (old _ _ (up _ _ e')))
    rw [q, Heap.get_size _ _ hI] at e'; cases e'
end
end Mine
end

section
open PySem PySem.W PyProof.Rows
set_option autoImplicit false
set_option linter.all false
set_option maxRecDepth 100000
namespace Mine
section
variable {w : World} {n : Nat} {env : Env} {ρ : Rho}

/-- o.name() -/
theorem SemE.imeth0 {m : Nat} {o : Expr} {name : Str} {apos pos : Pos} {f : Addr} {p q : P} {pl : Sem Bool} (ho : SemE w n env ρ o p) (hp : InstP p) (M : MethAt w name f) (h : SemC w m (.ref f) [p] q) (hm : m ≤ n)
    (hev : eval (.Call (.Attribute o name apos) [] [] pos) env = (do
      let ov ← eval o env
      standAt apos.atName
      let (f, first) ← holding [ov] (getMethod ov name pl)
      callWith pos f first (backTo pos (starEach [] env)) (backToKw pos (keywordEach [] env))) := by rfl) : SemE w n env ρ (.Call (.Attribute o name apos) [] [] pos) q := by
  intro A X s Q E ok kQ
  refine instCall ok ho hp M hev fun x s₁ e₁ r => ?_
  have ok₁ := ok.ext e₁
  have := callWith_K0 (K := KK w) (M := model pr w) (A := A) (E := E) (Q := Q) (pos := pos) (env := env) (f := .ref f) (first := [.ref x]) ok₁.g.kin M.keep (h A X s₁ [.ref x] Q E (ok₁.room.le hm) ok₁.g ok₁.f.x (.cons r .nil) fun v' s' e' rv' => kQ v' s' (e₁.trans e') rv')
  exact this

/-- o.name(e) -/
theorem SemE.imeth1 {m : Nat} {o e : Expr} {name : Str} {apos pos : Pos} {f : Addr} {p pa q : P} {pl : Sem Bool} (ho : SemE w n env ρ o p) (hp : InstP p) (M : MethAt w name f) (he : SemE w n env ρ e pa) (h : SemC w m (.ref f) [p, pa] q) (hm : m ≤ n)
    (hse : starEach [e] env = [(false, eval e env)] := by rfl)
    (hev : eval (.Call (.Attribute o name apos) [e] [] pos) env = (do
      let ov ← eval o env
      standAt apos.atName
      let (f, first) ← holding [ov] (getMethod ov name pl)
      callWith pos f first (backTo pos (starEach [e] env)) (backToKw pos (keywordEach [] env))) := by rfl) : SemE w n env ρ (.Call (.Attribute o name apos) [e] [] pos) q := by
  intro A X s Q E ok kQ
  refine instCall ok ho hp M hev fun x s₁ e₁ r => ?_
  have ok₁ := ok.ext e₁
  have := callWith_K (K := KK w) (h₀ := s₁.heap) (M := model pr w) (A := A) (E := E) (Q := Q) (s := s₁) (pos := pos) (env := env) (f := .ref f) (first := [.ref x]) (e := e) (rest := []) ok₁.g.kin M.keep
    (args_cons (he A X s₁ _ E ok₁ fun v s₂ e₂ rv => args_nil ⟨(ok₁.ext e₂).g.kin, h A X s₂ [.ref x, v] Q E (ok₁.room.le hm) (ok₁.ext e₂).g (ok₁.ext e₂).f.x (.cons (r.ext e₂) (.cons rv .nil)) fun v' s' e' rv' => kQ v' s' ((e₁.trans e₂).trans e') rv'⟩) hse) hse rfl
  exact this

theorem StrV.reps {h : Heap} {X : Addr → Prop} : ∀ {vs : List Value}, StrV vs → Reps h X vs ((vs.map tx).map pS)
  | [], _ => .nil
  | v :: vs, hv => by
    obtain ⟨y, t, rfl⟩ := hv v (.head _)
    exact .cons (by obtain ⟨⟨y⟩⟩ := y; exact .str y t) (StrV.reps fun u hu => hv u (.tail _ hu))

/-- sorted({elt for x in iter}) -/
theorem SemE.sortedComp {elt iter : Expr} {x : Str} {px : Pos} {scope : Scope} {cpos np pos : Pos} {xs : List (List Nat)} {f : List Nat → List Nat} (hi : SemI w n env ρ iter (xs.map pS))
    (hf : ∀ v, foldedSetIterable iter env v = pure v) (hclos : closureFor scope env = pure []) (hcell : ∀ y ∈ scope.names, y.2 ≠ .cell) (hkind : scope.kind = .function) (hnames : ∀ x ∈ scope.names, x.2 = .local → scope.names.lookup x.1 = some .local)
    (hkx : ∀ C, (compEnvC scope [] C env).kindOf x = some .local) (item : ∀ C, ∀ y ∈ xs, SemE w n (compEnvC scope [] C env) [(x, pS y)] elt (.str (f y))) (hz : xs.length < 64)
    (hev : eval (setE elt iter x px scope cpos) env = comprehension (setE elt iter x px scope cpos) scope env (firstIterPos [⟨.Name x px, iter, [], 0⟩] cpos) (newSet (.type "set")) false (eval iter env))
    (hs : NameV w n env ρ (Str.ofString "sorted") (.builtin "sorted"))
    (he : starEach [setE elt iter x px scope cpos] env = [(false, eval (setE elt iter x px scope cpos) env)] := by rfl)
    (hev2 : eval (.Call (.Name (Str.ofString "sorted") np) [setE elt iter x px scope cpos] [] pos) env = (do callWith pos (← eval (.Name (Str.ofString "sorted") np) env) [] (backTo pos (starEach [setE elt iter x px scope cpos] env)) (backToKw pos (keywordEach [] env))) := by rfl) :
    SemE w n env ρ (.Call (.Name (Str.ofString "sorted") np) [setE elt iter x px scope cpos] [] pos) (.list ((sortT (distT (xs.map f))).map pS)) := by
  intro A X s Q E ok kQ
  refine call1_any (f := .builtin "sorted") ok hs callable_bi (setComp_any ok hi hf hclos hcell hkind hnames hkx item (by unfold scanBound; omega) hev fun D s₁ vs e₁ hn hS hv ht hl => ?_) he hev2
  have ok₁ := ok.ext e₁
  refine ⟨ok₁.g.kin, sorted_set ok.room.hd hS rfl (by omega) hv fun out s₂ l k e₂ hp ho hn2 hl2 => ?_⟩
  have hX : ¬ X l := fun q => by
    obtain ⟨o, eo⟩ := ok₁.f.x.live l q
    rw [hn2] at eo; cases eo
  refine kQ _ _ (e₁.trans e₂) (.list hl2 hX ?_)
  rw [← ht, ← ho]
  exact StrV.reps fun v hv' => hv v (hp.mem_iff.mp hv')
end

noncomputable def addR (t : List Nat) (often : Int) : List (List Nat) → Int → Option Int
  | [], total => some total
  | r :: rs, total => match levF r t with
    | none => none
    | some d => if r.length ≤ 1000 then addR t often rs (total + if (d.fmod 2 == 1) = true then -often else often) else none
noncomputable def meetT (woven names : List (List Nat)) : List (List Nat) → Int → Option Int
  | [], total => some total
  | t :: ts, total => if woven.count t = 0 then meetT woven names ts total else match addR t (woven.count t) (allOf names (loF t)) total with
    | none => none
    | some u => meetT woven names ts u

theorem g_lev (w : World) : nsIn (KK w) mainGlobals (Str.ofString "_levenshtein_distance") = some (some (.ref 80)) := by kernel_rfl!
theorem k_lev (w : World) : keepIn (KK w) (.ref 80) = true := by kernel_rfl!
theorem g_meetings (w : World) : nsIn (KK w) mainGlobals (Str.ofString "_law_meetings") = some (some (.ref 277)) := by kernel_rfl!
theorem k_meetings (w : World) : keepIn (KK w) (.ref 277) = true := by kernel_rfl!

theorem dist_from {l : List (List Nat)} {t : List Nat} (h : t ∈ sortT (distT l)) : t ∈ l := by
  have h1 := (sortT_perm _).mem_iff.mp h
  rcases foldl_addT_mem h1 with h1 | h1
  · cases h1
  · exact h1
end Mine
end

section
open PySem PySem.W PyProof.Rows
set_option autoImplicit false
set_option linter.all false
set_option maxRecDepth 100000
namespace Mine

noncomputable abbrev nTotal : Str := Str.ofString "total"
noncomputable abbrev nText : Str := Str.ofString "text"
noncomputable abbrev nOften : Str := Str.ofString "often"
noncomputable abbrev nReading : Str := Str.ofString "reading"
noncomputable abbrev nWoven : Str := Str.ofString "woven"
noncomputable abbrev nTable : Str := Str.ofString "table"

noncomputable def rhoT (woven names : List (List Nat)) (total : Int) : Rho := [(nTotal, .int total), (nWoven, .list (woven.map pS)), (nTable, .hdr (names.map pairP))]
noncomputable def rhoR (woven names : List (List Nat)) (t : List Nat) (often total : Int) : Rho := [(nTotal, .int total), (nOften, .int often), (nText, .str t), (nWoven, .list (woven.map pS)), (nTable, .hdr (names.map pairP))]

theorem addR_for {w : World} {n : Nat} {env : Env} {body : List Stmt} {woven names : List (List Nat)} {t : List Nat} {often : Int}
    (hbody : ∀ (r : List Nat) (d total : Int), levF r t = some d → r.length ≤ 1000 → r.all (fun c => decide (c < 128)) = true → SemK w n env none ((nReading, pS r) :: rhoR woven names t often total) [] body (.next (rhoR woven names t often (total + if (d.fmod 2 == 1) = true then -often else often)) [])) :
    ∀ (rs : List (List Nat)) (total u : Int), (∀ r ∈ rs, r.all (fun c => decide (c < 128)) = true) → addR t often rs total = some u → ForTo w n env none nReading body (rs.map pS) (rhoR woven names t often total) [] (rhoR woven names t often u) []
  | [], total, u, _, h => by
    rw [addR] at h; cases h
    exact .nil
  | r :: rs, total, u, hr, h => by
    rw [addR] at h
    split at h
    · cases h
    · rename_i d hd
      split at h
      · rename_i hl
        exact .cons (hbody r d total hd hl (hr r (.head _))) (addR_for hbody rs _ u (fun r h => hr r (.tail _ h)) h)
      · cases h

theorem meetT_for {w : World} {n : Nat} {env : Env} {body : List Stmt} {woven names : List (List Nat)}
    (hbody : ∀ (t : List Nat) (total u : Int), t.all (fun c => decide (c < 128)) = true → (∀ c ∈ t, letter c) → t.length ≤ 1000 → meetT woven names [t] total = some u → SemK w n env none ((nText, pS t) :: rhoT woven names total) [] body (.next (rhoT woven names u) [])) :
    ∀ (ts : List (List Nat)) (total u : Int), (∀ t ∈ ts, t.all (fun c => decide (c < 128)) = true ∧ (∀ c ∈ t, letter c) ∧ t.length ≤ 1000) → meetT woven names ts total = some u → ForTo w n env none nText body (ts.map pS) (rhoT woven names total) [] (rhoT woven names u) []
  | [], total, u, _, h => by
    rw [meetT] at h; cases h
    exact .nil
  | t :: ts, total, u, hr, h => by
    obtain ⟨a1, a2, a3⟩ := hr t (.head _)
    rw [meetT] at h
    split at h
    · rename_i h0
      exact .cons (hbody t total total a1 a2 a3 (by rw [meetT, if_pos h0, meetT])) (meetT_for hbody ts total u (fun r h => hr r (.tail _ h)) h)
    · rename_i h0
      split at h
      · cases h
      · rename_i v hv
        exact .cons (hbody t total v a1 a2 a3 (by rw [meetT, if_neg h0, hv]; rfl)) (meetT_for hbody ts v u (fun r h => hr r (.tail _ h)) h)

noncomputable def tableOk (names : List (List Nat)) : Prop := names.length < 64 ∧ ∀ t ∈ names, (∀ c ∈ t, letter c) ∧ t.length ≤ 100

theorem all_128 {x : List Nat} (h : ∀ c ∈ x, letter c) : x.all (fun c => decide (c < 128)) = true := List.all_eq_true.mpr fun c hc => decide_eq_true (letters_128 h c hc)

theorem c_meetings (w : World) (woven names : List (List Nat)) (r : Int) (hn : tableOk names) (h : meetT woven names (sortT (distT (names.map loF))) 0 = some r) (hw : woven.length ≤ 10000) :
    SemC w 10 (.ref 277) [.list (woven.map pS), .hdr (names.map pairP)] (.int r) := by
  refine SemC.fn (n := 9) (ns := [Str.ofString "woven", Str.ofString "table"]) rfl (by kernel_rfl!) rfl ?_ rfl (by decide) ?_ ?_
  · exact len2 fun _ _ => rfl
  · exact mem2 (fun _ => .inl rfl) (fun _ => .inl rfl)
  intro L
  have hlen : names.length ≤ 10000 := by have := hn.1; omega
  refine SemB.cons (SemS.assign SemE.int (.inl rfl)) ?_
  refine SemB.weak (ρ' := rhoT woven names 0) ?_ (by unfold rhoT; exact sub_rho)
  refine SemB.cons (SemS.ofKS (ρ' := rhoT woven names r) (ps' := []) (SemKS.for (SemI.list (SemE.sortedComp (xs := names) (f := loF) (SemI.list (SemE.imeth0 (SemE.var rfl) InstP.hdr (m_keys w) (c_keys w names hlen) (by omega))) (fun _ => rfl) rfl (by decide) rfl (by decide) (fun _ => rfl) (fun C y hy => ?_) hn.1 rfl (NameV.bi (g_sorted w) rfl))) (meetT_for (fun t total u a1 a2 a3 hm => ?_) _ 0 r (fun t ht => ?_) h) (.inl rfl))) (SemB.consR (SemS.ret (SemE.var rfl)))
  · obtain ⟨b1, b2⟩ := hn.2 y hy
    exact SemE.meth0 (SemE.var rfl) PySem.F.plainAttrs_str PySem.F.slot_str_lower PySem.F.type_str_lower TypeP.str (SemC.lower (n := 0) (letters_128 b1) (by omega)) (by omega)
  · have hcl : woven.count t ≤ 10000 := Nat.le_trans List.count_le_length hw
    refine SemK.cons (SemKS.ofS (SemS.assign (SemE.meth (SemE.var rfl) (SemA.cons (SemE.var rfl) SemA.nil) PySem.F.plainAttrs_list PySem.F.slot_list_count PySem.F.type_list_count TypeP.list (SemC.count (n := 0)) (by omega)) (.inl rfl))) ?_
    refine SemK.weak (ρ' := rhoR woven names t (woven.count t) total) ?_ (by unfold rhoR rhoT; exact sub_rho)
    refine SemK.cons (ρ' := rhoT woven names u) (SemKS.ofS (SemS.ite (b := decide (0 < woven.count t)) (SemT.conv (SemT.cmp (SemE.var rfl) SemE.int (CmpR.gtI _ _)) (by rw [Bool.eq_iff_iff]; simp <;> omega)) (fun h1 => ?_) (fun h1 => ?_))) (SemK.nil)
    · have h1 := of_decide_eq_true h1
      rw [meetT, if_neg (by omega)] at hm
      split at hm
      · cases hm
      rename_i v hv
      rw [meetT] at hm; cases hm
      refine SemB.cons (SemS.ofKS (ρ' := rhoR woven names t (woven.count t) u) (ps' := []) (SemKS.for (SemI.list (SemE.imeth1 (SemE.var rfl) InstP.hdr (m_get w) (SemE.var rfl) (c_get w names t hlen a2 a3 (fun t ht => ⟨(hn.2 t ht).1, by have := (hn.2 t ht).2; omega⟩)) (by omega))) (addR_for (fun q d total hd hq1 hq2 => ?_) _ total u (fun q hq => all_128 (hn.2 q (List.mem_filter.mp hq).1).1) hv) (.inl rfl))) (SemB.weak SemB.nil (by unfold rhoR rhoT; exact sub_rho))
      refine SemK.cons (SemKS.ofS (SemS.assign (SemE.addI (SemE.var rfl) (SemE.ifexp (c := d.fmod 2 == 1) (p := .int (if (d.fmod 2 == 1) = true then -(woven.count t : Int) else (woven.count t : Int))) (SemT.cmp (SemE.modI (SemE.callg (g_lev w) (k_lev w) (SemA.cons (SemE.var rfl) (SemA.cons (SemE.var rfl) (SemA.cons SemE.int SemA.nil))) (c_lev w q t d hd hq2 a1 hq1 a3) (by omega)) SemE.int (by decide)) SemE.int (CmpR.eqI _ _)) (fun e => ?_) (fun e => ?_))) (.inl rfl))) (SemK.weak SemK.nil (by unfold rhoR; exact sub_rho))
      · rw [if_pos e]; exact SemE.neg (SemE.var rfl)
      · rw [if_neg (by rw [e]; decide)]; exact SemE.var rfl
    · have h1 := of_decide_eq_false h1
      rw [meetT, if_pos (by omega), meetT] at hm
      cases hm
      exact SemB.weak SemB.nil (by unfold rhoR rhoT; exact sub_rho)
  · obtain ⟨y, hy, rfl⟩ := List.mem_map.mp (dist_from ht)
    obtain ⟨b1, b2⟩ := hn.2 y hy
    refine ⟨all_128 (letters_lo b1), letters_lo b1, ?_⟩
    have hll : (loF y).length = y.length := by simp [loF]
    omega
end Mine
end

section
open PySem PySem.W PyProof.Rows
set_option autoImplicit false
set_option linter.all false
set_option maxRecDepth 100000
namespace Mine

theorem cLine_units {A : Around} {n : Nat} (h : Room A n) : A.units < cLine := by have := h.un; omega

theorem tup2_inv {h : Heap} {X : Addr → Prop} {v : Value} {a b : Int} (r : Rep h X v (.tup [.int a, .int b])) : ∃ l n t u, v = .ref l ∧ h.get? l = some { cls := .type "tuple", data := .seq #[.int a t, .int b u] n } := by
  cases r with
  | @tup l vs n _ h1 _ r =>
  cases r with
  | cons p r =>
  cases r with
  | cons q r =>
  cases r; cases p; cases q
  exact ⟨l, n, _, _, rfl, h1⟩
theorem CmpR.neT2 {w : World} {n : Nat} (a b : Int) : CmpR w n .NotEq (.tup [.int a, .int b]) (.tup [.int a, .int b]) false := by
  intro A X s Q E x y room rx ry k
  obtain ⟨l, n1, t1, u1, rfl, h1⟩ := tup2_inv rx
  obtain ⟨m, n2, t2, u2, rfl, h2⟩ := tup2_inv ry
  refine PySem.SeqAt.RcNeAt.tuples (e := fun _ => true) ⟨_, h1, rfl, n1, rfl⟩ ⟨_, h2, rfl, n2, rfl⟩ (cLine_units room) (fun j j1 j2 => ?_) pr w E Q (k s (.refl s))
  have h := fun (i : Int) t u => (MeetsSeq.EqGives.int i i t u).at A.in1 s
  have hi : ∀ (i : Int) t u, PySem.SeqAt.EqAt A.in1 s (.int i t) (.int i u) true := fun i t u => by
    have := h i t u
    rwa [beq_self_eq_true] at this
  match j, j1, j2 with
  | 0, _, _ => exact hi a _ _
  | 1, _, _ => exact hi b _ _

noncomputable def letF (x : Int) : Nat := 97 + (x.fmod 3).toNat
noncomputable def wordOf (script : List Int) : List Nat := (script.take 4 ++ [1, 1, 0].drop script.length).map letF
theorem letF_abc (x : Int) : abc (letF x) := by
  unfold abc letF
  have h1 := Int.fmod_nonneg_of_pos x (show (0 : Int) < 3 by decide)
  have h2 := Int.fmod_lt_of_pos x (show (0 : Int) < 3 by decide)
  omega
theorem wordOf_len (script : List Int) : (wordOf script).length = 3 ∨ (wordOf script).length = 4 := by
  unfold wordOf
  simp only [List.length_map, List.length_append, List.length_take, List.length_drop, List.length_cons, List.length_nil]
  omega
theorem wordOf_mem (script : List Int) : wordOf script ∈ words 3 ∨ wordOf script ∈ words 4 := by
  have h : ∀ c ∈ wordOf script, abc c := fun c hc => by
    obtain ⟨x, _, rfl⟩ := List.mem_map.mp hc
    exact letF_abc x
  exact (wordOf_len script).imp (fun e => (words_mem 3 _).mpr ⟨e, h⟩) (fun e => (words_mem 4 _).mpr ⟨e, h⟩)
end Mine
end

section
open PySem PySem.W PyProof.Rows
set_option autoImplicit false
set_option linter.all false
set_option maxRecDepth 100000
namespace Mine

noncomputable def tableB (names : List (List Nat)) : Bool := Nat.blt names.length 64 && names.all wordB
noncomputable def oneB (woven : List (List Nat)) (often : Nat) (x other : List Nat) : Bool := match brackF other with
  | none => false
  | some ts => match meetT woven ts (sortT (distT (ts.map loF))) 0 with
    | none => false
    | some r => tableB ts && (if (other == x) = true then r == (often : Int) else r == 0)
noncomputable def lawB (x : List Nat) : Bool := match weavF 8 x with
  | none => false
  | some (woven, often) => Nat.blt 0 often && Nat.blt often 1000 && Nat.ble woven.length 10000 && (ordF x.length x).all (oneB woven often x)

theorem law_3 : (words 3).all lawB = true := by decide +kernel
noncomputable def part (i : Nat) : List (List Nat) := ((words 4).drop (9 * i)).take 9
theorem law_4_0 : (part 0).all lawB = true := by decide +kernel
theorem law_4_1 : (part 1).all lawB = true := by decide +kernel
theorem law_4_2 : (part 2).all lawB = true := by decide +kernel
theorem law_4_3 : (part 3).all lawB = true := by decide +kernel
theorem law_4_4 : (part 4).all lawB = true := by decide +kernel
theorem law_4_5 : (part 5).all lawB = true := by decide +kernel
theorem law_4_6 : (part 6).all lawB = true := by decide +kernel
theorem law_4_7 : (part 7).all lawB = true := by decide +kernel
theorem law_4_8 : (part 8).all lawB = true := by decide +kernel
theorem all_split {α : Type} {p : α → Bool} {l : List α} (n : Nat) (h1 : (l.take n).all p = true) (h2 : (l.drop n).all p = true) : l.all p = true := by
  rw [← List.take_append_drop n l, List.all_append, h1, h2]; rfl
theorem law_4 : (words 4).all lawB = true := by
  have step : ∀ i, (part i).all lawB = true → ((words 4).drop (9 * (i + 1))).all lawB = true → ((words 4).drop (9 * i)).all lawB = true := fun i h1 h2 =>
    all_split 9 h1 (by rw [List.drop_drop]; exact h2)
  have h9 : ((words 4).drop (9 * 9)).all lawB = true := by decide +kernel
  exact step 0 law_4_0 (step 1 law_4_1 (step 2 law_4_2 (step 3 law_4_3 (step 4 law_4_4 (step 5 law_4_5 (step 6 law_4_6 (step 7 law_4_7 (step 8 law_4_8 h9))))))))
theorem law_all {x : List Nat} (h : x ∈ words 3 ∨ x ∈ words 4) : lawB x = true := by
  rcases h with h | h
  · exact List.all_eq_true.mp law_3 x h
  · exact List.all_eq_true.mp law_4 x h
end Mine
end

section
open PySem PySem.W PyProof.Rows
set_option autoImplicit false
set_option linter.all false
set_option maxRecDepth 100000
namespace Mine

noncomputable def joinB (x : List Nat) : Bool := Txt.join (S []) ((x.map fun c => [c]).map S) == S x && JoinOk (S []) ((x.map fun c => [c]).map S)
theorem join_3 : (words 3).all joinB = true := by decide +kernel
theorem join_4 : (words 4).all joinB = true := by decide +kernel
theorem join_all {x : List Nat} (h : x ∈ words 3 ∨ x ∈ words 4) : Txt.join (S []) ((x.map fun c => [c]).map S) = S x ∧ JoinOk (S []) ((x.map fun c => [c]).map S) = true := by
  have h1 : joinB x = true := by
    rcases h with h | h
    · exact List.all_eq_true.mp join_3 x h
    · exact List.all_eq_true.mp join_4 x h
  unfold joinB at h1
  rw [Bool.and_eq_true] at h1
  exact ⟨eq_of_beq h1.1, h1.2⟩

noncomputable def letG : P → List P
  | .int i => [pS [letF i]]
  | _ => []
theorem letG_flat (l : List Int) : (l.map pZ).flatMap letG = ((l.map letF).map fun c => [c]).map pS := by
  rw [List.flatMap_map, List.map_map, List.map_map, List.map_eq_flatMap]
  rfl

theorem abc_at (i : Int) : ([97, 98, 99] : List Nat)[(i.fmod 3).toNat]? = some (letF i) := by
  have h1 := Int.fmod_nonneg_of_pos i (show (0 : Int) < 3 by decide)
  have h2 := Int.fmod_lt_of_pos i (show (0 : Int) < 3 by decide)
  unfold letF
  generalize i.fmod 3 = k at *
  have : k = 0 ∨ k = 1 ∨ k = 2 := by omega
  rcases this with rfl | rfl | rfl <;> rfl

structure OneOk (woven : List (List Nat)) (often : Nat) (x other : List Nat) : Prop where
  ex : ∃ ts r, brackF other = some ts ∧ tableOk ts ∧ meetT woven ts (sortT (distT (ts.map loF))) 0 = some r ∧ r.natAbs < 2 ^ 30 ∧ (r.fdiv often, r.fmod often) = if (other == x) = true then ((1 : Int), (0 : Int)) else (0, 0)
theorem oneB_ok {woven : List (List Nat)} {often : Nat} {x other : List Nat} (h0 : 0 < often) (h1 : often < 1000) (h : oneB woven often x other = true) : OneOk woven often x other := by
  unfold oneB at h
  split at h
  · cases h
  rename_i ts hts
  split at h
  · cases h
  rename_i r hr
  rw [Bool.and_eq_true] at h
  obtain ⟨ht, hv⟩ := h
  unfold tableB at ht
  rw [Bool.and_eq_true] at ht
  refine ⟨ts, r, hts, ⟨by simpa using ht.1, fun t htm => wordB_iff (List.all_eq_true.mp ht.2 t htm)⟩, hr, ?_⟩
  split at hv <;> rename_i hc
  · have e : r = (often : Int) := eq_of_beq hv
    subst e
    exact ⟨by omega, by rw [Int.fdiv_self (by omega), Int.fmod_self, if_pos hc]⟩
  · have e : r = 0 := eq_of_beq hv
    subst e
    exact ⟨by decide, by rw [Int.zero_fdiv, Int.zero_fmod, if_neg hc]⟩

structure WordOk (m : Nat) (x : List Nat) : Prop where
  len : m ≤ 4
  mem : x ∈ words m
  ex : ∃ woven often, weavF 8 x = some (woven, often) ∧ 0 < often ∧ often < 1000 ∧ woven.length ≤ 10000 ∧ ∀ other ∈ ordF m x, OneOk woven often x other
theorem word_ok (script : List Int) : ∃ m, WordOk m (wordOf script) := by
  have hm := wordOf_mem script
  have hb := law_all hm
  have h1 : ∃ m, m ≤ 4 ∧ wordOf script ∈ words m := hm.elim (fun h => ⟨3, by decide, h⟩) (fun h => ⟨4, by decide, h⟩)
  obtain ⟨m, hm4, hmem⟩ := h1
  have hl := ((words_mem m _).mp hmem).1
  refine ⟨m, hm4, hmem, ?_⟩
  unfold lawB at hb
  split at hb
  · cases hb
  rename_i woven often hw
  simp only [Bool.and_eq_true] at hb
  obtain ⟨⟨⟨b1, b2⟩, b3⟩, b4⟩ := hb
  have b1 : 0 < often := by simpa using b1
  have b2 : often < 1000 := by simpa using b2
  rw [hl] at b4
  exact ⟨woven, often, hw, b1, b2, Nat.le_of_ble_eq_true b3, fun other ho => oneB_ok b1 b2 (List.all_eq_true.mp b4 other ho)⟩

theorem g_div (w : World) : nsIn (KK w) mainGlobals (Str.ofString "_div2n1n") = some (some (.ref 45)) := by kernel_rfl!
theorem k_div (w : World) : keepIn (KK w) (.ref 45) = true := by kernel_rfl!

theorem same_for {w : World} {n : Nat} {env : Env} {z : Str} {body : List Stmt} {ρ : Rho} : ∀ (os : List (List Nat)), (∀ o ∈ os, SemK w n env none ((z, pS o) :: ρ) [] body (.next ρ [])) → ForTo w n env none z body (os.map pS) ρ [] ρ []
  | [], _ => .nil
  | o :: os, h => .cons (h o (.head _)) (same_for os fun p hp => h p (.tail _ hp))
end Mine
end

section
open PySem PySem.W PyProof.Rows
set_option autoImplicit false
set_option linter.all false
set_option maxRecDepth 100000
namespace Mine

theorem ints_reps {h : Heap} {X : Addr → Prop} : ∀ {vs : List Value} {ns : List Int}, IntsAre vs ns → Reps h X vs (ns.map pZ)
  | _, _, .nil => .nil
  | _, _, .cons n t r => .cons (.int n t) (ints_reps r)

theorem rep_script {P : Params} {h : Heap} {X : Addr → Prop} {l : Addr} {vs : List Value} {ns : List Int} (w1 : Well P h (.ref l) (ofPy (.list (ns.map PyData.int)))) (hL : h.IsList l vs.toArray) (hI : IntsAre vs ns) (hX : ¬ X l) : Rep h X (.ref l) (.list (ns.map pZ)) := by
  obtain ⟨o, ho, hc, n, hdt⟩ := hL
  generalize hD : ofPy (.list (ns.map PyData.int)) = d at w1
  have hD : ∃ xs, d = .list xs := ⟨_, hD.symm⟩
  obtain ⟨xs, rfl⟩ := hD
  cases w1 with
  | @list _ us _ h1 h2 =>
    rw [h1] at ho
    cases ho
    have e : us.toArray = vs.toArray := by injection hdt
    have e : us = vs := by simpa using e
    subst e
    exact .list h1 hX (ints_reps hI)

theorem law_end {p : Program} {loose : List Str} {mean : ExcName → Option Value} {mg mb : Str → Option Value} {w : World} {s₁ s : Shared} {nm : Str} {scope : Scope} {L fa : Addr} {cd : Value} {body : List Stmt} {m : Str → Option Value} {l : Addr} {vs : List Value} {ns : List Int} {A : Around}
    {Q : Flow → Shared → Prop} {E : Value → Shared → Prop} (KX : (hd.heap_39 w.params).In s₁.heap) (T : Top p loose mean mg mb s₁.heap) (F : Fr s₁.heap L s.heap m) (hm : m (Str.ofString "script") = some (.ref l))
    (w1 : Well w.params s₁.heap (.ref l) (ofPy (.list (ns.map PyData.int)))) (hL : s₁.heap.IsList l vs.toArray) (hI : IntsAre vs ns) (hkind : scope.kind = .function) (hloc : (envOf nm scope L fa cd).kindOf (Str.ofString "script") = some .local) (hroom : Room A 49) (hlen : ¬ ((63 : Nat) : Int) < (ns.length : Int))
    (hb : ∀ script : List Int, script.length ≤ 63 → SemB w 49 (envOf nm scope L fa cd) [(Str.ofString "script", .list (script.map pZ))] body (.ret (.bool true)))
    (k : ∀ s', (∀ b o, s₁.heap.get? b = some o → s'.heap.get? b = some o) → s'.os = s.os → s'.gens = s.gens → Q (.ret (.bool true)) s') :
    wpAny (model pr w) A (execs body (envOf nm scope L fa cd)) Q E s := by
  have g₁ : G w s₁.heap := ⟨KX, ⟨mg, T.g⟩, ⟨mb, T.b, T.builtins⟩, T.nolimit⟩
  have hlo : 283 ≤ L := Nat.le_trans g₁.high F.above
  have hlt : ∀ b o, s₁.heap.get? b = some o → b ≠ L := fun b o e => Nat.ne_of_lt (Nat.lt_of_lt_of_le (Heap.lt_size e) F.above)
  have hlX : ¬ (fun b => b = L) l := fun q => by
    obtain ⟨o, ho, _⟩ := hL
    exact hlt l o ho q
  have r₁ := rep_script (X := fun b => b = L) w1 hL hI hlX
  have r : Rep s.heap (fun b => b = L) (.ref l) (.list (ns.map pZ)) := r₁.mono fun b o nx e => ⟨F.keep b o e, nx⟩
  have hlive : ∃ o, s.heap.get? L = some o := by
    obtain ⟨o, _, _, ho, _⟩ := F.ns
    exact ⟨o, ho⟩
  refine hb ns (by omega) A (fun b => b = L) s Q E ⟨hroom, g₁.keeps F.keep, ⟨hkind, rfl, rfl, ⟨m, F.ns⟩, rfl, (fun n c e => by cases e), List.Pairwise.nil, ⟨fun b q => q ▸ hlo, fun b q => q ▸ hlive⟩⟩, fun x q e => ?_⟩ fun v s' e rv => ?_
  · rw [List.lookup_cons] at e
    cases hx : x == Str.ofString "script" with
    | true =>
      rw [hx] at e
      cases e
      rw [beq_iff_eq.mp hx]
      exact .loc hloc F.ns hm r
    | false => rw [hx] at e; cases e
  · cases rv
    refine k s' (fun b o eb => e.keep b o (fun q => ?_) (F.keep b o eb)) e.same.os e.same.gens
    rcases q with q | ⟨n, q⟩
    · exact hlt b o eb q
    · cases q
end Mine
end

section
open PySem PySem.W PyProof.Rows
set_option Elab.async false
set_option maxRecDepth 100000
set_option maxHeartbeats 8000000
namespace Mine
theorem law_holds : PySem.Challenge.rw_to0066_01.Holds := Mine.hd (by
  w_strict k_go0
  refine law_end (by assumption) (by assumption) (by assumption) rfl (by assumption) (by assumption) (by assumption) rfl rfl (Room.deeper (A := callerA) (n := 49) ⟨rfl, by decide, by decide⟩) (by assumption) (fun script hlen => ?_) fun s' kp ho hg => ?_
  · obtain ⟨m, hm4, hmem, woven, often, hw, ho0, ho1, hwl, hall⟩ := word_ok script
    have hxl := ((words_mem m _).mp hmem).1
    have hj := join_all (wordOf_mem script)
    refine SemB.cons (SemS.assign (p := .str (wordOf script)) (SemE.meth (SemE.strc (x := Str.ofString "")) (SemA.cons (p := .list (((wordOf script).map fun c => [c]).map pS)) (SemE.conv (SemE.comp (ρc := []) (cl := []) (g := letG) (ps := (script.take 4 ++ [1, 1, 0].drop script.length).map pZ) (SemI.list (SemE.conv (SemE.addL (SemE.lslTo (SemE.var rfl) SemE.int (by decide) (by simp; omega)) (SemE.lslFrom (SemE.listD (ps := [1, 1, 0].map pZ) (SemA.cons SemE.int (SemA.cons SemE.int (SemA.cons SemE.int SemA.nil))) (by decide)) (SemE.lenL (SemE.var rfl) (by simp; omega)) (by omega) (by decide)) (by simp; omega)) ?_)) (fun _ => rfl) rfl (by decide) rfl (by decide) (fun n c e => by cases e) List.Pairwise.nil no_rho (fun C p hp => ?_) ?_) ?_) SemA.nil) PySem.F.plainAttrs_str PySem.F.slot_str_join PySem.F.type_str_join TypeP.str (SemC.join (n := 0) hj.1 hj.2) (by omega)) (.inl rfl)) ?_
    · rw [List.map_append, List.map_take, List.map_drop]
      simp
    · obtain ⟨i, hi, rfl⟩ := List.mem_map.mp hp
      refine SemItem.name rfl rfl (SemRest.leaf rfl (SemE.idxS (c := letF i) (SemE.strc (x := Str.ofString "abc")) (SemE.modI (SemE.var rfl) SemE.int (by decide)) (seqIndex_of ?_ ?_) ?_ ?_ ?_))
      · exact Int.fmod_nonneg_of_pos i (by decide)
      · exact Int.fmod_lt_of_pos i (by decide)
      · exact abc_at i
      · decide
      · have h1 := Int.fmod_nonneg_of_pos i (show (0 : Int) < 3 by decide)
        have h2 := Int.fmod_lt_of_pos i (show (0 : Int) < 3 by decide)
        omega
    · rw [letG_flat]
      simp; omega
    · rw [letG_flat]
      rfl
    generalize wordOf script = x at *
    refine SemB.cons (SemS.assign2 (SemE.callg (g_weavings _) (k_weavings _) (SemA.cons (SemE.var rfl) SemA.nil) (c_weavings _ 8 x woven often hw (by omega)) (by omega)) (.inl rfl) (.inl rfl)) ?_
    refine SemB.cons (SemS.ofKS (ps' := []) (SemKS.for (SemI.list (SemE.callg (g_orders _) (k_orders _) (SemA.cons (SemE.var rfl) SemA.nil) (c_orders _ m x hm4 hmem) (by omega))) (same_for _ fun o ho => ?_) (.inl rfl))) (SemB.consR (SemS.ret SemE.cbool))
    obtain ⟨ts, r, hts, htab, hr, hr30, hdm⟩ := (hall o ho).ex
    refine SemK.cons (SemKS.ofS (SemS.assign (SemE.callg (g_meetings _) (k_meetings _) (SemA.cons (SemE.var rfl) (SemA.cons (SemE.callg (g_brackets _) (k_brackets _) (SemA.cons (SemE.var rfl) SemA.nil) (c_brackets _ o ts hts) (by omega)) SemA.nil)) (c_meetings _ woven ts r htab hr hwl) (by omega)) (.inl rfl))) ?_
    refine SemK.cons (SemKS.ofS (SemS.assign (p := .tup [.int (r.fdiv often), .int (r.fmod often)]) (SemE.ifexp (c := (o == x)) (SemT.cmp (SemE.var rfl) (SemE.var rfl) (CmpR.eqS _ _)) (fun e => ?_) (fun e => ?_)) (.inl rfl))) ?_
    · rw [if_pos e] at hdm
      injection hdm with d1 d2
      rw [d1, d2]
      exact SemE.tupD (SemA.cons SemE.int (SemA.cons SemE.int SemA.nil)) (by decide)
    · rw [if_neg (by rw [e]; decide)] at hdm
      injection hdm with d1 d2
      rw [d1, d2]
      exact SemE.tupD (SemA.cons SemE.int (SemA.cons SemE.int SemA.nil)) (by decide)
    refine SemK.cons (SemKS.ofS (SemS.ite (b := false) (o := .next _) (SemT.cmp (SemE.callg (g_div _) (k_div _) (SemA.cons (SemE.var rfl) (SemA.cons (SemE.var rfl) (SemA.cons (SemE.meth0 (SemE.var rfl) PySem.F.plainAttrs_int PySem.F.slot_int_bit_length PySem.F.type_int_bit_length TypeP.int (SemC.bits (n := 0)) (by omega)) SemA.nil))) (c_div _ r often _ hr30 (by omega) (by omega) (by omega)) (by omega)) (SemE.var rfl) (CmpR.neT2 _ _)) (fun h => by cases h) (fun _ => SemB.nil))) (SemK.weak SemK.nil ?_)
    exact sub_rho
  · refine ⟨.inl ⟨.bool true, .bool true, [], rfl, fun _ => rfl, .bool true, ?_, fun _ => ⟨.nil, fun a h => by cases h⟩⟩, kp, ho, hg.trans (by assumption)⟩
    exact postW_of (by wrow_shape) (by wtm_val) (by first | rfl | w_fin))
end Mine
end

theorem PySem.Challenge.cw_to0066_01_holds : PySem.Challenge.rw_to0066_01.Holds :=
  Mine.law_holds
