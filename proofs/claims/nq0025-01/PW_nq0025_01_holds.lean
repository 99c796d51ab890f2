import PyProof.Rows.All
import Wide.All
import OpenK.AllK
import Wide.FinOn
import PySem.Challenge.RW_nq0025_01
open PySem PySem.W PyProof.Rows
set_option Elab.async false
set_option maxRecDepth 100000
set_option maxHeartbeats 8000000
namespace Mine

/-- what is said of one object -/
inductive Pr where
  | ns (m : Str → Option Value)
  | list (vs : List Value)
  | ints (xs : List Int)
  | iter (l : Addr) (i : Nat)
  | cell (v : Option Value)
  | raw (P : Obj → Prop)

def Pr.on : Pr → Obj → Prop
  | .ns m, o => ∃ es ep, o.data = .dict es ep ∧ StrKeys es ∧ ∀ name, nsFind es name = m name
  | .list vs, o => ∃ n, o = { cls := .type "list", data := .seq vs.toArray n }
  | .ints xs, o => ∃ vs n, IntsAre vs xs ∧ o = { cls := .type "list", data := .seq vs.toArray n }
  | .iter l i, o => o.cls = .type "list_iterator" ∧ o.data = .fields #[.ref l, .int i 0]
  | .cell v, o => o.data = .cell v
  | .raw P, o => P o

def Has (h : Heap) (a : Addr) (p : Pr) : Prop := ∃ o, h.get? a = some o ∧ p.on o

theorem Has.lt {h : Heap} {a p} (x : Has h a p) : a < h.objs.size := let ⟨_, e, _⟩ := x; Heap.lt_size e
theorem Has.at {h h' : Heap} {a p} (x : Has h a p) (k : ∀ o, h.get? a = some o → h'.get? a = some o) : Has h' a p := let ⟨o, e, r⟩ := x; ⟨o, k o e, r⟩

theorem Has.ns {h : Heap} {a m} (x : Has h a (.ns m)) : h.Ns a m := let ⟨o, e, es, ep, r⟩ := x; ⟨o, es, ep, e, r⟩
theorem Has.of_ns {h : Heap} {a m} (x : h.Ns a m) : Has h a (.ns m) := let ⟨o, es, ep, e, r⟩ := x; ⟨o, e, es, ep, r⟩
theorem Has.plain {h : Heap} {a vs} (x : Has h a (.list vs)) : h.PlainList a vs.toArray := let ⟨_, e, n, r⟩ := x; ⟨n, r ▸ e⟩
theorem Has.of_plain {h : Heap} {a vs} (x : h.PlainList a vs) : Has h a (.list vs.toList) := let ⟨n, e⟩ := x; ⟨_, e, n, by simp⟩
theorem Has.isList {h : Heap} {a vs} (x : Has h a (.list vs)) : h.IsList a vs.toArray := x.plain.isList
theorem Has.ints {h : Heap} {a xs} (x : Has h a (.ints xs)) : ∃ vs, IntsAre vs xs ∧ Has h a (.list vs) := let ⟨o, e, vs, n, i, r⟩ := x; ⟨vs, i, o, e, n, r⟩
theorem Has.of_ints {h : Heap} {a vs xs} (x : Has h a (.list vs)) (i : IntsAre vs xs) : Has h a (.ints xs) := let ⟨o, e, n, r⟩ := x; ⟨o, e, vs, n, i, r⟩
theorem Has.isIter {h : Heap} {a l i} (x : Has h a (.iter l i)) : h.IsListIter a l i := let ⟨o, e, r⟩ := x; ⟨o, e, r⟩
theorem Has.of_iter {h : Heap} {a l i} (x : h.IsListIter a l i) : Has h a (.iter l i) := let ⟨o, e, r⟩ := x; ⟨o, e, r⟩
theorem Has.isCell {h : Heap} {a v} (x : Has h a (.cell v)) : h.IsCell a v := let ⟨o, e, r⟩ := x; ⟨o, e, r⟩
theorem Has.of_cell {h : Heap} {a v} (x : h.IsCell a v) : Has h a (.cell v) := let ⟨o, e, r⟩ := x; ⟨o, e, r⟩

/-- s' is s grown; outside X all is as it was -/
structure Kp (X : Addr → Prop) (s s' : Shared) : Prop where
  get : ∀ b o, ¬ X b → s.heap.get? b = some o → s'.heap.get? b = some o
  os : s'.os = s.os
  bare : AllBare s.gens → AllBare s'.gens

def No : Addr → Prop := fun _ => False

theorem Kp.refl (X s) : Kp X s s := ⟨fun _ _ _ e => e, rfl, id⟩
theorem Kp.trans {X s s₁ s₂} (a : Kp X s s₁) (b : Kp X s₁ s₂) : Kp X s s₂ :=
  ⟨fun c o n e => b.get c o n (a.get c o n e), b.os.trans a.os, fun x => b.bare (a.bare x)⟩
theorem Kp.mono {X Y : Addr → Prop} {s s'} (a : Kp X s s') (h : ∀ b, X b → Y b) : Kp Y s s' := ⟨fun c o n e => a.get c o (fun x => n (h c x)) e, a.os, a.bare⟩
/-- changes to what was not there count for nothing -/
theorem Kp.trans' {X Y : Addr → Prop} {s s₁ s₂} (a : Kp X s s₁) (b : Kp Y s₁ s₂) (h : ∀ c, Y c → X c ∨ s.heap.get? c = none) : Kp X s s₂ :=
  ⟨fun c o n e => b.get c o (fun y => (h c y).elim n fun q => by rw [q] at e; cases e) (a.get c o n e), b.os.trans a.os, fun x => b.bare (a.bare x)⟩
theorem Kp.none {X s s'} {a : Addr} (k : Kp X s s') (h : s'.heap.get? a = none) : X a ∨ s.heap.get? a = none := by
  cases e : s.heap.get? a with
  | none => exact .inr rfl
  | some o => exact .inl (Classical.byContradiction fun n => by rw [k.get a o n e] at h; cases h)
theorem Kp.tok {X s s'} (a : Kp X s s') (t : Nat) : Kp X s { s' with toks := t } := ⟨a.get, a.os, a.bare⟩
theorem Kp.push (X) (s : Shared) (o : Obj) (t : Nat) : Kp X s { s with heap := s.heap.push o, toks := t } :=
  ⟨fun _ _ _ e => Heap.get?_push_of_some o e, rfl, id⟩
theorem Kp.same {a : Addr} {s : Shared} {h' : Heap} (x : Heap.SameBut a s.heap h') (t : Nat) : Kp (· = a) s { s with heap := h', toks := t } :=
  ⟨fun b _ n e => (x.2 b n).trans e, rfl, id⟩
theorem Kp.ext {a : Addr} {s : Shared} {h' : Heap} (x : Heap.ExtBut a s.heap h') (t : Nat) : Kp (· = a) s { s with heap := h', toks := t } :=
  ⟨fun b _ n e => x b _ n e, rfl, id⟩
theorem Kp.all {s : Shared} {h' : Heap} (x : ∀ b o, s.heap.get? b = some o → h'.get? b = some o) (t : Nat) : Kp No s { s with heap := h', toks := t } :=
  ⟨fun b _ _ e => x b _ e, rfl, id⟩
theorem fresh_at (h : Heap) : h.get? h.objs.size = none := by
  cases e : h.get? h.objs.size with
  | none => rfl
  | some o => exact absurd (Heap.lt_size e) (Nat.lt_irrefl _)
theorem fresh_ge (h : Heap) {a : Addr} (ha : h.objs.size ≤ a) : h.get? a = none := by
  cases e : h.get? a with
  | none => rfl
  | some o => exact absurd (Heap.lt_size e) (Nat.not_lt.mpr ha)

theorem Has.kp {X s s' a p} (x : Has s.heap a p) (k : Kp X s s') (n : ¬ X a) : Has s'.heap a p := x.at fun o e => k.get a o n e

/-- the objects of one's own, and all else as it was -/
structure Own (X : Addr → Prop) (s₀ s : Shared) (os : List (Addr × Pr)) : Prop where
  kp : Kp X s₀ s
  nd : (os.map (·.1)).Nodup
  new : ∀ p ∈ os, X p.1 ∨ s₀.heap.get? p.1 = none
  has : ∀ p ∈ os, Has s.heap p.1 p.2

theorem Own.refl (X s) : Own X s s [] := ⟨.refl X s, .nil, (fun _ h => nomatch h), (fun _ h => nomatch h)⟩
theorem Own.sub {X s₀ s os os'} (O : Own X s₀ s os) (h : os'.Sublist os) : Own X s₀ s os' :=
  ⟨O.kp, O.nd.sublist (h.map _), fun p hp => O.new p (h.subset hp), fun p hp => O.has p (h.subset hp)⟩
theorem Own.perm {X s₀ s os os'} (O : Own X s₀ s os) (h : os'.Perm os) : Own X s₀ s os' :=
  ⟨O.kp, (List.Perm.nodup_iff (h.map _)).mpr O.nd, fun p hp => O.new p (h.subset hp), fun p hp => O.has p (h.subset hp)⟩
theorem Own.nth {X s₀ s os} (O : Own X s₀ s os) (n : Nat) {a p} (h : os[n]? = some (a, p)) : Has s.heap a p := O.has (a, p) (List.mem_of_getElem? h)
theorem Own.tok {X s₀ s os} (O : Own X s₀ s os) (t : Nat) : Own X s₀ { s with toks := t } os := ⟨O.kp.tok t, O.nd, O.new, O.has⟩
theorem Own.old {X s₀ s os a p} (O : Own X s₀ s os) (h : Has s₀.heap a p) (n : ¬ X a) : Has s.heap a p := h.kp O.kp n

theorem Own.sel {X s₀ s pre tl} (O : Own X s₀ s (pre ++ tl)) (idx : List Nat) (hidx : idx.Nodup) : Own X s₀ s (idx.filterMap (pre[·]?) ++ tl) := by
  have sub : ∀ p ∈ idx.filterMap (pre[·]?), p ∈ pre := fun p hp => by
    obtain ⟨i, _, h⟩ := List.mem_filterMap.mp hp
    exact List.mem_of_getElem? h
  have sub' : ∀ p ∈ idx.filterMap (pre[·]?) ++ tl, p ∈ pre ++ tl := fun p hp => by
    rcases List.mem_append.mp hp with h | h
    · exact List.mem_append_left _ (sub p h)
    · exact List.mem_append_right _ h
  refine ⟨O.kp, ?_, fun p hp => O.new p (sub' p hp), fun p hp => O.has p (sub' p hp)⟩
  have nd := O.nd
  rw [List.map_append, List.nodup_append] at nd ⊢
  refine ⟨?_, nd.2.1, fun a ha b hb => nd.2.2 a ?_ b hb⟩
  · clear sub sub'
    induction idx with
    | nil => exact .nil
    | cons i idx ih =>
      obtain ⟨h1, h2⟩ := List.nodup_cons.mp hidx
      rw [List.filterMap_cons]
      cases hp : pre[i]? with
      | none => exact ih h2
      | some p =>
        show ((p :: idx.filterMap (pre[·]?)).map (·.1)).Nodup
        rw [List.map_cons]
        refine List.nodup_cons.mpr ⟨fun hm => ?_, ih h2⟩
        obtain ⟨q, hq, e⟩ := List.mem_map.mp hm
        obtain ⟨j, hj, hjq⟩ := List.mem_filterMap.mp hq
        obtain ⟨hi1, hi2⟩ := List.getElem?_eq_some_iff.mp hp
        obtain ⟨hj1, hj2⟩ := List.getElem?_eq_some_iff.mp hjq
        have := (List.getElem_inj (i := i) (j := j) (h₀ := by simpa using hi1) (h₁ := by simpa using hj1) nd.1).mp (by simp [hi2, hj2, e])
        exact h1 (this ▸ hj)
  · obtain ⟨p, hp, rfl⟩ := List.mem_map.mp ha
    exact List.mem_map.mpr ⟨p, sub p hp, rfl⟩
theorem Own.pick {X s₀ s os} (O : Own X s₀ s os) (k : Nat) (idx : List Nat) (hidx : idx.Nodup := by decide) : Own X s₀ s (idx.filterMap ((os.take k)[·]?) ++ os.drop k) :=
  Own.sel (by rw [List.take_append_drop]; exact O) idx hidx

/-- a state beyond: changes outside one's own -/
theorem Own.on {X Y : Addr → Prop} {s₀ s s' os os'} (O : Own X s₀ s os) (P : Own Y s s' os') (hy : ∀ b, Y b → X b ∨ s₀.heap.get? b = none) (hd : ∀ p ∈ os, ¬ Y p.1) : Own X s₀ s' (os' ++ os) where
  kp := O.kp.trans' P.kp hy
  nd := by
    rw [List.map_append, List.nodup_append]
    refine ⟨P.nd, O.nd, fun a ha b hb e => ?_⟩
    obtain ⟨p, hp, rfl⟩ := List.mem_map.mp ha
    obtain ⟨q, hq, rfl⟩ := List.mem_map.mp hb
    rcases P.new p hp with h | h
    · exact hd q hq (e ▸ h)
    · obtain ⟨o, ho, _⟩ := O.has q hq
      rw [← e, h] at ho; cases ho
  new := fun p hp => by
    rcases List.mem_append.mp hp with h | h
    · rcases P.new p h with x | x
      · exact hy _ x
      · exact O.kp.none x
    · exact O.new p h
  has := fun p hp => by
    rcases List.mem_append.mp hp with h | h
    · exact P.has p h
    · exact (O.has p h).kp P.kp (hd p h)

theorem Own.on' {X : Addr → Prop} {s₀ s s' os os'} (O : Own X s₀ s os) (P : Own No s s' os') : Own X s₀ s' (os' ++ os) := O.on P (fun _ h => h.elim) fun _ _ h => h
theorem Own.keep {X : Addr → Prop} {s₀ s s' os} (O : Own X s₀ s os) (k : Kp No s s') : Own X s₀ s' os :=
  O.on' (os' := []) ⟨k, .nil, (fun _ h => nomatch h), (fun _ h => nomatch h)⟩

theorem Own.push {X s₀ s os} (O : Own X s₀ s os) (o : Obj) (p : Pr) (hp : p.on o) (t : Nat) (hf : o.isFreed = false := by rfl) : Own X s₀ { s with heap := s.heap.push o, toks := t } ((s.heap.objs.size, p) :: os) :=
  O.on' (os' := [(s.heap.objs.size, p)]) ⟨Kp.push No s o t, by simp, fun q hq => by
    rcases List.mem_singleton.mp hq with rfl; exact .inr (fresh_at _), fun q hq => by
    rcases List.mem_singleton.mp hq with rfl; exact ⟨o, Heap.get?_push_size _ hf, hp⟩⟩
theorem Own.push_ {X s₀ s os} (O : Own X s₀ s os) (o : Obj) (t : Nat) : Own X s₀ { s with heap := s.heap.push o, toks := t } os := O.keep (Kp.push No s o t)

theorem map_set_fst (os : List (Addr × Pr)) (n : Nat) (a : Addr) (p p' : Pr) (h : os[n]? = some (a, p)) : (os.set n (a, p')).map (·.1) = os.map (·.1) := by
  rw [List.map_set]
  apply List.ext_getElem?
  intro i
  rw [List.getElem?_set]
  split
  · rename_i e; subst e
    obtain ⟨h1, h2⟩ := List.getElem?_eq_some_iff.mp h
    simp [h1, h2]
  · rfl
theorem Own.upd {X s₀ s os} (O : Own X s₀ s os) (n : Nat) {a : Addr} {p p' : Pr} (hn : os[n]? = some (a, p)) {s' : Shared} (k : Kp (· = a) s s') (hp : Has s'.heap a p') : Own X s₀ s' (os.set n (a, p')) where
  kp := O.kp.trans' k fun c e => e ▸ O.new (a, p) (List.mem_of_getElem? hn)
  nd := by rw [map_set_fst os n a p p' hn]; exact O.nd
  new := fun q hq => by
    have : q.1 ∈ (os.set n (a, p')).map (·.1) := List.mem_map.mpr ⟨q, hq, rfl⟩
    rw [map_set_fst os n a p p' hn] at this
    obtain ⟨r, hr, e⟩ := List.mem_map.mp this
    rw [← e]; exact O.new r hr
  has := fun q hq => by
    obtain ⟨i, hi, rfl⟩ := List.mem_iff_getElem.mp hq
    rw [List.getElem_set]
    split
    · exact hp
    · rename_i hne
      have hi' : i < os.length := by simpa using hi
      refine (O.has _ (List.getElem_mem hi')).kp k fun e => hne ?_
      have hn' := List.getElem?_eq_some_iff.mp hn
      have := (List.getElem_inj (i := n) (j := i) (h₀ := by simpa using hn'.1) (h₁ := by simpa using hi') O.nd).mp (by simp [hn'.2, e])
      exact this
end Mine

namespace Mine

structure Df where
  name : Str
  params : Arguments
  body : List Stmt
  scope : Scope
/-- the def that is the n-th statement of the text -/
def defAt (n : Nat) : Df := match PySem.Challenge.pw_nq0025_01.main.body[n]? with
  | some (.FunctionDef name args body _ _ _ scope _ _ _) => ⟨name, args, body, scope⟩
  | _ => ⟨Str.empty, ⟨[], [], none, [], [], none, []⟩, [], ⟨.function, [], false, false, []⟩⟩
def defFd (n : Nat) (pm cd doc : Value) : FuncData := Calls.docDef (defAt n).name (defAt n).params (defAt n).body (defAt n).scope pm cd doc

def Sub (g h : Heap) : Prop := ∀ b o, g.get? b = some o → h.get? b = some o

def FnAt (mg : Str → Option Value) (g : Heap) (n : Nat) (a : Addr) : Prop :=
  mg (defAt n).name = some (.ref a) ∧ ∃ o pm cd doc, g.get? a = some o ∧ o.data = .func (defFd n pm cd doc) ∧ g.CodeRec cd (defAt n).name

/-- what the top has laid -/
structure GF (mg mb : Str → Option Value) (gh : Heap) : Prop where
  g : gh.Ns mainGlobals mg
  b : gh.Ns builtinsNs mb
  lim : gh.NoLimit
  bi : ∀ x : Str, x ≠ "__name__" → mb x = bootBuiltins x
  fn : ∀ n ∈ [1, 4, 6, 7, 8, 9, 10], ∃ a, FnAt mg gh n a
  no : ∀ x ∈ (["divmod", "range", "len", "min", "list", "str", "isinstance", "slice", "RuntimeError"] : List Str), mg x = none

theorem Sub.kp {X : Addr → Prop} {g : Heap} {s s' : Shared} (h : Sub g s.heap) (k : Kp X s s') (hX : ∀ b, X b → g.get? b = none) : Sub g s'.heap :=
  fun b o e => k.get b o (fun x => by rw [hX b x] at e; cases e) (h b o e)

def up (m : Str → Option Value) (x : Str) (v : Value) : Str → Option Value := fun y => if y = x then some v else m y
theorem up_self (m x v) : up m x v x = some v := by simp [up]
theorem up_ne (m) {x y : Str} (v) (h : y ≠ x) : up m x v y = m y := by simp [up, h]

structure EnvG (env : Env) : Prop where
  kind : env.scope.kind = .function
  globals : env.globals = mainGlobals
  builtins : env.builtins = builtinsNs

theorem EnvG.inter {env : Env} (h : EnvG env) : interactive env = false := by unfold interactive; rw [h.kind]; rfl

theorem kind_of {env : Env} {sc : Scope} {x : Str} {k : Option NameKind} (hs : env.scope = sc) (h : sc.names.lookup x = k) : env.kindOf x = k := by
  unfold Env.kindOf; rw [hs]; exact h

section
variable {M : Model} {A : Around} {E : Value → Shared → Prop} {s : Shared} {env : Env}

theorem nameL {x : Str} {pos : Pos} {v : Value} {m : Str → Option Value} {Q : Value → Shared → Prop} (hN : Has s.heap env.locals (.ns m)) (hE : EnvG env) (hl : env.kindOf x = some .local) (hv : m x = some v) (h : Q v s)
    (hd : (x == ("__debug__" : Str)) = false := by rfl) : wpAny M A (eval (.Name x pos) env) Q E s := wpAny_Name (wpAny_loadName_local hE.kind hl hN.ns hv h) hd
theorem nameC {x : Str} {pos : Pos} {v : Value} {c : Addr} {Q : Value → Shared → Prop} (hE : EnvG env) (hl : env.kindOf x = some .cell) (hc : env.cells.lookup x = some c) (hv : Has s.heap c (.cell (some v))) (h : Q v s)
    (hd : (x == ("__debug__" : Str)) = false := by rfl) : wpAny M A (eval (.Name x pos) env) Q E s := wpAny_Name (wpAny_loadName_cell hE.kind hl hc hv.isCell h) hd
theorem nameF {x : Str} {pos : Pos} {v : Value} {c : Addr} {Q : Value → Shared → Prop} (hE : EnvG env) (hl : env.kindOf x = some .free) (hc : env.cells.lookup x = some c) (hv : Has s.heap c (.cell (some v))) (h : Q v s)
    (hd : (x == ("__debug__" : Str)) = false := by rfl) (hn : (x == ("__classdict__" : Str)) = false := by rfl) : wpAny M A (eval (.Name x pos) env) Q E s :=
  wpAny_Name (wpAny_loadName_free hE.kind hl hc hv.isCell h hn) hd
theorem nameG {x : Str} {pos : Pos} {v : Value} {mg mb : Str → Option Value} {g : Heap} {Q : Value → Shared → Prop} (G : GF mg mb g) (hg : Sub g s.heap) (hE : EnvG env) (hl : env.kindOf x = some .globalImplicit) (hv : mg x = some v) (h : Q v s)
    (hd : (x == ("__debug__" : Str)) = false := by rfl) : wpAny M A (eval (.Name x pos) env) Q E s :=
  Calls.Name_function_global hE.kind hl (Calls.loadGlobal_global (by rw [hE.globals]; exact G.g.keeps hg) hv h) hd
theorem nameB {x : Str} {pos : Pos} {v : Value} {mg mb : Str → Option Value} {g : Heap} {Q : Value → Shared → Prop} (G : GF mg mb g) (hg : Sub g s.heap) (hE : EnvG env) (hl : env.kindOf x = some .globalImplicit)
    (hno : mg x = none) (hv : mb x = some v) (h : Q v s)
    (hd : (x == ("__debug__" : Str)) = false := by rfl) : wpAny M A (eval (.Name x pos) env) Q E s :=
  Calls.Name_function_global hE.kind hl (Calls.loadGlobal_builtin (by rw [hE.globals]; exact G.g.keeps hg) hno (by rw [hE.builtins]; exact G.b.keeps hg) hv h) hd

theorem stL {X : Addr → Prop} {s₀ : Shared} {os : List (Addr × Pr)} {m : Str → Option Value} {x : Str} {v : Value} {Q : Unit → Shared → Prop} (O : Own X s₀ s os) (n : Nat) (h0 : os[n]? = some (env.locals, .ns m)) (hE : EnvG env)
    (hl : env.kindOf x = some .local) (h : ∀ s', Own X s₀ s' (os.set n (env.locals, .ns (up m x v))) → Kp (· = env.locals) s s' → s'.gens = s.gens → Q () s') : wpAny M A (storeName env x v) Q E s :=
  wpAny_storeName_local hl (O.nth n h0).ns (fun h' hn hs => h _ (O.upd n h0 (Kp.same hs _) (Has.of_ns hn)) (Kp.same hs _) rfl)
    (by rw [hE.kind]; rfl)
theorem stC {X : Addr → Prop} {s₀ : Shared} {os : List (Addr × Pr)} {v₀ : Option Value} {c : Addr} {x : Str} {v : Value} {Q : Unit → Shared → Prop} (O : Own X s₀ s os) (n : Nat) (h0 : os[n]? = some (c, .cell v₀)) (hE : EnvG env)
    (hl : env.kindOf x = some .cell) (hc : env.cells.lookup x = some c) (h : ∀ s', Own X s₀ s' (os.set n (c, .cell (some v))) → Kp (· = c) s s' → s'.gens = s.gens → Q () s') : wpAny M A (storeName env x v) Q E s :=
  wpAny_storeName_cell hE.kind hl hc (O.nth n h0).isCell (fun _ hn hs => h _ (O.upd n h0 (Kp.same (t := s.toks) hs) (Has.of_cell hn)) (Kp.same (t := s.toks) hs) rfl)

theorem sub_ {value slice : PySem.Expr} {pos : Pos} {T id : String} {prog : Program} {w : World} {Q : Value → Shared → Prop}
    (h : wpAny (model prog w) A (eval value env) (fun o s₁ => wpAny (model prog w) A (eval slice env) (fun i s₂ => s₂.TypeIs o T ∧ wpAny (model prog w) A (getItem o i) Q E s₂) E s₁) E s)
    (hl : typeLookup (.type T) "__getitem__" = pure (some (.builtin id)))
    (hs : ∀ o i, subscripted slice false o i = operate [o, i] (getItem o i) := by intros; rfl) :
    wpAny (model prog w) A (eval (.Subscript value slice pos) env) Q E s := by
  rw [eval_Subscript]
  refine wpAny_bind (wpAny_mono h (fun o s₁ h₁ => wpAny_bind (wpAny_holding (wpAny_mono h₁ (fun i s₂ h₂ => wpAny_bind (wpAny_standAt ?_)) fun _ _ x => x))) fun _ _ x => x)
  refine wpAny_bind ?_
  rw [getitemInPython_of_ne h₂.1.not_modules]
  refine wpAny_bind (wpAny_specialOf h₂.1 hl ?_)
  refine wpAny_pure ?_
  rw [hs]
  exact wpAny_bind (wpAny_operating (wpAny_mono h₂.2 (fun r s₃ h₃ => wpAny_bind (wpAny_letTemporaryGo (wpAny_pure h₃))) fun _ _ x => x))
end

section
variable {prog : Program} {w : World} {A : Around} {E : Value → Shared → Prop} {s : Shared} {env : Env}

theorem apd {X : Addr → Prop} {s₀ : Shared} {os : List (Addr × Pr)} {a : Addr} {vs : List Value} {v : Value} {Q : Value → Shared → Prop} (O : Own X s₀ s os) (n : Nat) (h0 : os[n]? = some (a, .list vs)) (hsz : vs.length ≤ sizeLine)
    (h : ∀ s', Own X s₀ s' (os.set n (a, .list (vs ++ [v]))) → Kp (· = a) s s' → s'.gens = s.gens → Q .none s') :
    wpAny (model prog w) A (call (.builtin "list.append") [.ref a, v]) Q E s := by
  have hl := (O.nth n h0).isList
  obtain ⟨ne, ho⟩ := (O.nth n h0).plain
  refine wpAny_call_entry slot_list_append hl.typeIs entry_list_append ?_ (args_list_append _ _)
  show wpAny _ _ (updateSeq a (·.push v) >>= fun _ => ret .none) _ _ s
  refine wpAny_bind ?_
  refine wpAny_updateSeq (o := { cls := .type "list", data := .seq vs.toArray ne }) ho rfl ?_ (by simpa using hsz) (by simpa using hsz)
  refine wpAny_pure ⟨.none, rfl, ?_⟩
  have k : Kp (· = a) s { s with heap := s.heap.update a (Obj.mapSeq (·.push v)) } := Kp.same (t := s.toks) (Heap.SameBut.update ..)
  refine h _ (O.upd n h0 k ⟨_, Heap.get?_update_self _ ho rfl, (if (vs.toArray.push v).size == vs.toArray.size then ne else ne + 1), ?_⟩) k rfl
  simp [Obj.mapSeq]

/-- rows.append(e) as a statement's value -/
theorem m_append {o : PySem.Expr} {e : PySem.Expr} {apos pos : Pos} {Q : Value → Shared → Prop} (hbase : attributeBase o "append" env (eval o env) = eval o env) (hline : (apos.endLine == pos.line) = true)
    (h : wpAny (model prog w) A (eval o env) (fun ov s₁ => ∃ a vs, ov = .ref a ∧ Has s₁.heap a (.list vs) ∧ wpAny (model prog w) A (eval e env) (fun v s₂ => wpAny (model prog w) A (call (.builtin "list.append") [.ref a, v]) Q E s₂) E s₁) E s)
    (hs : backTo pos (starEach [e] env) = [(false, eval e env)] := by rfl) :
    wpAny (model prog w) A (eval (.Call (.Attribute o "append" apos) [e] [] pos) env) Q E s := by
  refine wpAny_Call_method (T := "list") (id := "list.append") hbase (by rw [hs]; rfl) hline F.plainAttrs_list slot_list_append type_list_append (wpAny_mono h (fun ov s₁ h₁ => ?_) fun _ _ x => x)
  obtain ⟨a, vs, rfl, hl, h₂⟩ := h₁
  refine ⟨hl.isList.typeIs, fun b hb => by cases hb; obtain ⟨n, e⟩ := hl.plain; exact ⟨_, e, rfl⟩, ?_⟩
  rw [hs]
  refine Calls.callWith_builtin rfl (Calls.evalArgs_plain (Calls.spliced_cons (wpAny_mono h₂ (fun v s₂ h₃ => Calls.spliced_nil h₃) fun _ _ x => x)))

/-- one turn of an iterator over a list -/
theorem nxt {X : Addr → Prop} {s₀ : Shared} {os : List (Addr × Pr)} {it l : Addr} {i : Nat} {vs : List Value} {v : Value} {Q : Option Value → Shared → Prop} (O : Own X s₀ s os) (n : Nat) (h0 : os[n]? = some (it, .iter l i))
    (hl : Has s.heap l (.list vs)) (hx : vs[i]? = some v) (h : ∀ s', Own X s₀ s' (os.set n (it, .iter l (i + 1))) → Kp (· = it) s s' → s'.gens = s.gens → Q (some v) s') :
    wpAny (model prog w) A (pyNext (.ref it)) Q E s :=
  wpAny_pyNext_list_item (O.nth n h0).isIter hl.isList (by simpa using hx) fun _ hi hs =>
    h _ (O.upd n h0 (Kp.same (t := s.toks) hs) (Has.of_iter hi)) (Kp.same (t := s.toks) hs) rfl
theorem own_but {X : Addr → Prop} {s₀ s' : Shared} {os : List (Addr × Pr)} {it : Addr} {p : Pr} (O : Own X s₀ s ((it, p) :: os)) (k : Kp (· = it) s s') : Own X s₀ s' os where
  kp := O.kp.trans' k fun _ e => e ▸ O.new (it, p) (List.mem_cons_self ..)
  nd := (List.nodup_cons.mp O.nd).2
  new := fun q hq => O.new q (List.mem_cons_of_mem _ hq)
  has := fun q hq => (O.has q (List.mem_cons_of_mem _ hq)).kp k fun e => (List.nodup_cons.mp O.nd).1 (List.mem_map.mpr ⟨q, hq, e⟩)
theorem nxt_end {X : Addr → Prop} {s₀ : Shared} {os : List (Addr × Pr)} {it l : Addr} {i : Nat} {vs : List Value} {Q : Option Value → Shared → Prop} (hh : A.handled = none) (O : Own X s₀ s ((it, .iter l i) :: os))
    (hl : Has s.heap l (.list vs)) (hx : vs[i]? = none) (h : ∀ s', Own X s₀ s' os → Kp (· = it) s s' → s'.gens = s.gens → Q none s') :
    wpAny (model prog w) A (pyNext (.ref it)) Q E s :=
  wpAny_pyNext_list_end hh (O.nth 0 rfl).isIter hl.isList (by simpa using hx) fun _ hs =>
    h _ (own_but O (Kp.ext (t := s.toks) hs)) (Kp.ext (t := s.toks) hs) rfl

/-- for x in l: the list l as it stands throughout -/
theorem for_own {X : Addr → Prop} {s₀ : Shared} {os : List (Addr × Pr)} {l : Addr} {vs : List Value} {x : Str} {px : Pos} {body orelse : List Stmt} {Q : Flow → Shared → Prop} (J : Nat → List (Addr × Pr) → Prop)
    (hh : A.handled = none) (O : Own X s₀ s os) (hJ : J 0 os) (hsrc : ∀ i os' s', J i os' → Own X s₀ s' os' → Has s'.heap l (.list vs))
    (turn : ∀ i v it os' s', vs[i]? = some v → J i os' → Own X s₀ s' ((it, .iter l (i + 1)) :: os') → ∀ E', wpAny (model prog w) A (storeName env x v) (fun _ s₂ => wpAny (model prog w) A (execs body env) (fun f s₃ => match f with
        | .next | .cont => ∃ os'', J (i + 1) os'' ∧ Own X s₀ s₃ ((it, .iter l (i + 1)) :: os'')
        | .brk => Q .next s₃
        | .ret v => Q (.ret v) s₃) E' s₂) E' s')
    (done : ∀ os' s', J vs.length os' → Own X s₀ s' os' → ∀ E', wpAny (model prog w) A (execs orelse env) Q E' s') :
    wpAny (model prog w) A (pyIter (.ref l)) (fun it s₂ => codeAny (model prog w) A (.forLoop (.Name x px) it body orelse env) (fun r s' => match r with | .ok f => Q f s' | .error e => cameBackBy (model prog w) A env E e s') s₂) E s := by
  refine wpAny_pyIter_list (hsrc 0 os s hJ O).isList ?_
  have O1 := O.push { cls := .type "list_iterator", data := .fields #[.ref l, .int 0 0] } (.iter l 0) ⟨rfl, rfl⟩ s.toks
  refine codeAny_forLoop (fun n s' => ∃ i os', n = vs.length - i ∧ i ≤ vs.length ∧ J i os' ∧ Own X s₀ s' ((s.heap.objs.size, .iter l i) :: os')) (fun n s' hI => ?_) (vs.length - 0) ⟨0, os, rfl, Nat.zero_le _, hJ, O1⟩
  obtain ⟨i, os', rfl, hi, hJi, Oi⟩ := hI
  have hl : Has s'.heap l (.list vs) := hsrc i os' s' hJi (Oi.sub (List.sublist_cons_self ..))
  by_cases hlt : i < vs.length
  · refine nxt Oi 0 rfl hl (List.getElem?_eq_getElem hlt) fun s'' O'' _ _ => ?_
    dsimp only
    refine wpAny_assign_Name (wpAny_mono (turn i vs[i] _ os' s'' (List.getElem?_eq_getElem hlt) hJi O'' _) (fun _ s₂ h₂ => wpAny_mono h₂ (fun f s₃ h₃ => ?_) fun _ _ e => e) fun _ _ e => e)
    cases f with
    | next => obtain ⟨os'', a, b⟩ := h₃; exact ⟨vs.length - (i + 1), by omega, i + 1, os'', rfl, by omega, a, b⟩
    | cont => obtain ⟨os'', a, b⟩ := h₃; exact ⟨vs.length - (i + 1), by omega, i + 1, os'', rfl, by omega, a, b⟩
    | brk => exact h₃
    | ret v => exact h₃
  · have e : i = vs.length := by omega
    subst e
    refine nxt_end hh Oi hl (by simp) fun s'' O'' _ _ => ?_
    dsimp only
    exact done os' s'' hJi O'' _

theorem For_own {X : Addr → Prop} {s₀ : Shared} {x : Str} {px pos : Pos} {iter : PySem.Expr} {body orelse : List Stmt} {Q : Flow → Shared → Prop}
    (h : wpAny (model prog w) A (eval iter env) (fun v s₁ => ∃ l vs os, v = .ref l ∧ Own X s₀ s₁ os ∧ ∃ J : Nat → List (Addr × Pr) → Prop, A.handled = none ∧ J 0 os ∧ (∀ i os' s', J i os' → Own X s₀ s' os' → Has s'.heap l (.list vs)) ∧
      (∀ i v it os' s', vs[i]? = some v → J i os' → Own X s₀ s' ((it, .iter l (i + 1)) :: os') → ∀ E', wpAny (model prog w) A (storeName env x v) (fun _ s₂ => wpAny (model prog w) A (execs body env) (fun f s₃ => match f with
        | .next | .cont => ∃ os'', J (i + 1) os'' ∧ Own X s₀ s₃ ((it, .iter l (i + 1)) :: os'')
        | .brk => Q .next s₃
        | .ret v => Q (.ret v) s₃) E' s₂) E' s') ∧
      (∀ os' s', J vs.length os' → Own X s₀ s' os' → ∀ E', wpAny (model prog w) A (execs orelse env) Q E' s')) E s)
    (hs : ∀ x, foldedSetIterable iter env x = pure x := by intro _; rfl) :
    wpAny (model prog w) A (exec (.For (.Name x px) iter body orelse pos) env) Q E s := by
  refine wpAny_For (wpAny_mono h (fun v s₁ h₁ => ?_) fun _ _ e => e) hs
  obtain ⟨l, vs, os, rfl, O, J, hh, hJ, hsrc, turn, done⟩ := h₁
  exact for_own J hh O hJ hsrc turn done
end
end Mine

namespace Mine
section
variable {prog : Program} {w : World} {A : Around} {E : Value → Shared → Prop} {s : Shared} {env : Env} {mg mb : Str → Option Value} {g : Heap}

theorem call_fn {n : Nat} {a : Addr} {vals : List Value} {binds : List (Str × Value)} {Q : Value → Shared → Prop} (G : GF mg mb g) (hg : Sub g s.heap) (F : FnAt mg g n a) (hroom : A.depth < recursionLimit)
    (hbind : ∀ pm cd doc, bindArgs (defFd n pm cd doc) ⟨vals, []⟩ = pure binds)
    (h : ∀ env s₁, EnvG env → env.scope = (defAt n).scope → env.cells = [] → env.frame = some env.locals → Own No s s₁ [(env.locals, .ns (fun x => binds.reverse.lookup x))] → s₁.gens = s.gens →
      wpAny (model prog w) (A.deeper env) (execs (defAt n).body env) (fun f s' => Q (match f with | .ret v => v | _ => .none) s')
        (fun e s' => wpAny (model prog w) (A.deeper env) (leaving env e) (fun _ s'' => E e s'') (fun e' s'' => E e' s'') s') s₁)
    (hcell : ∀ x ∈ (defAt n).scope.names, x.2 ≠ .cell := by decide) (hloc : ∀ x ∈ binds, (defAt n).scope.names.lookup x.1 = some .local)
    (hco : (defAt n).scope.isCoroutine = false := by rfl) (hgen : (defAt n).scope.isGenerator = false := by rfl) (hk : (defAt n).scope.kind = .function := by rfl) :
    wpAny (model prog w) A (call (.ref a) vals) Q E s := by
  obtain ⟨_, o, pm, cd, doc, ho, hd, hcd⟩ := F
  refine wpAny_call (codeAny_call_straight (fd := defFd n pm cd doc) hroom (hg _ _ ho) hd (G.lim.keeps hg) (hcd.keeps hg) rfl (hbind pm cd doc) hcell hloc (fun s₁ x => ?_) hco hgen hk)
  obtain ⟨h₁, tk, rfl⟩ := x.same
  refine h (callEnv (defFd n pm cd doc) s.heap.objs.size a) _ ⟨hk, rfl, rfl⟩ rfl rfl rfl ⟨Kp.all x.keep tk, by simp, fun p hp => ?_, fun p hp => ?_⟩ rfl
  · rcases List.mem_singleton.mp hp with rfl; exact .inr (fresh_at _)
  · rcases List.mem_singleton.mp hp with rfl; exact Has.of_ns x.ns

theorem eval_CallN (f p args pos) : eval (.Call (.Name f p) args [] pos) env = (do callWith pos (← eval (.Name f p) env) [] (backTo pos (starEach args env)) []) := rfl

theorem callF {f : Str} {p pos : Pos} {args : List PySem.Expr} {t : Sem Value} {rest : List (Bool × Sem Value)} {Q : Value → Shared → Prop}
    (h : wpAny (model prog w) A (eval (.Name f p) env) (fun fv s₁ => ∃ a, fv = .ref a ∧ wpAny (model prog w) A (spliced (backTo pos (starEach args env))) (fun vs s₂ => (∃ o fd, s₂.heap.get? a = some o ∧ o.data = .func fd) ∧ wpAny (model prog w) A (call (.ref a) vs) Q E s₂) E s₁) E s)
    (hs : backTo pos (starEach args env) = (false, t) :: rest := by rfl) :
    wpAny (model prog w) A (eval (.Call (.Name f p) args [] pos) env) Q E s := by
  rw [eval_CallN]
  refine wpAny_bind (wpAny_mono h (fun fv s₁ h₁ => ?_) fun _ _ e => e)
  obtain ⟨a, rfl, h₂⟩ := h₁
  rw [hs] at h₂ ⊢
  unfold callWith
  refine wpAny_bind (wpAny_holding (Calls.evalArgs_plain (wpAny_mono h₂ (fun vs s₂ h₃ => wpAny_bind (wpAny_standAt ?_)) fun _ _ x => x)))
  obtain ⟨⟨o, fd, ho, hd⟩, hc⟩ := h₃
  have tail : ∀ {t : Sem Value}, wpAny (model prog w) A t Q E s₂ → wpAny (model prog w) A (t >>= fun r => holding [r] point >>= fun _ => pure r) Q E s₂ :=
    fun ht => wpAny_bind (wpAny_mono ht (fun r s₂ hr => wpAny_bind (wpAny_holding (wpAny_point (wpAny_pure hr)))) fun _ _ x => x)
  cases hsx : ((false, t) :: rest).any (·.1) <;> simp only [List.any_nil, Bool.or_false] <;>
    refine wpAny_bind (m := keeperOf (.ref a)) ?_ <;> unfold keeperOf <;>
    refine wpAny_bind (wpAny_load ho ?_) <;> rw [hd] <;> refine wpAny_pure ?_
  · first
      | refine wpAny_ite ?_
      | skip
    split <;> first
      | exact tail hc
      | exact tail (by unfold callMarked; exact Calls.wpAny_keep hc)
  · first
      | exact tail (by unfold callMarked; exact Calls.wpAny_keep hc)
      | exact tail hc

theorem callB {f : Str} {p pos : Pos} {args : List PySem.Expr} {t : Sem Value} {rest : List (Bool × Sem Value)} {Q : Value → Shared → Prop}
    (h : wpAny (model prog w) A (eval (.Name f p) env) (fun fv s₁ => ∃ id, fv = .builtin id ∧ wpAny (model prog w) A (spliced (backTo pos (starEach args env))) (fun vs s₂ => wpAny (model prog w) A (call (.builtin id) vs) Q E s₂) E s₁) E s)
    (hs : backTo pos (starEach args env) = (false, t) :: rest := by rfl) (hp : ((false, t) :: rest).any (·.1) = false := by rfl) :
    wpAny (model prog w) A (eval (.Call (.Name f p) args [] pos) env) Q E s := by
  rw [eval_CallN]
  refine wpAny_bind (wpAny_mono h (fun fv s₁ h₁ => ?_) fun _ _ e => e)
  obtain ⟨a, rfl, h₂⟩ := h₁
  rw [hs] at h₂ ⊢
  exact Calls.callWith_builtin hp (Calls.evalArgs_plain h₂)
theorem callT {f : Str} {p pos : Pos} {args : List PySem.Expr} {t : Sem Value} {rest : List (Bool × Sem Value)} {Q : Value → Shared → Prop}
    (h : wpAny (model prog w) A (eval (.Name f p) env) (fun fv s₁ => ∃ id, fv = .type id ∧ wpAny (model prog w) A (spliced (backTo pos (starEach args env))) (fun vs s₂ => wpAny (model prog w) A (call (.type id) vs) Q E s₂) E s₁) E s)
    (hs : backTo pos (starEach args env) = (false, t) :: rest := by rfl) (hp : ((false, t) :: rest).any (·.1) = false := by rfl) :
    wpAny (model prog w) A (eval (.Call (.Name f p) args [] pos) env) Q E s := by
  rw [eval_CallN]
  refine wpAny_bind (wpAny_mono h (fun fv s₁ h₁ => ?_) fun _ _ e => e)
  obtain ⟨a, rfl, h₂⟩ := h₁
  rw [hs] at h₂ ⊢
  exact PySem.callWith_type hp (Calls.evalArgs_plain h₂)

/-- the tests of a clause, as compTurn has them -/
def tests (ifs : List PySem.Expr) (env : Env) : Sem Bool :=
  forIn ifs true fun c r => if r = true then do let ok ← isTrue c env (eval c env); pure (ForInStep.yield ok) else pure (ForInStep.yield r)
theorem tests_nil {Q : Bool → Shared → Prop} (h : Q true s) : wpAny (model prog w) A (tests [] env) Q E s := wpAny_pure h
theorem tests_one {c : PySem.Expr} {Q : Bool → Shared → Prop} (h : wpAny (model prog w) A (isTrue c env (eval c env)) Q E s) : wpAny (model prog w) A (tests [c] env) Q E s := by
  unfold tests
  simp only [List.forIn_cons, List.forIn_nil, if_true]
  refine wpAny_bind (wpAny_bind (wpAny_mono h (fun ok s' h' => wpAny_pure (wpAny_pure h')) fun _ _ e => e))

/-- what is done with an item that passes -/
def emits (elt : PySem.Expr) (gens : List Comprehension) (e : PySem.Expr) (d : Nat) (acc : Value) (env : Env) : Sem Unit :=
  match gens[d + 1]? with
  | some g' => do
    let x ← eval g'.iter env
    standAt g'.iter.pos
    let x ← foldedSetIterable g'.iter env x
    let it' ← holding [x] (pyIter x)
    let _ ← runOwn (.compStart e (d + 1) it' acc env) env
    pure ()
  | none => do let _ ← call (.builtin "list.append") [acc, ← eval elt env]

theorem compTurn_wp {elt : PySem.Expr} {gens : List Comprehension} {scope : Scope} {pos : Pos} {d : Nat} {it acc : Value} {x : Str} {px : Pos} {iter : PySem.Expr} {ifs : List PySem.Expr} {Q : Fin → Shared → Prop}
    (hg : gens[d]? = some ⟨.Name x px, iter, ifs, 0⟩) (hg' : ∀ g' ∈ gens, g'.is_async = 0)
    (h : wpAny (model prog w) A (pyNext it) (fun r s₁ => match r with
      | none => Q (.done .next) s₁
      | some v => wpAny (model prog w) A (storeName env x v) (fun _ s₂ => wpAny (model prog w) A (tests ifs env) (fun ok s₃ => if ok = true
          then wpAny (model prog w) A (emits elt gens (.ListComp elt gens scope pos) d acc env) (fun _ s₄ => Q (.again (.compLoop (.ListComp elt gens scope pos) d it acc env)) s₄) E s₃
          else Q (.again (.compLoop (.ListComp elt gens scope pos) d it acc env)) s₃) E s₂) E s₁) E s) :
    wpAny (model prog w) A (compTurn (.ListComp elt gens scope pos) d it acc env) Q E s := by
  unfold compTurn
  simp only [hg]
  refine wpAny_bind (wpAny_standAt (wpAny_bind (wpAny_mono h (fun r s₁ h₁ => ?_) fun _ _ e => e)))
  cases r with
  | none => exact wpAny_pure h₁
  | some v =>
    refine wpAny_bind (wpAny_pure (wpAny_bind (wpAny_assign_Name (wpAny_mono h₁ (fun _ s₂ h₂ => wpAny_bind (wpAny_mono h₂ (fun ok s₃ h₃ => ?_) fun _ _ e => e)) fun _ _ e => e))))
    cases ok with
    | false => exact wpAny_pure h₃
    | true =>
      simp only [if_true] at h₃ ⊢
      unfold emits at h₃
      cases hn : gens[d + 1]? with
      | none =>
        simp only [hn] at h₃ ⊢
        exact wpAny_bind (wpAny_mono h₃ (fun _ _ q => wpAny_pure q) fun _ _ e => e)
      | some g' =>
        have ha : g'.is_async = 0 := hg' g' (List.mem_of_getElem? hn)
        simp only [hn, ha] at h₃ ⊢
        intro Γ p hΓ
        have := h₃ Γ p hΓ
        simp only [Sem.wp_bind', Sem.wp_pure', bne_self_eq_false, Bool.false_eq_true, if_false, Sem.wp_cmd_again] at this ⊢
        exact this

/-- a clause of a list comprehension over the list l -/
theorem cstart {X : Addr → Prop} {s₀ : Shared} {os : List (Addr × Pr)} {it l : Addr} {vs : List Value} {elt : PySem.Expr} {gens : List Comprehension} {scope : Scope} {pos : Pos} {d : Nat} {acc : Value} {x : Str} {px : Pos} {iter : PySem.Expr}
    {ifs : List PySem.Expr} {R : Result → Shared → Prop} (J : Nat → List (Addr × Pr) → Prop)
    (hg : gens[d]? = some ⟨.Name x px, iter, ifs, 0⟩) (hg' : ∀ g' ∈ gens, g'.is_async = 0)
    (hh : A.handled = none) (O1 : Own X s₀ s ((it, .iter l 0) :: os)) (hJ : J 0 os) (hsrc : ∀ i os' s', J i os' → Own X s₀ s' os' → Has s'.heap l (.list vs))
    (turn : ∀ i v os' s', vs[i]? = some v → J i os' → Own X s₀ s' ((it, .iter l (i + 1)) :: os') → ∀ E', wpAny (model prog w) A (storeName env x v) (fun _ s₂ => wpAny (model prog w) A (tests ifs env) (fun ok s₃ => if ok = true
        then wpAny (model prog w) A (emits elt gens (.ListComp elt gens scope pos) d acc env) (fun _ s₄ => ∃ os'', J (i + 1) os'' ∧ Own X s₀ s₄ ((it, .iter l (i + 1)) :: os'')) E' s₃
        else ∃ os'', J (i + 1) os'' ∧ Own X s₀ s₃ ((it, .iter l (i + 1)) :: os'')) E' s₂) E' s')
    (done : ∀ os' s', J vs.length os' → Own X s₀ s' os' → R (.ok .next) s') :
    codeAny (model prog w) A (.compStart (.ListComp elt gens scope pos) d (.ref it) acc env) R s := by
  have loop : ∀ s₂, Own X s₀ s₂ ((it, .iter l 0) :: os) → codeAny (model prog w) A (.compLoop (.ListComp elt gens scope pos) d (.ref it) acc env) R s₂ := by
    intro s₂ O2
    refine codeAny_loop rfl (fun n s' => ∃ i os', n = vs.length - i ∧ i ≤ vs.length ∧ J i os' ∧ Own X s₀ s' ((it, .iter l i) :: os')) (fun n s' hI => ?_) (vs.length - 0) ⟨0, os, rfl, Nat.zero_le _, hJ, O2⟩
    obtain ⟨i, os', rfl, hi, hJi, Oi⟩ := hI
    have hl : Has s'.heap l (.list vs) := hsrc i os' s' hJi (Oi.sub (List.sublist_cons_self ..))
    show wpAny _ _ ((compTurn (.ListComp elt gens scope pos) d (.ref it) acc env).onRaise (fun x => do noteFrame x env; theTreesLotGoes x)) _ _ s'
    refine wpAny_noted ?_
    refine compTurn_wp hg hg' ?_
    by_cases hlt : i < vs.length
    · refine nxt Oi 0 rfl hl (List.getElem?_eq_getElem hlt) fun s'' O'' _ _ => ?_
      dsimp only
      refine wpAny_mono (turn i vs[i] os' s'' (List.getElem?_eq_getElem hlt) hJi O'' _) (fun _ s₂ h₂ => wpAny_mono h₂ (fun ok s₃ h₃ => ?_) fun _ _ e => e) fun _ _ e => e
      cases ok with
      | false =>
        obtain ⟨os'', a, b⟩ := h₃
        exact ⟨rfl, vs.length - (i + 1), by omega, i + 1, os'', rfl, by omega, a, b⟩
      | true =>
        refine wpAny_mono h₃ (fun _ s₄ h₄ => ?_) fun _ _ e => e
        obtain ⟨os'', a, b⟩ := h₄
        exact ⟨rfl, vs.length - (i + 1), by omega, i + 1, os'', rfl, by omega, a, b⟩
    · have e : i = vs.length := by omega
      subst e
      refine nxt_end hh Oi hl (by simp) fun s'' O'' _ _ => ?_
      dsimp only
      exact done os' s'' hJi O''
  refine codeAny_of_tree ?_
  show wpAny _ _ ((compStart (.ListComp elt gens scope pos) d (.ref it) acc env).onRaise (fun x => do noteFrame x env; standAt theWindowsPlace)) _ _ s
  refine wpAny_notedAt ?_
  unfold compStart
  have hcl : (clausesOf (.ListComp elt gens scope pos))[d]? = some ⟨.Name x px, iter, ifs, 0⟩ := hg
  simp only [hcl, Option.elim, bne_self_eq_false, Bool.false_eq_true, if_false]
  refine wpAny_bind (wpAny_askSetting ?_)
  split
  · exact wpAny_pure (And.intro rfl (loop _ O1))
  · refine wpAny_bind (wpAny_rule (wpAny_bind (wpAny_standAt (wpAny_bind (wpAny_pyIter_listiter (O1.nth 0 rfl).isIter (wpAny_pure (And.intro rfl (loop _ O1))))))))

theorem cloop {X : Addr → Prop} {s₀ : Shared} {os : List (Addr × Pr)} {l : Addr} {vs : List Value} {elt : PySem.Expr} {gens : List Comprehension} {scope : Scope} {pos : Pos} {d : Nat} {acc : Value} {x : Str} {px : Pos} {iter : PySem.Expr}
    {ifs : List PySem.Expr} {R : Result → Shared → Prop} (J : Nat → List (Addr × Pr) → Prop)
    (hg : gens[d]? = some ⟨.Name x px, iter, ifs, 0⟩) (hg' : ∀ g' ∈ gens, g'.is_async = 0)
    (hh : A.handled = none) (O : Own X s₀ s os) (hJ : J 0 os) (hsrc : ∀ i os' s', J i os' → Own X s₀ s' os' → Has s'.heap l (.list vs))
    (turn : ∀ i v it os' s', vs[i]? = some v → J i os' → Own X s₀ s' ((it, .iter l (i + 1)) :: os') → ∀ E', wpAny (model prog w) A (storeName env x v) (fun _ s₂ => wpAny (model prog w) A (tests ifs env) (fun ok s₃ => if ok = true
        then wpAny (model prog w) A (emits elt gens (.ListComp elt gens scope pos) d acc env) (fun _ s₄ => ∃ os'', J (i + 1) os'' ∧ Own X s₀ s₄ ((it, .iter l (i + 1)) :: os'')) E' s₃
        else ∃ os'', J (i + 1) os'' ∧ Own X s₀ s₃ ((it, .iter l (i + 1)) :: os'')) E' s₂) E' s')
    (done : ∀ os' s', J vs.length os' → Own X s₀ s' os' → R (.ok .next) s') :
    wpAny (model prog w) A (pyIter (.ref l)) (fun it s₂ => codeAny (model prog w) A (.compStart (.ListComp elt gens scope pos) d it acc env) R s₂) E s :=
  wpAny_pyIter_list (hsrc 0 os s hJ O).isList (cstart J hg hg' hh (O.push { cls := .type "list_iterator", data := .fields #[.ref l, .int 0 0] } (.iter l 0) ⟨rfl, rfl⟩ s.toks) hJ hsrc (fun i v os' s' => turn i v _ os' s') done)

/-- the last clause: the element is put onto the list -/
theorem emit_last {elt : PySem.Expr} {gens : List Comprehension} {e : PySem.Expr} {d : Nat} {a : Addr} {Q : Unit → Shared → Prop} (hn : gens[d + 1]? = none)
    (h : wpAny (model prog w) A (eval elt env) (fun y s₁ => wpAny (model prog w) A (call (.builtin "list.append") [.ref a, y]) (fun _ s₂ => Q () s₂) E s₁) E s) :
    wpAny (model prog w) A (emits elt gens e d (.ref a) env) Q E s := by
  unfold emits
  simp only [hn]
  exact wpAny_bind (wpAny_mono h (fun y s₁ h₁ => wpAny_bind (wpAny_mono h₁ (fun _ _ q => wpAny_pure q) fun _ _ e => e)) fun _ _ e => e)
/-- a clause with another behind it -/
theorem emit_more {elt : PySem.Expr} {gens : List Comprehension} {e : PySem.Expr} {d : Nat} {acc : Value} {t' iter' : PySem.Expr} {ifs' : List PySem.Expr} {n : Int} {Q : Unit → Shared → Prop} (hn : gens[d + 1]? = some ⟨t', iter', ifs', n⟩)
    (h : wpAny (model prog w) A (eval iter' env) (fun x s₁ => wpAny (model prog w) A (pyIter x) (fun it s₂ => codeAny (model prog w) A (.compStart e (d + 1) it acc env) (fun r s' => match r with
      | .ok _ => Q () s'
      | .error x => cameBackBy (model prog w) A env E x s') s₂) E s₁) E s)
    (hs : ∀ x, foldedSetIterable iter' env x = pure x := by intro _; rfl) :
    wpAny (model prog w) A (emits elt gens e d acc env) Q E s := by
  unfold emits
  simp only [hn]
  exact wpAny_bind (wpAny_mono h (fun x s₁ h₁ => wpAny_bind (wpAny_standAt (wpAny_bind (wpAny_of_eq (hs x) (wpAny_bind (wpAny_holding (wpAny_mono h₁ (fun it s₂ h₂ =>
    wpAny_bind (wpAny_runOwn (codeAny_mono h₂ fun r s' hr => by cases r with | ok f => exact wpAny_pure hr | error x => exact hr))) fun _ _ e => e))))))) fun _ _ e => e)
theorem nd_of (scope : Scope) (h : (scope.names.all fun y => y.2 != .local || decide (scope.names.lookup y.1 = some .local)) = true) : ∀ y ∈ scope.names, y.2 = .local → scope.names.lookup y.1 = some .local := fun y hy e => by
  have := List.all_eq_true.mp h y hy
  rw [e] at this
  simpa using this

/-- what stands around a list comprehension: its list D, its own frame C -/
def compEnds (X : Addr → Prop) (s₀ : Shared) (use : Option (Value → Sem Unit)) (prog : Program) (w : World) (A : Around) (Q : Value → Shared → Prop) (C D : Addr) (r : Result) (s' : Shared) : Prop :=
  match r, use with
  | .ok _, none => ∃ m os', Own X s₀ s' ((C, .ns m) :: os') ∧ ∀ s'', Own X s₀ s'' os' → Q (.ref D) s''
  | .ok _, some u => ∀ E', wpAny (model prog w) A (u (.ref D)) (fun _ s'' => ∃ m os', Own X s₀ s'' ((C, .ns m) :: os') ∧ ∀ s'', Own X s₀ s'' os' → Q .none s'') E' s'
  | .error _, _ => False

theorem comp_top {X : Addr → Prop} {s₀ : Shared} {elt : PySem.Expr} {gens gs : List Comprehension} {tg iter : PySem.Expr} {ifs : List PySem.Expr} {scope : Scope} {cl : List (Str × Addr)} {pos pos' : Pos} {use : Option (Value → Sem Unit)} {Q : Value → Shared → Prop}
    (hgs : gens = ⟨tg, iter, ifs, 0⟩ :: gs) (hclos : closureFor scope env = pure cl) (hcell : ∀ y ∈ scope.names, y.2 ≠ .cell) (hkind : scope.kind = .function)
    (hnames : (scope.names.all fun y => y.2 != .local || decide (scope.names.lookup y.1 = some .local)) = true)
    (h : wpAny (model prog w) A (eval iter env) (fun xv s₁ => ∃ l vs os, xv = .ref l ∧ Own X s₀ s₁ os ∧ Has s₁.heap l (.list vs) ∧ ∀ C D it s₄, Own X s₀ s₄ ((it, .iter l 0) :: (C, .ns fun _ => none) :: (D, .list []) :: os) →
      codeAny (model prog w) A (.compStart (.ListComp elt gens scope pos) 0 (.ref it) (.ref D) (compEnvC scope cl C env)) (compEnds X s₀ use prog w A Q C D) s₄) E s)
    (hs : ∀ x, foldedSetIterable iter env x = pure x := by intro _; rfl) :
    wpAny (model prog w) A (comprehension (.ListComp elt gens scope pos) scope env pos' (newList []) false (eval iter env) use) Q E s := by
  refine wpAny_comprehension_free (g := ⟨tg, iter, ifs, 0⟩) (gs := gs) hgs hs hclos hkind (nd_of _ hnames) (wpAny_mono h (fun xv s₁ h₁ => ?_) fun _ _ e => e)
  obtain ⟨l, vs, os, rfl, O, hl, hc⟩ := h₁
  refine wpAny_pyIter_list hl.isList ?_
  have O1 := O.push { cls := .type "list_iterator", data := .fields #[.ref l, .int 0 0] } (.iter l 0) ⟨rfl, rfl⟩ s₁.toks
  refine wpAny_newObj_type (hd := by size_fits) ?_
  have O2 := O1.push { cls := .type "list", data := .seq ([] : List Value).toArray } (.list []) ⟨0, rfl⟩ s₁.toks
  refine wpAny_newFunctionEnv hcell (by intro y hy; simp at hy) (fun h₁ hns₁ hsb₁ => ?_) hkind
  dsimp only at hns₁ hsb₁ O2 ⊢
  generalize hH2 : (s₁.heap.push { cls := .type "list_iterator", data := .fields #[.ref l, .int 0 0] }) = H1 at *
  generalize hH3 : (H1.push { cls := .type "list", dict := none, data := .seq ([] : List Value).toArray }) = H2 at *
  have P : Own No { s₁ with heap := H2 } { s₁ with heap := h₁, toks := s₁.toks + ([] : List (Str × Value)).length } [(H2.objs.size, .ns fun _ => none)] := by
    refine ⟨⟨fun b o _ e => hsb₁.extBut b o (Nat.ne_of_lt (Heap.lt_size e)) (Heap.get?_push_of_some _ e), rfl, id⟩, by simp, fun p hp => ?_, fun p hp => ?_⟩
    · rcases List.mem_singleton.mp hp with rfl; exact .inr (fresh_at _)
    · rcases List.mem_singleton.mp hp with rfl; exact Has.of_ns hns₁
  have O3 := O2.on' P
  refine codeAny_mono (hc _ _ _ _ (O3.perm ?_)) fun r s' hr => ?_
  · exact (List.Perm.swap ..).trans (List.Perm.cons _ (List.Perm.swap ..)) |>.trans (by exact List.Perm.refl _)
  · cases r with
    | error x => cases use <;> exact hr.elim
    | ok f =>
      cases use with
      | none =>
        obtain ⟨m, os', O4, hq⟩ := hr
        exact ⟨m, (O4.nth 0 rfl).ns, fun h' hs' => hq _ (own_but O4 (Kp.same (t := s'.toks) hs'))⟩
      | some u =>
        refine wpAny_mono (hr _) (fun _ s'' h'' => ?_) fun _ _ e => e
        obtain ⟨m, os', O4, hq⟩ := h''
        exact ⟨m, (O4.nth 0 rfl).ns, fun h' hs' => hq _ (own_but O4 (Kp.same (t := s''.toks) hs'))⟩
end
end Mine

namespace Mine
section
variable {prog : Program} {w : World} {A : Around} {E : Value → Shared → Prop} {s : Shared} {env : Env}

theorem EnvG.comp (hE : EnvG env) {scope : Scope} {cl : List (Str × Addr)} {C : Addr} (hk : scope.kind = .function) : EnvG (compEnvC scope cl C env) := ⟨hk, hE.globals, hE.builtins⟩
theorem comp_local {scope : Scope} {cl : List (Str × Addr)} {C : Addr} {x : Str} (h : scope.names.lookup x = some .local) : (compEnvC scope cl C env).kindOf x = some .local := lookup_relabel_local h
theorem lookup_relabel_global {env : Env} : ∀ {names : List (Str × NameKind)} {x : Str}, names.lookup x = some .globalImplicit →
    (names.map fun (n, k) => if (k == NameKind.free && env.scope.kind == .function && env.kindOf n == some .cell) then (n, NameKind.cell) else (n, k)).lookup x = some .globalImplicit
  | [], _, h => by simp at h
  | (n, k) :: r, x, h => by
    have ih := @lookup_relabel_global env r x
    show List.lookup x ((if (k == NameKind.free && env.scope.kind == .function && env.kindOf n == some .cell) = true then (n, NameKind.cell) else (n, k)) :: _) = _
    cases hx : x == n with
    | true =>
      simp only [List.lookup_cons, hx] at h
      cases h
      simp [List.lookup_cons, hx]
    | false =>
      simp only [List.lookup_cons, hx] at h
      by_cases hc : (k == NameKind.free && env.scope.kind == .function && env.kindOf n == some .cell) = true
      · rw [if_pos hc]; simp only [List.lookup_cons, hx]; exact ih h
      · rw [if_neg hc]; simp only [List.lookup_cons, hx]; exact ih h
theorem lookup_relabel_free {env : Env} : ∀ {names : List (Str × NameKind)} {x : Str}, names.lookup x = some .free →
    (names.map fun (n, k) => if (k == NameKind.free && env.scope.kind == .function && env.kindOf n == some .cell) then (n, NameKind.cell) else (n, k)).lookup x = some .free ∨
    (names.map fun (n, k) => if (k == NameKind.free && env.scope.kind == .function && env.kindOf n == some .cell) then (n, NameKind.cell) else (n, k)).lookup x = some .cell
  | [], _, h => by simp at h
  | (n, k) :: r, x, h => by
    have ih := @lookup_relabel_free env r x
    show List.lookup x ((if (k == NameKind.free && env.scope.kind == .function && env.kindOf n == some .cell) = true then (n, NameKind.cell) else (n, k)) :: _) = _ ∨ List.lookup x ((if (k == NameKind.free && env.scope.kind == .function && env.kindOf n == some .cell) = true then (n, NameKind.cell) else (n, k)) :: _) = _
    cases hx : x == n with
    | true =>
      simp only [List.lookup_cons, hx] at h
      cases h
      by_cases hc : (NameKind.free == NameKind.free && env.scope.kind == .function && env.kindOf n == some .cell) = true
      · rw [if_pos hc]; simp [List.lookup_cons, hx]
      · rw [if_neg hc]; simp [List.lookup_cons, hx]
    | false =>
      simp only [List.lookup_cons, hx] at h
      by_cases hc : (k == NameKind.free && env.scope.kind == .function && env.kindOf n == some .cell) = true
      · rw [if_pos hc]; simp only [List.lookup_cons, hx]; exact ih h
      · rw [if_neg hc]; simp only [List.lookup_cons, hx]; exact ih h
theorem comp_global {scope : Scope} {cl : List (Str × Addr)} {C : Addr} {x : Str} (h : scope.names.lookup x = some .globalImplicit) : (compEnvC scope cl C env).kindOf x = some .globalImplicit := lookup_relabel_global h
/-- a name that the comprehension has from around it -/
theorem comp_free {M : Model} {scope : Scope} {cl : List (Str × Addr)} {C c : Addr} {x : Str} {pos : Pos} {v : Value} {Q : Value → Shared → Prop} (hE : EnvG env) (hk : scope.kind = .function) (hx : scope.names.lookup x = some .free) (hc : cl.lookup x = some c)
    (hv : Has s.heap c (.cell (some v))) (h : Q v s) (hd : (x == ("__debug__" : Str)) = false := by rfl) (hn : (x == ("__classdict__" : Str)) = false := by rfl) :
    wpAny M A (eval (.Name x pos) (compEnvC scope cl C env)) Q E s := by
  rcases lookup_relabel_free (env := env) hx with h1 | h1
  · exact nameF (hE.comp hk) h1 hc hv h hd hn
  · exact nameC (hE.comp hk) h1 hc hv h hd

/-- [elt for x in l if ..]: one clause -/
theorem comp_one {X : Addr → Prop} {s₀ : Shared} {elt : PySem.Expr} {x : Str} {px : Pos} {iter : PySem.Expr} {ifs : List PySem.Expr} {scope : Scope} {cl : List (Str × Addr)} {pos pos' : Pos} {use : Option (Value → Sem Unit)} {Q : Value → Shared → Prop}
    (hE : EnvG env) (hh : A.handled = none) (hclos : closureFor scope env = pure cl)
    (h : wpAny (model prog w) A (eval iter env) (fun xv s₁ => ∃ l vs os, xv = .ref l ∧ Own X s₀ s₁ os ∧ ∃ J : Nat → List Value → List (Addr × Pr) → Prop, J 0 [] os ∧ (∀ i ys os' s', J i ys os' → Own X s₀ s' os' → Has s'.heap l (.list vs)) ∧ vs.length ≤ sizeLine ∧ (∀ i ys os', J i ys os' → ys.length ≤ i) ∧
      (∀ i v C D it ys m os' s', vs[i]? = some v → J i ys os' → m x = some v → Own X s₀ s' ((C, .ns m) :: (D, .list ys) :: (it, .iter l (i + 1)) :: os') → ∀ E',
        wpAny (model prog w) A (tests ifs (compEnvC scope cl C env)) (fun ok s₂ => if ok = true
          then wpAny (model prog w) A (eval elt (compEnvC scope cl C env)) (fun y s₃ => ∃ os'' m', J (i + 1) (ys ++ [y]) os'' ∧ Own X s₀ s₃ ((C, .ns m') :: (D, .list ys) :: (it, .iter l (i + 1)) :: os'')) E' s₂
          else ∃ os'' m', J (i + 1) ys os'' ∧ Own X s₀ s₂ ((C, .ns m') :: (D, .list ys) :: (it, .iter l (i + 1)) :: os'')) E' s') ∧
      (∀ C D ys m os' s', J vs.length ys os' → Own X s₀ s' ((C, .ns m) :: (D, .list ys) :: os') → compEnds X s₀ use prog w A Q C D (.ok .next) s')) E s)
    (hcell : ∀ y ∈ scope.names, y.2 ≠ .cell := by decide) (hkind : scope.kind = .function := by rfl)
    (hnames : (scope.names.all fun y => y.2 != .local || decide (scope.names.lookup y.1 = some .local)) = true := by rfl) (hx : scope.names.lookup x = some .local := by rfl)
    (hs : ∀ x, foldedSetIterable iter env x = pure x := by intro _; rfl) :
    wpAny (model prog w) A (comprehension (.ListComp elt [⟨.Name x px, iter, ifs, 0⟩] scope pos) scope env pos' (newList []) false (eval iter env) use) Q E s := by
  refine comp_top (X := X) (s₀ := s₀) rfl hclos hcell hkind hnames (wpAny_mono h (fun xv s₁ h₁ => ?_) fun _ _ e => e) hs
  obtain ⟨l, vs, os, rfl, O, J, hJ, hsrc, hlen, hys, turn, done⟩ := h₁
  refine ⟨l, vs, os, rfl, O, hsrc 0 [] os s₁ hJ O, fun C D it s₄ O4 => ?_⟩
  have hEc := hE.comp (cl := cl) (C := C) hkind
  refine cstart (vs := vs) (fun i os' => ∃ ys m os'', os' = (C, .ns m) :: (D, .list ys) :: os'' ∧ J i ys os'') rfl (by intro g hg; rcases List.mem_singleton.mp hg with rfl; rfl) hh O4 ⟨[], _, os, rfl, hJ⟩ ?_ ?_ ?_
  · rintro i os' s' ⟨ys, m, os'', rfl, hJi⟩ O'
    exact hsrc i ys os'' s' hJi (O'.sub ((List.sublist_cons_self ..).trans (List.sublist_cons_self ..)))
  · rintro i v os' s' hv ⟨ys, m, os'', rfl, hJi⟩ O' E'
    refine stL O' 1 rfl hEc (comp_local hx) fun s₂ O2 _ _ => ?_
    have O3 : Own X s₀ s₂ ((C, .ns (up m x v)) :: (D, .list ys) :: (it, .iter l (i + 1)) :: os'') := O2.perm ((List.Perm.cons _ (List.Perm.swap ..)).trans (List.Perm.swap ..))
    refine wpAny_mono (turn i v C D it ys _ os'' s₂ hv hJi (up_self ..) O3 E') (fun ok s₃ h₃ => ?_) fun _ _ e => e
    cases ok with
    | false =>
      obtain ⟨os3, m', a, b⟩ := h₃
      exact ⟨_, ⟨ys, m', os3, rfl, a⟩, b.perm ((List.Perm.swap ..).trans (List.Perm.cons _ (List.Perm.swap ..)))⟩
    | true =>
      refine emit_last rfl (wpAny_mono h₃ (fun y s₄ h₄ => ?_) fun _ _ e => e)
      obtain ⟨os3, m', a, b⟩ := h₄
      have hlt : i < vs.length := (List.getElem?_eq_some_iff.mp hv).1
      refine apd b 1 rfl (Nat.le_trans (Nat.le_trans (hys i ys os'' hJi) (Nat.le_of_lt hlt)) hlen) fun s₅ O5 _ _ => ?_
      exact ⟨_, ⟨ys ++ [y], m', os3, rfl, a⟩, O5.perm ((List.Perm.swap ..).trans (List.Perm.cons _ (List.Perm.swap ..)))⟩
  · rintro os' s' ⟨ys, m, os'', rfl, hJi⟩ O'
    exact done C D ys m os'' s' hJi O'

theorem eval_comp {elt : PySem.Expr} {gens : List Comprehension} {scope : Scope} {pos : Pos} {tg iter : PySem.Expr} {ifs : List PySem.Expr} {gs : List Comprehension} {Q : Value → Shared → Prop} (hgs : gens = ⟨tg, iter, ifs, 0⟩ :: gs)
    (h : wpAny (model prog w) A (comprehension (.ListComp elt gens scope pos) scope env (firstIterPos gens pos) (newList []) false (eval iter env) none) Q E s) :
    wpAny (model prog w) A (eval (.ListComp elt gens scope pos) env) Q E s := by
  subst hgs; exact h
/-- y = [..] where the store comes first -/
theorem assign_comp {elt : PySem.Expr} {gens : List Comprehension} {scope : Scope} {pos spos py : Pos} {y : Str} {tg iter : PySem.Expr} {ifs : List PySem.Expr} {gs : List Comprehension} {Q : Flow → Shared → Prop} (hgs : gens = ⟨tg, iter, ifs, 0⟩ :: gs)
    (hsw : swapsWith (.ListComp elt gens scope pos) (some (.Name y py)) spos.line env = pure true)
    (h : wpAny (model prog w) A (comprehension (.ListComp elt gens scope pos) scope env (firstIterPos gens pos) (newList []) false (eval iter env) (some (assign (.Name y py) env))) (fun _ s' => Q .next s') E s) :
    wpAny (model prog w) A (exec (.Assign [.Name y py] (.ListComp elt gens scope pos) spos) env) Q E s := by
  subst hgs
  rw [exec_Assign_Name_used _ _ _ _ hsw]
  refine wpAny_bind (wpAny_standAt (wpAny_bind ?_))
  show wpAny _ A (do let _ ← comprehension (.ListComp elt (⟨tg, iter, ifs, 0⟩ :: gs) scope pos) scope env _ (newList []) false (eval iter env) (some (assign (.Name y py) env))) _ _ s
  exact wpAny_bind (wpAny_mono h (fun _ s' hq => wpAny_pure (wpAny_pure hq)) fun _ _ e => e)

theorem Own.opens {X : Addr → Prop} {s₀ : Shared} {os : List (Addr × Pr)} (O : Own X s₀ s os) (n : Nat) {a : Addr} {xs : List Int} (h : os[n]? = some (a, .ints xs)) : ∃ vs, IntsAre vs xs ∧ Own X s₀ s (os.set n (a, .list vs)) := by
  obtain ⟨vs, hi, hl⟩ := (O.nth n h).ints
  exact ⟨vs, hi, O.upd n h (Kp.refl _ s) hl⟩
theorem Own.shuts {X : Addr → Prop} {s₀ : Shared} {os : List (Addr × Pr)} (O : Own X s₀ s os) (n : Nat) {a : Addr} {vs : List Value} {xs : List Int} (h : os[n]? = some (a, .list vs)) (hi : IntsAre vs xs) : Own X s₀ s (os.set n (a, .ints xs)) :=
  O.upd n h (Kp.refl _ s) ((O.nth n h).of_ints hi)

/-- a list of ints sieved: [x for x in l if t(x)] -/
theorem comp_ints {X : Addr → Prop} {s₀ : Shared} {x : Str} {px px2 : Pos} {iter : PySem.Expr} {c : PySem.Expr} {scope : Scope} {cl : List (Str × Addr)} {pos pos' : Pos} {use : Option (Value → Sem Unit)} {Q : Value → Shared → Prop} (p : Int → Bool)
    (hE : EnvG env) (hh : A.handled = none) (hclos : closureFor scope env = pure cl)
    (h : wpAny (model prog w) A (eval iter env) (fun xv s₁ => ∃ l vs xs os, xv = .ref l ∧ Own X s₀ s₁ os ∧ IntsAre vs xs ∧ (∀ s', Own X s₀ s' os → Has s'.heap l (.list vs)) ∧ xs.length ≤ sizeLine ∧
      (∀ n t C s' m, n ∈ xs → m x = some (.int n t) → Has s'.heap C (.ns m) → Own X s₀ s' os → ∀ E' Q', (∀ tk, Q' (p n) { s' with toks := tk }) → wpAny (model prog w) A (isTrue c (compEnvC scope cl C env) (eval c (compEnvC scope cl C env))) Q' E' s') ∧
      (∀ C D m s', Own X s₀ s' ((C, .ns m) :: (D, .ints (xs.filter p)) :: os) → compEnds X s₀ use prog w A Q C D (.ok .next) s')) E s)
    (hcell : ∀ y ∈ scope.names, y.2 ≠ .cell := by decide) (hkind : scope.kind = .function := by rfl)
    (hnames : (scope.names.all fun y => y.2 != .local || decide (scope.names.lookup y.1 = some .local)) = true := by rfl) (hx : scope.names.lookup x = some .local := by rfl)
    (hs : ∀ x, foldedSetIterable iter env x = pure x := by intro _; rfl) (hd : (x == ("__debug__" : Str)) = false := by rfl) :
    wpAny (model prog w) A (comprehension (.ListComp (.Name x px2) [⟨.Name x px, iter, [c], 0⟩] scope pos) scope env pos' (newList []) false (eval iter env) use) Q E s := by
  refine comp_one (X := X) (s₀ := s₀) hE hh hclos (wpAny_mono h (fun xv s₁ h₁ => ?_) fun _ _ e => e) hcell hkind hnames hx hs
  obtain ⟨l, vs, xs, os, rfl, O, hi, hl, hlen, htest, done⟩ := h₁
  have hvl : vs.length = xs.length := hi.length
  refine ⟨l, vs, os, rfl, O, fun i ys os' => os' = os ∧ IntsAre ys ((xs.take i).filter p), ⟨rfl, .nil⟩, ?_, by omega, ?_, ?_, ?_⟩
  · rintro i ys os' s' ⟨rfl, _⟩ O'
    exact hl s' O'
  · rintro i ys os' ⟨_, h⟩
    have := h.length
    have h2 := List.length_filter_le p (xs.take i)
    have h3 : (xs.take i).length ≤ i := by simp; omega
    omega
  · rintro i v C D it ys m os' s' hv ⟨rfl, hys⟩ hm O' E'
    obtain ⟨n, t, rfl, hn⟩ := hi.at i v hv
    have hmem : n ∈ xs := List.mem_of_getElem? hn
    have htake : (xs.take (i + 1)).filter p = (xs.take i).filter p ++ (if p n = true then [n] else []) := by
      rw [List.take_add_one, hn]; simp [List.filter_append, List.filter_cons]
    refine tests_one (htest n t C s' m hmem hm (O'.nth 0 rfl) (O'.sub ?_) E' _ fun tk => ?_)
    · exact (List.sublist_cons_self ..).trans ((List.sublist_cons_self ..).trans (List.sublist_cons_self ..))
    · cases hp : p n with
      | true =>
        refine nameL (O'.nth 0 rfl) (hE.comp hkind) (comp_local hx) hm ⟨os', m, ⟨rfl, ?_⟩, O'.tok tk⟩ hd
        rw [htake, hp]
        exact hys.append (.cons n t .nil)
      | false =>
        refine ⟨os', m, ⟨rfl, ?_⟩, O'.tok tk⟩
        rw [htake, hp]
        simpa using hys
  · rintro C D ys m os' s' ⟨rfl, hys⟩ O'
    rw [hvl, List.take_length] at hys
    exact done C D m s' (O'.shuts 1 rfl hys)
theorem bi_divmod {mg mb : Str → Option Value} {g : Heap} (G : GF mg mb g) : mb "divmod" = some (.builtin "divmod") := (G.bi _ (by decide)).trans (by kernel_rfl)
theorem bi_range {mg mb : Str → Option Value} {g : Heap} (G : GF mg mb g) : mb "range" = some (.type "range") := (G.bi _ (by decide)).trans (by kernel_rfl)
theorem bi_len {mg mb : Str → Option Value} {g : Heap} (G : GF mg mb g) : mb "len" = some (.builtin "len") := (G.bi _ (by decide)).trans (by kernel_rfl)
theorem bi_min {mg mb : Str → Option Value} {g : Heap} (G : GF mg mb g) : mb "min" = some (.builtin "min") := (G.bi _ (by decide)).trans (by kernel_rfl)
theorem bi_list {mg mb : Str → Option Value} {g : Heap} (G : GF mg mb g) : mb "list" = some (.type "list") := (G.bi _ (by decide)).trans (by kernel_rfl)
theorem bi_str {mg mb : Str → Option Value} {g : Heap} (G : GF mg mb g) : mb "str" = some (.type "str") := (G.bi _ (by decide)).trans (by kernel_rfl)
theorem bi_isinstance {mg mb : Str → Option Value} {g : Heap} (G : GF mg mb g) : mb "isinstance" = some (.builtin "isinstance") := (G.bi _ (by decide)).trans (by kernel_rfl)
theorem bi_slice {mg mb : Str → Option Value} {g : Heap} (G : GF mg mb g) : mb "slice" = some (.type "slice") := (G.bi _ (by decide)).trans (by kernel_rfl)
theorem bi_RuntimeError {mg mb : Str → Option Value} {g : Heap} (G : GF mg mb g) : mb "RuntimeError" = some (.type "RuntimeError") := (G.bi _ (by decide)).trans (by kernel_rfl)

theorem readsAll_ints (h : Heap) : ∀ {vs : List Value} {xs : List Int}, IntsAre vs xs → ReadsAll h vs (xs.map .int) []
  | _, _, .nil => .nil
  | _, _, .cons n t r => .cons (as := []) (.int n t) (readsAll_ints h r)
theorem Has.reads {h : Heap} {a : Addr} {xs : List Int} (x : Has h a (.ints xs)) : Reads h (.ref a) (.list (xs.map .int)) [a] := by
  obtain ⟨o, e, vs, n, i, rfl⟩ := x
  exact .list e rfl rfl (by simpa using readsAll_ints h i)
theorem canLay_ints (xs : List Int) : (PyData.list (xs.map .int)).canLay0 = true := by
  show PyData.canLayAll0 (xs.map .int) = true
  induction xs with
  | nil => rfl
  | cons x r ih => exact Bool.and_eq_true_iff.mpr ⟨rfl, ih⟩
theorem eqvAll_ints : ∀ xs ys : List Int, PyData.eqvAll (xs.map .int) (ys.map .int) = decide (xs = ys)
  | [], [] => rfl
  | [], _ :: _ => rfl
  | _ :: _, [] => rfl
  | x :: xs, y :: ys => by
    show (PyData.eqv (.int x) (.int y) && PyData.eqvAll (xs.map .int) (ys.map .int)) = _
    rw [eqvAll_ints xs ys]
    have : PyData.eqv (.int x) (.int y) = decide (x = y) := by simp only [PyData.eqv]; rw [Bool.eq_iff_iff]; simp
    rw [this, Bool.eq_iff_iff]; simp
theorem depth_ints (xs : List Int) : (PyData.list (xs.map .int)).depth ≤ 2 := by
  have h : PyData.depthAll (xs.map .int) ≤ 1 := by
    induction xs with
    | nil => decide
    | cons x r ih => show max (PyData.depth (.int x)) (PyData.depthAll (r.map .int)) ≤ 1; have : PyData.depth (.int x) = 0 := rfl
                     omega
  show PyData.depthAll (xs.map .int) + 1 ≤ 2
  omega
theorem ne_ints {a b : Addr} {xs ys : List Int} {Q : Value → Shared → Prop} (ha : Has s.heap a (.ints xs)) (hb : Has s.heap b (.ints ys)) (hu : A.units < 9800) (h : Q (.bool (!decide (xs = ys))) s) :
    wpAny (model prog w) A (compareOp .NotEq (.ref a) (.ref b)) Q E s :=
  SeqAt.compareNe_reads ha.reads hb.reads (canLay_ints xs) (canLay_ints ys) (by have := depth_ints xs; have : cLine = 9900 := rfl; omega) (by
    have : PyData.eqv (.list (xs.map .int)) (.list (ys.map .int)) = decide (xs = ys) := eqvAll_ints xs ys
    rw [this]; exact h)
theorem eq_ints {a b : Addr} {xs ys : List Int} {Q : Value → Shared → Prop} (ha : Has s.heap a (.ints xs)) (hb : Has s.heap b (.ints ys)) (hu : A.units < 9800) (h : Q (.bool (decide (xs = ys))) s) :
    wpAny (model prog w) A (compareOp .Eq (.ref a) (.ref b)) Q E s :=
  SeqAt.compareEq_reads ha.reads hb.reads (canLay_ints xs) (canLay_ints ys) (by have := depth_ints xs; have : cLine = 9900 := rfl; omega) (by
    have : PyData.eqv (.list (xs.map .int)) (.list (ys.map .int)) = decide (xs = ys) := eqvAll_ints xs ys
    rw [this]; exact h)
end
end Mine

namespace Mine

def zipP (ads : List Addr) (xss : List (List Int)) : List (Addr × Pr) := List.zipWith (fun b xs => (b, Pr.ints xs)) ads xss

theorem zipP_snoc : ∀ {ads : List Addr} {xss : List (List Int)} (a : Addr) (xs : List Int), ads.length = xss.length → zipP (ads ++ [a]) (xss ++ [xs]) = zipP ads xss ++ [(a, .ints xs)]
  | [], [], _, _, _ => rfl
  | b :: ads, ys :: xss, a, xs, h => by
    show (b, Pr.ints ys) :: zipP (ads ++ [a]) (xss ++ [xs]) = (b, Pr.ints ys) :: (zipP ads xss ++ [(a, .ints xs)])
    rw [zipP_snoc a xs (by simpa using h)]

def rowTest (last : List Int) (n : Int) : Bool :=
  ((n.fdiv 8).fmod 3 == 2) || (((n.fdiv 8).fmod 3 == 0) && last.any (· == n.fmod 8)) || (decide (n.fmod 8 < 4) && !(last.filter (fun y => decide (4 ≤ y))).isEmpty)
def rowStep (st : List (List Int) × List Int) (n : Int) : List (List Int) × List Int :=
  if rowTest st.2 n = true then (st.1 ++ [st.2], [n.fmod 8]) else (st.1, st.2 ++ [n.fmod 8])
def rowsOf (ns : List Int) : List (List Int) := let st := ns.foldl rowStep ([], []); st.1 ++ [st.2]

section
variable {prog : Program} {w : World} {A : Around} {E : Value → Shared → Prop} {s : Shared} {env : Env} {mg mb : Str → Option Value} {g : Heap}

theorem rows_spec {a l : Addr} {vs : List Value} {ns : List Int} (G : GF mg mb g) (hg : Sub g s.heap) (F : FnAt mg g 8 a) (hd : A.depth < 990) (hh : A.handled = none) (hu : A.units < 9000)
    (hl : Has s.heap l (.list vs)) (hi : IntsAre vs ns) (hlen : ns.length ≤ 1000) :
    wpAny (model prog w) A (call (.ref a) [.ref l]) (fun v s' => ∃ R ads, v = .ref R ∧ ads.length = (rowsOf ns).length ∧ Own No s s' ((R, .list (ads.map .ref)) :: zipP ads (rowsOf ns))) E s := by
  refine call_fn (binds := [(Str.ofString "numbers", .ref l)]) G hg F (by show A.depth < 1000; omega) (fun _ _ _ => rfl) ?_ (hloc := locs rfl)
  intro env s₁ hE hs _ _ O _
  generalize hA : A.deeper env = A'
  have hh' : A'.handled = none := by rw [← hA]; exact hh
  have hu' : A'.units < 9003 := by rw [← hA]; show A.units + 3 < 9003; omega
  conv => arg 3; arg 1; whnf
  refine wpAny_execs_cons (wpAny_Assign_Name (wpAny_List (wpAny_items_cons (wpAny_List (wpAny_items_nil ⟨by decide, wpAny_items_nil ⟨Nat.le_of_ble_eq_true rfl, ?_⟩⟩)))))
  have O1 := O.push { cls := .type "list", data := .seq ([] : List Value).toArray } (.ints []) ⟨[], 0, .nil, rfl⟩ s₁.toks
  have O2 := O1.push { cls := .type "list", data := .seq [Value.ref s₁.heap.objs.size].toArray } (.list [.ref s₁.heap.objs.size]) ⟨0, rfl⟩ s₁.toks
  refine stL O2 2 rfl hE (kind_of hs rfl) fun s₂ O3 _ _ => ?_
  clear O1 O2
  generalize hR : (Heap.push s₁.heap { cls := .type "list", data := .seq ([] : List Value).toArray }).objs.size = R at O3
  generalize ha0 : s₁.heap.objs.size = a0 at O3
  have O4 : Own No s s₂ ((env.locals, .ns (up (fun x => List.lookup x [(Str.ofString "numbers", Value.ref l)].reverse) (Str.ofString "rows") (.ref R))) :: (R, .list (([] ++ [a0]).map .ref)) :: (a0, .ints []) :: zipP [] []) := O3.pick 3 [2, 0, 1]
  clear O3
  refine wpAny_execs_cons (For_own (X := No) (s₀ := s) (nameL (O4.nth 0 rfl) hE (kind_of hs rfl) rfl
    ⟨l, vs, _, rfl, O4, fun i os' => ∃ ads a m, os' = (env.locals, .ns m) :: (R, .list ((ads ++ [a]).map .ref)) :: (a, .ints ((ns.take i).foldl rowStep ([], [])).2) :: zipP ads ((ns.take i).foldl rowStep ([], [])).1 ∧
      ads.length = ((ns.take i).foldl rowStep ([], [])).1.length ∧ (ads.length ≤ i ∧ ((ns.take i).foldl rowStep ([], [])).2.length ≤ i) ∧ m (Str.ofString "rows") = some (.ref R), hh', ⟨[], a0, _, rfl, rfl, ⟨Nat.le_refl _, Nat.le_refl _⟩, rfl⟩, ?_, ?_, ?_⟩))
  · rintro i os' s' ⟨ads, a, m, rfl, _⟩ O'; exact O'.old hl (fun h => h)
  · rintro i v it os' s' hv ⟨ads, a, m, rfl, hal, hle, hm1⟩ O' E'
    obtain ⟨n, t, rfl, hn⟩ := hi.at i v hv
    have hin : i < ns.length := (List.getElem?_eq_some_iff.mp hn).1
    have hst : (ns.take (i + 1)).foldl rowStep ([], []) = rowStep ((ns.take i).foldl rowStep ([], [])) n := by rw [List.take_add_one, hn]; simp [List.foldl_append]
    obtain ⟨st, hst0⟩ : ∃ st, st = (ns.take i).foldl rowStep ([], []) := ⟨_, rfl⟩
    rw [← hst0] at hst hal hle O'
    refine stL O' 1 rfl hE (kind_of hs rfl) fun s₂ O₂ _ _ => ?_
    have hg₂ : Sub g s₂.heap := hg.kp O₂.kp fun _ h => h.elim
    refine wpAny_execs_cons (Assign_Tuple (callB ?_))
    refine nameB G hg₂ hE (kind_of hs rfl) (G.no _ (by decide)) (bi_divmod G) ⟨_, rfl, wpAny_items_cons (nameL (O₂.nth 1 rfl) hE (kind_of hs rfl) rfl (wpAny_items_cons (wpAny_Constant_int (wpAny_items_nil
      (divmod_int (by decide) ?_ (Or.inl (PyProof.noPylong_small (by decide))))))))⟩
    have O₃ := O₂.push_ { cls := .type "tuple", data := .seq #[.int (n.fdiv 8) (s₂.toks + 1), .int (n.fmod 8) (s₂.toks + 1 + 1)] } (s₂.toks + 1 + 1 + 1)
    refine assign_Tuple_tuple hh' (IsTup.new _ _) rfl rfl fun h' hx => ?_
    have O₄ := O₃.keep (Kp.all (h' := h') (fun b o e => hx b o (Nat.ne_of_lt (Heap.lt_size e)) e) (s₂.toks + 1 + 1 + 1))
    refine wpAny_bind (wpAny_holding (wpAny_assign_Name (stL O₄ 1 rfl hE (kind_of hs rfl) fun s₅ O₅ _ _ => wpAny_bind (wpAny_holding (wpAny_assign_Name (stL O₅ 1 rfl hE (kind_of hs rfl) fun s₆ O₆ _ _ => wpAny_pure ?_))))))
    clear O₃ O₄ O₅ O₂
    have hlast : ((ads ++ [a]).map Value.ref).toArray[((-1 : Int) + ((ads ++ [a]).map Value.ref).toArray.size).toNat]? = some (.ref a) := by
      have : ((-1 : Int) + ((ads ++ [a]).map Value.ref).toArray.size).toNat = ads.length := by simp; omega
      rw [this]; simp
    have hsz1 : -((((ads ++ [a]).map Value.ref).toArray.size : Nat) : Int) ≤ -1 := by simp; omega
    refine wpAny_execs_cons (wpAny_Assign_Name (sub_ (T := "list") (nameL (O₆.nth 1 rfl) hE (kind_of hs rfl) hm1 (wpAny_UnaryOp (wpAny_Constant_int (neg_int
      ⟨(O₆.nth 2 rfl).isList.typeIs, wpAny_getItem_list_neg (O₆.nth 2 rfl).isList (by decide) hsz1 (by decide) hlast ?_⟩)))) slot_list_getitem.lookup))
    refine stL (O₆.tok _) 1 rfl hE (kind_of hs rfl) fun s₇ O₇ _ _ => ?_
    clear O₆
    obtain ⟨m', hm', O₈⟩ : ∃ m', (m' (Str.ofString "rows") = some (.ref R) ∧ (∃ t, m' (Str.ofString "q") = some (.int (n.fdiv 8) t)) ∧ (∃ t, m' (Str.ofString "x") = some (.int (n.fmod 8) t)) ∧ m' (Str.ofString "last") = some (.ref a)) ∧
        Own No s s₇ ((env.locals, .ns m') :: (R, .list ((ads ++ [a]).map .ref)) :: (a, .ints st.2) :: (it, .iter l (i + 1)) :: zipP ads st.1) := by
      refine ⟨_, ?_, O₇.pick 4 [1, 2, 3, 0]⟩
      exact ⟨hm1, ⟨_, rfl⟩, ⟨_, rfl⟩, rfl⟩
    clear O₇
    obtain ⟨hm2, ⟨tq, hq⟩, ⟨tx, hx⟩, hla⟩ := hm'
    refine wpAny_execs_cons (wpAny_mono (Q := fun f s₃ => f = .next ∧ ∃ ads' a' xs' xss', Own No s s₃ ((env.locals, .ns m') :: (R, .list ((ads' ++ [a']).map .ref)) :: (a', .ints xs') :: (it, .iter l (i + 1)) :: zipP ads' xss') ∧
        ads'.length = xss'.length ∧ rowStep st n = (xss', xs' ++ [n.fmod 8]) ∧ ads'.length ≤ i + 1 ∧ xs'.length ≤ i)
      (wpAny_If (wpAny_mono (Q := fun b s₃ => b = rowTest st.2 n ∧ Own No s s₃ ((env.locals, .ns m') :: (R, .list ((ads ++ [a]).map .ref)) :: (a, .ints st.2) :: (it, .iter l (i + 1)) :: zipP ads st.1)) ?_ (fun b s₃ hb => ?_) fun _ _ e => e)) (fun f s₃ hf => ?_) fun _ _ e => e)
    · generalize hos : ((env.locals, Pr.ns m') :: (R, Pr.list ((ads ++ [a]).map .ref)) :: (a, Pr.ints st.2) :: (it, Pr.iter l (i + 1)) :: zipP ads st.1) = os at *
      have h0 : os[0]? = some (env.locals, .ns m') := by rw [← hos]; rfl
      have h2 : os[2]? = some (a, .ints st.2) := by rw [← hos]; rfl
      obtain ⟨vsa, hia, hla'⟩ := (O₈.nth 2 h2).ints
      refine wpAny_isTrue_BoolOp (wpAny_allTrue_Or_cons (wpAny_isTrue_Compare1 (wpAny_BinOp (nameL (O₈.nth 0 h0) hE (kind_of hs rfl) hq (wpAny_Constant_int (mod_int' (by decide) (wpAny_Constant_int (eq_int (wpAny_truthy_bool ?_)))))))))
      have O₉ := O₈.tok (s₇.toks + 1 + 1 + 1)
      by_cases hc1 : ((n.fdiv 8).fmod 3 == 2) = true
      · rw [if_pos hc1]; exact ⟨by simp [rowTest, hc1], O₉⟩
      · rw [if_neg hc1]
        refine wpAny_allTrue_Or_cons (wpAny_mono (Q := fun b s₃ => b = (((n.fdiv 8).fmod 3 == 0) && st.2.any (· == n.fmod 8)) ∧ Own No s s₃ os) ?_ (fun b s₃ hb => ?_) fun _ _ e => e)
        · refine wpAny_isTrue_BoolOp (wpAny_allTrue_And_cons (wpAny_isTrue_Compare1 (wpAny_BinOp (nameL (O₉.nth 0 h0) hE (kind_of hs rfl) hq (wpAny_Constant_int (mod_int' (by decide) (wpAny_Constant_int (eq_int (wpAny_truthy_bool ?_)))))))))
          have O₁₀ := O₉.tok (s₇.toks + 1 + 1 + 1 + 1 + 1 + 1)
          by_cases hc2 : ((n.fdiv 8).fmod 3 == 0) = true
          · rw [if_pos hc2]
            refine wpAny_allTrue_And_cons (wpAny_isTrue_Compare1 (nameL (O₁₀.nth 0 h0) hE (kind_of hs rfl) hx (nameL (O₁₀.nth 0 h0) hE (kind_of hs rfl) hla (in_list_ints hla'.isList hia (wpAny_truthy_bool ?_)))))
            by_cases hc3 : (st.2.any (· == n.fmod 8)) = true
            · rw [if_pos hc3]; exact wpAny_allTrue_And_nil ⟨by rw [hc2, hc3]; rfl, O₁₀⟩
            · rw [if_neg hc3]; exact ⟨by simp [hc2, Bool.not_eq_true _ ▸ hc3], O₁₀⟩
          · rw [if_neg hc2]; exact ⟨by simp [Bool.not_eq_true _ ▸ hc2], O₁₀⟩
        · obtain ⟨rfl, O₁₀⟩ := hb
          by_cases hc4 : (((n.fdiv 8).fmod 3 == 0) && st.2.any (· == n.fmod 8)) = true
          · rw [if_pos hc4]; exact ⟨by simp only [rowTest, hc4, Bool.or_true, Bool.true_or], O₁₀⟩
          · rw [if_neg hc4]
            refine wpAny_allTrue_Or_cons (wpAny_isTrue_BoolOp (wpAny_allTrue_And_cons (wpAny_isTrue_Compare1 (nameL (O₁₀.nth 0 h0) hE (kind_of hs rfl) hx (wpAny_Constant_int (lt_int (wpAny_truthy_bool ?_)))))))
            by_cases hc5 : decide (n.fmod 8 < 4) = true
            · rw [if_pos hc5]
              obtain ⟨vsb, hib, O₁₁⟩ := (O₁₀.tok (s₃.toks + 1)).opens 2 h2
              have h0' : (os.set 2 (a, .list vsb))[0]? = some (env.locals, .ns m') := by rw [← hos]; rfl
              have h2' : (os.set 2 (a, .list vsb))[2]? = some (a, .list vsb) := by rw [← hos]; rfl
              refine wpAny_allTrue_And_cons (wpAny_isTrue_Compare1 (eval_comp rfl (comp_ints (X := No) (s₀ := s) (fun y => decide (4 ≤ y)) hE hh' (closureFor_none (by decide)) (nameL (O₁₁.nth 0 h0') hE (kind_of hs rfl) hla
                ⟨a, vsb, st.2, _, rfl, O₁₁, hib, fun s' O' => O'.nth 2 h2', ?_, ?_, ?_⟩))))
              · have : sizeLine = 16777216 := rfl
                omega
              · intro y ty C s' mm _ hmm hC _ E' Q' hQ'
                refine wpAny_isTrue_Compare1 (nameL (env := compEnvC _ _ C env) hC (hE.comp rfl) (comp_local rfl) hmm (wpAny_Constant_int (ge_int (wpAny_truthy_bool (hQ' _)))))
              · intro C D mm s' O'
                refine ⟨mm, _, O', fun s'' O'' => ?_⟩
                refine wpAny_List (wpAny_items_nil ⟨by decide, ?_⟩)
                have O₁₂ := O''.push { cls := .type "list", data := .seq ([] : List Value).toArray } (.ints []) ⟨[], 0, .nil, rfl⟩ s''.toks
                refine ne_ints (O₁₂.nth 1 rfl) (O₁₂.nth 0 rfl) (by omega) (wpAny_truthy_bool ?_)
                have O₁₃ : Own No s { s'' with heap := s''.heap.push { cls := .type "list", data := .seq ([] : List Value).toArray } } os := by
                  have := (O₁₂.sub ((List.sublist_cons_self ..).trans (List.sublist_cons_self ..))).shuts 2 h2' hib
                  rw [← hos] at this ⊢
                  exact this
                have hem : (!decide (st.2.filter (fun y => decide (4 ≤ y)) = [])) = !(st.2.filter (fun y => decide (4 ≤ y))).isEmpty := by
                  cases st.2.filter (fun y => decide (4 ≤ y)) <;> rfl
                rw [hem]
                by_cases hc6 : (!(st.2.filter (fun y => decide (4 ≤ y))).isEmpty) = true
                · rw [if_pos hc6]; exact wpAny_allTrue_And_nil ⟨by simp only [rowTest, hc5, hc6, Bool.and_true, Bool.or_true], O₁₃⟩
                · rw [if_neg hc6]
                  refine wpAny_allTrue_Or_nil ⟨?_, O₁₃⟩
                  simp only [rowTest, Bool.not_eq_true _ ▸ hc1, Bool.not_eq_true _ ▸ hc4, Bool.not_eq_true _ ▸ hc6, Bool.and_false, Bool.or_false]
            · rw [if_neg hc5]
              refine wpAny_allTrue_Or_nil ⟨?_, O₁₀.tok _⟩
              simp only [rowTest, Bool.not_eq_true _ ▸ hc1, Bool.not_eq_true _ ▸ hc4, Bool.not_eq_true _ ▸ hc5, Bool.false_and, Bool.or_false]
    · obtain ⟨rfl, O₉⟩ := hb
      by_cases hc : rowTest st.2 n = true
      · rw [if_pos hc]
        refine wpAny_execs_cons (wpAny_Expr (m_append rfl rfl (nameL (O₉.nth 0 rfl) hE (kind_of hs rfl) hm2 ⟨R, _, rfl, O₉.nth 1 rfl, wpAny_List (wpAny_items_nil ⟨by decide, ?_⟩)⟩)) hE.inter rfl)
        have O₁₀ := O₉.push { cls := .type "list", data := .seq ([] : List Value).toArray } (.ints []) ⟨[], 0, .nil, rfl⟩ s₃.toks
        refine apd O₁₀ 2 rfl ?_ fun s₄ O₁₁ _ _ => ?_
        · have : sizeLine = 16777216 := rfl
          simp; omega
        · refine wpAny_execs_nil ⟨rfl, ads ++ [a], s₃.heap.objs.size, [], st.1 ++ [st.2], ?_, by simp [hal], by simp [rowStep, hc], ?_⟩
          · have O₁₂ := O₁₁.pick 5 [1, 2, 0, 4, 3]
            have e : (ads ++ [a]).map Value.ref ++ [.ref s₃.heap.objs.size] = ((ads ++ [a]) ++ [s₃.heap.objs.size]).map Value.ref := by simp
            rw [zipP_snoc a st.2 hal, ← e]
            refine O₁₂.perm ?_
            refine List.Perm.cons _ (List.Perm.cons _ (List.Perm.cons _ (List.Perm.cons _ ?_)))
            exact List.perm_append_singleton ..
          · simp; omega
      · rw [if_neg hc]
        exact wpAny_execs_nil ⟨rfl, ads, a, st.2, st.1, O₉, hal, by simp [rowStep, hc], by omega, by omega⟩
    · obtain ⟨rfl, ads', a', xs', xss', O₉, hal', hstep, hle'⟩ := hf
      dsimp only
      have hlast' : ((ads' ++ [a']).map Value.ref).toArray[((-1 : Int) + ((ads' ++ [a']).map Value.ref).toArray.size).toNat]? = some (.ref a') := by
        have : ((-1 : Int) + ((ads' ++ [a']).map Value.ref).toArray.size).toNat = ads'.length := by simp; omega
        rw [this]; simp
      have hsz' : -((((ads' ++ [a']).map Value.ref).toArray.size : Nat) : Int) ≤ -1 := by simp; omega
      obtain ⟨vsb, hib, O₁₀⟩ := O₉.opens 2 rfl
      refine wpAny_execs_cons (wpAny_Expr (m_append rfl rfl (sub_ (T := "list") (nameL (O₁₀.nth 0 rfl) hE (kind_of hs rfl) hm2 (wpAny_UnaryOp (wpAny_Constant_int (neg_int
        ⟨(O₁₀.nth 1 rfl).isList.typeIs, wpAny_getItem_list_neg (O₁₀.nth 1 rfl).isList (by decide) hsz' (by decide) hlast' ⟨a', vsb, rfl, O₁₀.nth 2 rfl, nameL ((O₁₀.tok _).nth 0 rfl) hE (kind_of hs rfl) hx ?_⟩⟩)))) slot_list_getitem.lookup)) hE.inter rfl)
      refine apd (O₁₀.tok _) 2 rfl ?_ fun s₄ O₁₁ _ _ => ?_
      · have : sizeLine = 16777216 := rfl
        have := hib.length
        omega
      · refine wpAny_execs_nil ⟨_, ⟨ads', a', m', ?_, ?_, ?_, hm2⟩, (O₁₁.shuts 2 rfl (hib.append (.cons (n.fmod 8) tx .nil))).pick 4 [3, 0, 1, 2]⟩
        · rw [hst, hstep]; rfl
        · rw [hst, hstep]; exact hal'
        · rw [hst, hstep]; simp; omega
  · rintro os' s' ⟨ads, a, m, rfl, hal, hle, hm1⟩ O' E'
    refine wpAny_execs_nil ?_
    dsimp only
    refine wpAny_execs_cons (wpAny_Return_some (nameL (O'.nth 0 rfl) hE (kind_of hs rfl) hm1 ?_))
    dsimp only
    have hvl : vs.length = ns.length := hi.length
    rw [hvl, List.take_length] at O' hal
    refine ⟨R, ads ++ [a], rfl, by simp [rowsOf, hal], ?_⟩
    unfold rowsOf
    dsimp only
    rw [zipP_snoc a _ hal]
    refine (O'.pick 1 []).perm ?_
    refine List.Perm.cons _ ?_
    exact List.perm_append_singleton ..
end
end Mine

namespace Mine
theorem rc_lt {prog : Program} {w : World} {A : Around} {E : Value → Shared → Prop} {s : Shared} {a b : Int} {t u : Tok} {Q : Value → Shared → Prop} (h : Q (.bool (decide (a < b))) s) : wpAny (model prog w) A (richCompare .Lt (.int a t) (.int b u)) Q E s :=
  wpAny_lt_int (t := t) (u := u) h
def ltP (p q : Int × Int) : Bool := decide (p.1 < q.1) || (p.1 == q.1 && decide (p.2 < q.2))
theorem tup_lt (l b : Addr) (j x j' x' : Int) (t u t' u' : Tok) (n n2 : Nat) :
    Meets (Builtin.«tuple.__lt__» ⟨[.ref l, .ref b], []⟩)
      (fun A R s => s.heap.get? l = some { cls := .type "tuple", data := .seq #[.int j t, .int x u] n } ∧ s.heap.get? b = some { cls := .type "tuple", data := .seq #[.int j' t', .int x' u'] n2 } ∧
        R (.ok (.ret (.bool (ltP (j, x) (j', x'))))) s) :=
  .of_wp fun prog w A R s h => by
    obtain ⟨hp, g, d, tk, os⟩ := s; obtain ⟨hl, hb, h⟩ := h
    have f2 := AutoSeq1.sub_tuple_tuple
    have e1 : SeqAt.EqAt A.in1 ⟨hp, g, d, tk, os⟩ (.int j t) (.int j' t') (j == j') := SeqAt.EqAt.int_int j t j' t'
    have e2 : SeqAt.EqAt A.in1 ⟨hp, g, d, tk, os⟩ (.int x u) (.int x' u') (x == x') := SeqAt.EqAt.int_int x u x' u'
    wp_walk using wpAny_loadPart' hl, wpAny_loadPart' hb
    refine e1 prog w _ _ ?_
    cases hj : (j == j') with
    | false =>
      have hne : j ≠ j' := by simpa using hj
      have hlt : ltP (j, x) (j', x') = decide (j < j') := by simp [ltP, hj]
      rw [hlt] at h
      simp only [Bool.not_false, if_true]
      refine wpAny_bind (wpAny_rule (wpAny_bind ?_))
      refine rc_lt ?_
      wp_walk
      exact ⟨_, rfl, h⟩
    | true =>
      have hjj : j = j' := by simpa using hj
      simp only [Bool.not_true, Bool.false_eq_true, if_false]
      wp_walk
      refine e2 prog w _ _ ?_
      cases hx : (x == x') with
      | false =>
        have hlt : ltP (j, x) (j', x') = decide (x < x') := by simp [ltP, hj, hjj]
        rw [hlt] at h
        simp only [Bool.not_false, if_true]
        refine wpAny_bind (wpAny_rule (wpAny_bind ?_))
        refine rc_lt ?_
        wp_walk
        exact ⟨_, rfl, h⟩
      | true =>
        have hxx : x = x' := by simpa using hx
        have hlt : ltP (j, x) (j', x') = false := by simp [ltP, hj, hjj, hxx]
        rw [hlt] at h
        simp only [Bool.not_true, Bool.false_eq_true, if_false]
        wp_walk
        exact ⟨_, rfl, by simpa [Builtin.Tuple.tupleCompareSizes] using h⟩
theorem rc_pair {prog : Program} {w : World} {A : Around} {E : Value → Shared → Prop} {s : Shared} {l b : Addr} {j x j' x' : Int} {t u t' u' : Tok} {n n2 : Nat} {Q : Value → Shared → Prop}
    (hl : s.heap.get? l = some { cls := .type "tuple", data := .seq #[.int j t, .int x u] n }) (hb : s.heap.get? b = some { cls := .type "tuple", data := .seq #[.int j' t', .int x' u'] n2 }) (hu : A.units < cLine)
    (h : Q (.bool (ltP (j, x) (j', x'))) s) : wpAny (model prog w) A (richCompare .Lt (.ref l) (.ref b)) Q E s :=
  richCompare_meets_room (op := .Lt) ⟨_, hl, rfl⟩ ⟨_, hb, rfl⟩ F.slot_tuple_lt F.entry_tuple_lt (F.args_tuple_lt_2 _ _) (tup_lt l b j x j' x' t u t' u' n n2)
    ⟨hl, hb, show Value.bool (ltP (j, x) (j', x')) ≠ Value.notImplemented ∧ Q (.bool (ltP (j, x) (j', x'))) s from ⟨(fun x => nomatch x), h⟩⟩ hu

def pairPr (p : Int × Int) : Pr := .raw fun o => ∃ t u n, o = { cls := .type "tuple", data := .seq #[.int p.1 t, .int p.2 u] n }
def minFrom (b : Int × Int) (ps : List (Int × Int)) : Int × Int := ps.foldl (fun b p => if ltP p b then p else b) b

section
variable {prog : Program} {w : World} {A : Around} {E : Value → Shared → Prop} {s : Shared} {X : Addr → Prop} {s₀ : Shared} {os : List (Addr × Pr)} {Fl it S : Addr} {fas : List Addr} {ps : List (Int × Int)} {R : Result → Shared → Prop}

/-- a list of one's own set to what one likes -/
theorem setSeq {vs vs' : List Value} {Q : Unit → Shared → Prop} (O : Own X s₀ s os) (n : Nat) (h0 : os[n]? = some (S, .list vs)) (hsz : vs.length ≤ 1000) (hsz' : vs'.length ≤ 1000)
    (h : ∀ s', Own X s₀ s' (os.set n (S, .list vs')) → Q () s') : wpAny (model prog w) A (updateSeq S (fun _ => vs'.toArray)) Q E s := by
  obtain ⟨ne, ho⟩ := (O.nth n h0).plain
  have hz : sizeLine = 16777216 := rfl
  refine wpAny_updateSeq (o := { cls := .type "list", data := .seq vs.toArray ne }) ho rfl ?_ (by simp; omega) (by simp; omega)
  have k : Kp (· = S) s { s with heap := s.heap.update S (Obj.mapSeq fun _ => vs'.toArray) } := Kp.same (t := s.toks) (Heap.SameBut.update ..)
  exact h _ (O.upd n h0 k ⟨_, Heap.get?_update_self _ ho rfl, _, rfl⟩)

theorem min_loop (hh : A.handled = none) (hu : A.units + 1 < cLine) (hlen : fas.length = ps.length) (hF : ∀ s', Own X s₀ s' os → Has s'.heap Fl (.list (fas.map .ref))) (hP : ∀ (i : Nat) fa p s', fas[i]? = some fa → ps[i]? = some p → Own X s₀ s' os → Has s'.heap fa (pairPr p))
    (p₀ : Int × Int) (hR : ∀ (i : Nat) fa s', fas[i]? = some fa → ps[i]? = some (minFrom p₀ (ps.drop 1)) → Own X s₀ s' os → R (.ok (.ret (.ref fa))) s') :
    ∀ (k i ib : Nat) (fb : Addr) (s : Shared), ps.length - i = k → 1 ≤ i → i ≤ ps.length → fas[ib]? = some fb → ps[ib]? = some (minFrom p₀ ((ps.take i).drop 1)) →
      Own X s₀ s ((it, .iter Fl i) :: (S, .list [.ref fb, .ref fb]) :: os) → codeAny (model prog w) A (.builtin "min.loop" ⟨[.ref it, .none, .ref S], []⟩) R s := by
  have hname : (toString "min" ++ toString ".loop" : String) = "min.loop" := by decide
  intro k
  induction k with
  | zero =>
    intro i ib fb s hk h1 hi hfb hpb O
    have hin : i = ps.length := by omega
    subst hin
    rw [List.take_length] at hpb
    obtain ⟨ne, hS⟩ := (O.nth 1 rfl).plain
    refine codeAny_builtin F.entry_min_loop ?_
    rw [Around.under_plainId F.plain_min_loop _]
    show wpAny _ A.in1 (seqItems? (.ref S) >>= _) _ _ s
    refine wpAny_bind (wpAny_seqItems hS rfl ?_)
    show wpAny _ A.in1 (tryCatch (pyNext (.ref it)) _ >>= _) _ _ s
    refine wpAny_bind (wpAny_tryCatch (nxt_end (A := A.in1) hh O (hF s (O.sub ((List.sublist_cons_self ..).trans (List.sublist_cons_self ..)))) (by simp [hlen]) fun s' O' _ _ => ?_))
    show wpAny _ A.in1 (updateSeq S (fun _ => ([] : List Value).toArray) >>= _) _ _ _
    refine wpAny_bind (setSeq O' 0 rfl (by simp) (by simp) fun s'' O'' => ?_)
    refine wpAny_bind (wpAny_letGo (wpAny_pure ?_))
    exact hR ib fb s'' hfb hpb (O''.sub (List.sublist_cons_self ..))
  | succ k ih =>
    intro i ib fb s hk h1 hi hfb hpb O
    have hlt : i < ps.length := by omega
    obtain ⟨ne, hS⟩ := (O.nth 1 rfl).plain
    have hfi : fas[i]? = some (fas[i]'(by omega)) := List.getElem?_eq_getElem (by omega)
    have hpi : ps[i]? = some ps[i] := List.getElem?_eq_getElem hlt
    have htk : (ps.take (i + 1)).drop 1 = (ps.take i).drop 1 ++ [ps[i]] := by
      rw [List.take_add_one, hpi]
      rw [List.drop_append_of_le_length (by simp; omega)]; rfl
    have hmin : minFrom p₀ ((ps.take (i + 1)).drop 1) = if ltP ps[i] (minFrom p₀ ((ps.take i).drop 1)) then ps[i] else minFrom p₀ ((ps.take i).drop 1) := by
      rw [htk]; unfold minFrom; rw [List.foldl_append]; rfl
    refine codeAny_builtin F.entry_min_loop ?_
    rw [Around.under_plainId F.plain_min_loop _]
    show wpAny _ A.in1 (seqItems? (.ref S) >>= _) _ _ s
    refine wpAny_bind (wpAny_seqItems hS rfl ?_)
    show wpAny _ A.in1 (tryCatch (pyNext (.ref it)) _ >>= _) _ _ s
    refine wpAny_bind (wpAny_tryCatch (nxt (A := A.in1) O 0 rfl (hF s (O.sub ((List.sublist_cons_self ..).trans (List.sublist_cons_self ..)))) (v := .ref (fas[i]'(by omega))) (by simp [hfi]) fun s' O' _ _ => ?_))
    have Oos := O'.sub ((List.sublist_cons_self ..).trans (List.sublist_cons_self ..))
    obtain ⟨o1, g1, t1, u1, n1, rfl⟩ := hP i _ _ s' hfi hpi Oos
    obtain ⟨o2, g2, t2, u2, n2, rfl⟩ := hP ib _ _ s' hfb hpb Oos
    show wpAny _ A.in1 (tryCatch (holding [.ref (fas[i]'(by omega)), .ref (fas[i]'(by omega))] (richCompare .Lt (.ref (fas[i]'(by omega))) (.ref fb) >>= _)) _ >>= _) _ _ _
    refine wpAny_bind (wpAny_tryCatch (wpAny_holding (wpAny_bind (rc_pair g1 g2 hu ?_))))
    refine wpAny_bind (wpAny_holding (wpAny_truthy_bool ?_))
    refine wpAny_bind (wpAny_letGo (wpAny_pure ?_))
    cases hb : ltP ps[i] (minFrom p₀ ((ps.take i).drop 1)) with
    | true =>
      rw [hb] at hmin
      simp only [if_true] at hmin ⊢
      refine wpAny_bind (setSeq (vs' := [.ref (fas[i]'(by omega)), .ref (fas[i]'(by omega))]) O' 1 rfl (by simp) (by simp) fun s'' O'' => ?_)
      refine wpAny_bind (wpAny_letGo ?_)
      rw [hname]
      exact wpAny_pure ⟨plainId_quiet F.plain_min_loop _, ih (i + 1) i _ s'' (by omega) (by omega) hlt hfi (by rw [hmin]; exact hpi) O''⟩
    | false =>
      rw [hb] at hmin
      simp only [Bool.false_eq_true, if_false] at hmin ⊢
      refine wpAny_bind (wpAny_letGo ?_)
      rw [hname]
      exact wpAny_pure ⟨plainId_quiet F.plain_min_loop _, ih (i + 1) ib fb s' (by omega) (by omega) hlt hfb (by rw [hmin]; exact hpb) O'⟩

theorem min_first {p₀ : Int × Int} {pr : List (Int × Int)} (hh : A.handled = none) (hu : A.units + 1 < cLine) (hps : ps = p₀ :: pr) (hlen : fas.length = ps.length) (hF : ∀ s', Own X s₀ s' os → Has s'.heap Fl (.list (fas.map .ref)))
    (hP : ∀ (i : Nat) fa p s', fas[i]? = some fa → ps[i]? = some p → Own X s₀ s' os → Has s'.heap fa (pairPr p))
    (hR : ∀ (i : Nat) fa s', fas[i]? = some fa → ps[i]? = some (minFrom p₀ pr) → Own X s₀ s' os → R (.ok (.ret (.ref fa))) s')
    (O : Own X s₀ s ((it, .iter Fl 0) :: (S, .list []) :: os)) : codeAny (model prog w) A (.builtin "min.loop" ⟨[.ref it, .none, .ref S], []⟩) R s := by
  have hname : (toString "min" ++ toString ".loop" : String) = "min.loop" := by decide
  obtain ⟨ne, hS⟩ := (O.nth 1 rfl).plain
  have hl0 : 0 < fas.length := by rw [hlen, hps]; simp
  have hp0 : ps[0]? = some p₀ := by rw [hps]; rfl
  refine codeAny_builtin F.entry_min_loop ?_
  rw [Around.under_plainId F.plain_min_loop _]
  show wpAny _ A.in1 (seqItems? (.ref S) >>= _) _ _ s
  refine wpAny_bind (wpAny_seqItems hS rfl ?_)
  show wpAny _ A.in1 (tryCatch (pyNext (.ref it)) _ >>= _) _ _ s
  refine wpAny_bind (wpAny_tryCatch (nxt (A := A.in1) O 0 rfl (hF s (O.sub ((List.sublist_cons_self ..).trans (List.sublist_cons_self ..)))) (v := .ref fas[0]) (by simp [List.getElem?_eq_getElem hl0]) fun s' O' _ _ => ?_))
  show wpAny _ A.in1 (updateSeq S (fun _ => [Value.ref fas[0], Value.ref fas[0]].toArray) >>= _) _ _ _
  refine wpAny_bind (setSeq O' 1 rfl (by simp) (by simp) fun s'' O'' => ?_)
  rw [hname]
  refine wpAny_pure ⟨plainId_quiet F.plain_min_loop _, ?_⟩
  refine min_loop hh hu hlen hF hP p₀ (fun i fa s' a b c => hR i fa s' a (by rw [b, hps]; rfl) c) _ 1 0 fas[0] s'' rfl (Nat.le_refl _) (by rw [hps]; simp) (List.getElem?_eq_getElem hl0) ?_ O''
  rw [hps]; rfl

theorem call_min {Q : Value → Shared → Prop} {p₀ : Int × Int} {pr : List (Int × Int)} (hh : A.handled = none) (hu : A.units + 1 < cLine) (O : Own X s₀ s os) (hps : ps = p₀ :: pr) (hlen : fas.length = ps.length) (hF : ∀ s', Own X s₀ s' os → Has s'.heap Fl (.list (fas.map .ref)))
    (hP : ∀ (i : Nat) fa p s', fas[i]? = some fa → ps[i]? = some p → Own X s₀ s' os → Has s'.heap fa (pairPr p))
    (hR : ∀ (i : Nat) fa s', fas[i]? = some fa → ps[i]? = some (minFrom p₀ pr) → Own X s₀ s' os → Q (.ref fa) s') :
    wpAny (model prog w) A (call (.builtin "min") [.ref Fl]) Q E s := by
  have hname : (toString "min" ++ toString ".loop" : String) = "min.loop" := by decide
  refine call_function_tree F.kind_min F.plain_min F.entry_min (F.args_min1 _) ?_
  show wpAny _ A.in1 (Builtin.Builtins.bindParams "min" ["key", "default"] 0 ⟨[], []⟩ >>= _) _ _ s
  refine wpAny_bind (wpAny_of_eq (show Builtin.Builtins.bindParams "min" ["key", "default"] 0 ⟨[], []⟩ = pure [none, none] from rfl) ?_)
  refine wpAny_bind (wpAny_pure ?_)
  refine wpAny_bind (wpAny_pyIter_list (hF s O).isList ?_)
  have O1 := O.push { cls := .type "list_iterator", data := .fields #[.ref Fl, .int 0 0] } (.iter Fl 0) ⟨rfl, rfl⟩ s.toks
  refine wpAny_bind (wpAny_newObj_type ?_ (by size_fits))
  have O2 := O1.push { cls := .type "list", data := .seq ([] : List Value).toArray } (.list []) ⟨0, rfl⟩ s.toks
  rw [hname]
  refine wpAny_pure ⟨plainId_quiet F.plain_min_loop _, ?_⟩
  refine min_first hh hu hps hlen hF hP (fun i fa s' a b c => hR i fa s' a b c) (O2.pick 2 [1, 0])
end
end Mine

namespace Mine
section
variable {prog : Program} {w : World} {A : Around} {E : Value → Shared → Prop} {s : Shared} {env : Env} {mg mb : Str → Option Value} {g : Heap}

/-- a range's iterator that stands at i of n -/
def rngPr (n i : Nat) : Pr := .raw fun o => o = { cls := .type "range_iterator", dict := none, data := .fields #[rawInt i, rawInt ((n : Int) - i), rawInt 1], slots := #[] }

theorem rnext {X : Addr → Prop} {s₀ : Shared} {os : List (Addr × Pr)} {it : Addr} {n i : Nat} {Q : Option Value → Shared → Prop} (O : Own X s₀ s ((it, rngPr n i) :: os)) (hi : i < n)
    (h : ∀ t s', Own X s₀ s' ((it, rngPr n (i + 1)) :: os) → Q (some (.int i t)) s') : wpAny (model prog w) A (pyNext (.ref it)) Q E s := by
  obtain ⟨o, ho, e⟩ := O.nth 0 rfl
  have e' : o = _ := e
  subst e'
  refine wpAny_pyNext_range_item (x := i) (left := (n : Int) - i) (step := 1) ho (by omega) fun h' hit hs => ?_
  refine h _ _ (O.upd 0 rfl (Kp.same hs _) ⟨_, hit, ?_⟩)
  show _ = _
  have e1 : ((i : Int) + 1) = ((i + 1 : Nat) : Int) := by omega
  have e2 : ((n : Int) - i - 1) = (n : Int) - ((i + 1 : Nat) : Int) := by omega
  rw [e1, e2]
theorem rend {X : Addr → Prop} {s₀ : Shared} {os : List (Addr × Pr)} {it : Addr} {n : Nat} {Q : Option Value → Shared → Prop} (hh : A.handled = none) (O : Own X s₀ s ((it, rngPr n n) :: os))
    (h : ∀ s', Own X s₀ s' os → Q none s') : wpAny (model prog w) A (pyNext (.ref it)) Q E s := by
  obtain ⟨o, ho, e⟩ := O.nth 0 rfl
  have e' : o = _ := e
  subst e'
  exact wpAny_pyNext_range_end (x := n) (left := (n : Int) - n) (step := 1) hh ho (by omega) fun h' hs => h _ (own_but O (Kp.ext (t := s.toks) hs))
theorem rself {X : Addr → Prop} {s₀ : Shared} {os : List (Addr × Pr)} {it : Addr} {n i : Nat} {Q : Value → Shared → Prop} (O : Own X s₀ s ((it, rngPr n i) :: os)) (h : Q (.ref it) s) : wpAny (model prog w) A (pyIter (.ref it)) Q E s := by
  obtain ⟨o, ho, e⟩ := O.nth 0 rfl
  have e' : o = _ := e
  subst e'
  exact wpAny_pyIter_rangeiter ho h

/-- the range of n, made -/
def rangePr (n : Nat) : Pr := .raw fun o => ∃ t u v, o = { cls := .type "range", dict := none, data := .fields #[.int 0 t, .int n u, .int 1 v], slots := #[] }
theorem riter {X : Addr → Prop} {s₀ : Shared} {os : List (Addr × Pr)} {r : Addr} {n : Nat} {Q : Value → Shared → Prop} (O : Own X s₀ s os) (hr : Has s.heap r (rangePr n)) (hn : n < 1000000)
    (h : ∀ it s', Own X s₀ s' ((it, rngPr n 0) :: os) → Q (.ref it) s') : wpAny (model prog w) A (pyIter (.ref r)) Q E s := by
  obtain ⟨o, ho, t, u, v, rfl⟩ := hr
  refine wpAny_pyIter_range (a := 0) (b := n) (c := 1) ho (small_one (by decide) (by decide) (by omega) (by omega)) ?_
  refine h _ _ (O.push _ (rngPr n 0) ?_ s.toks)
  show _ = _
  have e : Builtin.Range.rangeSize 0 n 1 = (n : Int) - ((0 : Nat) : Int) := by rw [rangeSize_one]; split <;> omega
  rw [e]; rfl
/-- range(k) -/
theorem call_rng {X : Addr → Prop} {s₀ : Shared} {os : List (Addr × Pr)} {n : Nat} {t : Tok} {Q : Value → Shared → Prop} (O : Own X s₀ s os) (h : ∀ r s', Own X s₀ s' ((r, rangePr n) :: os) → Q (.ref r) s') :
    wpAny (model prog w) A (call (.type "range") [.int (n : Int) t]) Q E s :=
  call_range_1 (h _ _ (O.push _ (rangePr n) ⟨_, _, _, rfl⟩ (s.toks + 1 + 1)))

theorem For_rng {X : Addr → Prop} {s₀ : Shared} {x : Str} {px pos : Pos} {iter : PySem.Expr} {body orelse : List Stmt} {Q : Flow → Shared → Prop}
    (h : wpAny (model prog w) A (eval iter env) (fun v s₁ => ∃ r n os, v = .ref r ∧ Own X s₀ s₁ os ∧ Has s₁.heap r (rangePr n) ∧ n < 1000000 ∧ ∃ J : Nat → List (Addr × Pr) → Prop, A.handled = none ∧ J 0 os ∧
      (∀ i t it os' s', i < n → J i os' → Own X s₀ s' ((it, rngPr n (i + 1)) :: os') → ∀ E', wpAny (model prog w) A (storeName env x (.int (i : Int) t)) (fun _ s₂ => wpAny (model prog w) A (execs body env) (fun f s₃ => match f with
        | .next | .cont => ∃ os'', J (i + 1) os'' ∧ Own X s₀ s₃ ((it, rngPr n (i + 1)) :: os'')
        | .brk => Q .next s₃
        | .ret v => Q (.ret v) s₃) E' s₂) E' s') ∧
      (∀ os' s', J n os' → Own X s₀ s' os' → ∀ E', wpAny (model prog w) A (execs orelse env) Q E' s')) E s)
    (hs : ∀ x, foldedSetIterable iter env x = pure x := by intro _; rfl) :
    wpAny (model prog w) A (exec (.For (.Name x px) iter body orelse pos) env) Q E s := by
  refine wpAny_For (wpAny_mono h (fun v s₁ h₁ => ?_) fun _ _ e => e) hs
  obtain ⟨r, n, os, rfl, O, hr, hn, J, hh, hJ, turn, done⟩ := h₁
  refine riter O hr hn fun it s₂ O1 => ?_
  refine codeAny_forLoop (fun k s' => ∃ i os', k = n - i ∧ i ≤ n ∧ J i os' ∧ Own X s₀ s' ((it, rngPr n i) :: os')) (fun k s' hI => ?_) (n - 0) ⟨0, os, rfl, Nat.zero_le _, hJ, O1⟩
  obtain ⟨i, os', rfl, hi, hJi, Oi⟩ := hI
  by_cases hlt : i < n
  · refine rnext Oi hlt fun t s'' O'' => ?_
    dsimp only
    refine wpAny_assign_Name (wpAny_mono (turn i t it os' s'' hlt hJi O'' _) (fun _ s₂ h₂ => wpAny_mono h₂ (fun f s₃ h₃ => ?_) fun _ _ e => e) fun _ _ e => e)
    cases f with
    | next => obtain ⟨os'', a, b⟩ := h₃; exact ⟨n - (i + 1), by omega, i + 1, os'', rfl, by omega, a, b⟩
    | cont => obtain ⟨os'', a, b⟩ := h₃; exact ⟨n - (i + 1), by omega, i + 1, os'', rfl, by omega, a, b⟩
    | brk => exact h₃
    | ret v => exact h₃
  · have e : i = n := by omega
    subst e
    refine rend hh Oi fun s'' O'' => ?_
    dsimp only
    exact done os' s'' hJi O'' _

/-- a clause over a range -/
theorem cloop_rng {X : Addr → Prop} {s₀ : Shared} {os : List (Addr × Pr)} {r : Addr} {n : Nat} {elt : PySem.Expr} {gens : List Comprehension} {scope : Scope} {pos : Pos} {d : Nat} {acc : Value} {x : Str} {px : Pos} {iter : PySem.Expr}
    {ifs : List PySem.Expr} {R : Result → Shared → Prop} (J : Nat → List (Addr × Pr) → Prop)
    (hg : gens[d]? = some ⟨.Name x px, iter, ifs, 0⟩) (hg' : ∀ g' ∈ gens, g'.is_async = 0)
    (hh : A.handled = none) (O : Own X s₀ s os) (hr : Has s.heap r (rangePr n)) (hn : n < 1000000) (hJ : J 0 os)
    (turn : ∀ i t it os' s', i < n → J i os' → Own X s₀ s' ((it, rngPr n (i + 1)) :: os') → ∀ E', wpAny (model prog w) A (storeName env x (.int (i : Int) t)) (fun _ s₂ => wpAny (model prog w) A (tests ifs env) (fun ok s₃ => if ok = true
        then wpAny (model prog w) A (emits elt gens (.ListComp elt gens scope pos) d acc env) (fun _ s₄ => ∃ os'', J (i + 1) os'' ∧ Own X s₀ s₄ ((it, rngPr n (i + 1)) :: os'')) E' s₃
        else ∃ os'', J (i + 1) os'' ∧ Own X s₀ s₃ ((it, rngPr n (i + 1)) :: os'')) E' s₂) E' s')
    (done : ∀ os' s', J n os' → Own X s₀ s' os' → R (.ok .next) s') :
    wpAny (model prog w) A (pyIter (.ref r)) (fun it s₂ => codeAny (model prog w) A (.compStart (.ListComp elt gens scope pos) d it acc env) R s₂) E s := by
  refine riter O hr hn fun it s₁ O1 => ?_
  have loop : ∀ s₂, Own X s₀ s₂ ((it, rngPr n 0) :: os) → codeAny (model prog w) A (.compLoop (.ListComp elt gens scope pos) d (.ref it) acc env) R s₂ := by
    intro s₂ O2
    refine codeAny_loop rfl (fun k s' => ∃ i os', k = n - i ∧ i ≤ n ∧ J i os' ∧ Own X s₀ s' ((it, rngPr n i) :: os')) (fun k s' hI => ?_) (n - 0) ⟨0, os, rfl, Nat.zero_le _, hJ, O2⟩
    obtain ⟨i, os', rfl, hi, hJi, Oi⟩ := hI
    show wpAny _ _ ((compTurn (.ListComp elt gens scope pos) d (.ref it) acc env).onRaise (fun x => do noteFrame x env; theTreesLotGoes x)) _ _ s'
    refine wpAny_noted ?_
    refine compTurn_wp hg hg' ?_
    by_cases hlt : i < n
    · refine rnext Oi hlt fun t s'' O'' => ?_
      dsimp only
      refine wpAny_mono (turn i t it os' s'' hlt hJi O'' _) (fun _ s₂ h₂ => wpAny_mono h₂ (fun ok s₃ h₃ => ?_) fun _ _ e => e) fun _ _ e => e
      cases ok with
      | false =>
        obtain ⟨os'', a, b⟩ := h₃
        exact ⟨rfl, n - (i + 1), by omega, i + 1, os'', rfl, by omega, a, b⟩
      | true =>
        refine wpAny_mono h₃ (fun _ s₄ h₄ => ?_) fun _ _ e => e
        obtain ⟨os'', a, b⟩ := h₄
        exact ⟨rfl, n - (i + 1), by omega, i + 1, os'', rfl, by omega, a, b⟩
    · have e : i = n := by omega
      subst e
      refine rend hh Oi fun s'' O'' => ?_
      dsimp only
      exact done os' s'' hJi O''
  refine codeAny_of_tree ?_
  show wpAny _ _ ((compStart (.ListComp elt gens scope pos) d (.ref it) acc env).onRaise (fun x => do noteFrame x env; standAt theWindowsPlace)) _ _ s₁
  refine wpAny_notedAt ?_
  unfold compStart
  have hcl : (clausesOf (.ListComp elt gens scope pos))[d]? = some ⟨.Name x px, iter, ifs, 0⟩ := hg
  simp only [hcl, Option.elim, bne_self_eq_false, Bool.false_eq_true, if_false]
  refine wpAny_bind (wpAny_askSetting ?_)
  split
  · exact wpAny_pure (And.intro rfl (loop _ O1))
  · refine wpAny_bind (wpAny_rule (wpAny_bind (wpAny_standAt (wpAny_bind (rself O1 (wpAny_pure (And.intro rfl (loop _ O1))))))))

/-- a call of a def some of whose names are cells -/
theorem call_fnC {n : Nat} {a : Addr} {vals : List Value} {binds : List (Str × Value)} {Q : Value → Shared → Prop} (G : GF mg mb g) (hg : Sub g s.heap) (F : FnAt mg g n a) (hroom : A.depth < recursionLimit)
    (hbind : ∀ pm cd doc, bindArgs (defFd n pm cd doc) ⟨vals, []⟩ = pure binds)
    (hkind : ∀ x ∈ binds, (defAt n).scope.names.lookup x.1 = some .local ∨ ((defAt n).scope.names.lookup x.1 = some .cell ∧ ((cellsFrom (s.heap.objs.size + 1) (defAt n).scope.names []).lookup x.1).isSome = true))
    (h : ∀ env s₁, EnvG env → env.scope = (defAt n).scope → env.locals = s.heap.objs.size → env.cells = cellsFrom (s.heap.objs.size + 1) (defAt n).scope.names [] → env.frame = some env.locals → (∃ pm cd doc, env.code = cd ∧ g.CodeRec cd (defAt n).name ∧ ∃ o, g.get? a = some o ∧ o.data = .func (defFd n pm cd doc)) →
      InCallC s env.locals (bindL env.kindOf binds fun _ => none) env.cells (bindC env.kindOf binds fun _ => none) s₁ →
      wpAny (model prog w) (A.deeper env) (execs (defAt n).body env) (fun f s' => Q (match f with | .ret v => v | _ => .none) s')
        (fun e s' => wpAny (model prog w) (A.deeper env) (leaving env e) (fun _ s'' => E e s'') (fun e' s'' => E e' s'') s') s₁)
    (hco : (defAt n).scope.isCoroutine = false := by rfl) (hgen : (defAt n).scope.isGenerator = false := by rfl) (hk : (defAt n).scope.kind = .function := by rfl) :
    wpAny (model prog w) A (call (.ref a) vals) Q E s := by
  obtain ⟨_, o, pm, cd, doc, ho, hd, hcd⟩ := F
  refine wpAny_call (codeAny_call_cells (fd := defFd n pm cd doc) hroom (hg _ _ ho) hd (G.lim.keeps hg) (hcd.keeps hg) rfl (hbind pm cd doc) rfl hkind (fun s₁ x => ?_) hco hgen hk)
  exact h (callEnvC (defFd n pm cd doc) s.heap.objs.size a) s₁ ⟨hk, rfl, rfl⟩ rfl rfl rfl rfl ⟨pm, cd, doc, rfl, hcd, o, ho, hd⟩ x
end
end Mine

namespace Mine

def aheadIn (row : List Int) (x : Int) : List Int := (List.range row.length).flatMap fun k => if row[k]? = some x then row.take k else []
def aheadOf (rows : List (List Int)) (x : Int) : List Int := rows.flatMap fun row => aheadIn row x
def isFree (rows : List (List Int)) (told : List Int) (x : Int) : Bool := !(told.any (· == x)) && decide ((aheadOf rows x).filter (fun y => !(told.any (· == y))) = [])
def freeIn (rows : List (List Int)) (told : List Int) (j : Nat) (xs : List Int) : List (Int × Int) := (xs.filter (isFree rows told)).map fun x => ((j : Int), x)
def freeOf (rows : List (List Int)) (told : List Int) (n : Nat) : List (Int × Int) := (List.range n).flatMap fun j => freeIn rows told j (rows.getD j [])
def minOf : List (Int × Int) → Int × Int
  | [] => (0, 0)
  | p :: ps => minFrom p ps
inductive ComingR (rows : List (List Int)) : List Int → Prop
  | nil : ComingR rows []
  | step {told} : ComingR rows told → freeOf rows told rows.length ≠ [] → ComingR rows (told ++ [(minOf (freeOf rows told rows.length)).2])

def zipQ (fas : List Addr) (ps : List (Int × Int)) : List (Addr × Pr) := List.zipWith (fun b p => (b, pairPr p)) fas ps
theorem zipQ_snoc : ∀ {fas : List Addr} {ps : List (Int × Int)} (a : Addr) (p : Int × Int), fas.length = ps.length → zipQ (fas ++ [a]) (ps ++ [p]) = zipQ fas ps ++ [(a, pairPr p)]
  | [], [], _, _, _ => rfl
  | b :: fas, q :: ps, a, p, h => by
    show (b, pairPr q) :: zipQ (fas ++ [a]) (ps ++ [p]) = (b, pairPr q) :: (zipQ fas ps ++ [(a, pairPr p)])
    rw [zipQ_snoc a p (by simpa using h)]
theorem mem_zipQ : ∀ {fas : List Addr} {ps : List (Int × Int)} {i : Nat} {fa : Addr} {p : Int × Int}, fas[i]? = some fa → ps[i]? = some p → (fa, pairPr p) ∈ zipQ fas ps
  | a :: fas, q :: ps, 0, _, _, h1, h2 => by
    cases h1; cases h2; exact List.mem_cons_self ..
  | a :: fas, q :: ps, i + 1, _, _, h1, h2 => List.mem_cons_of_mem _ (mem_zipQ (i := i) (by simpa using h1) (by simpa using h2))
  | [], _, _, _, _, h1, _ => by simp at h1
  | _ :: _, [], _, _, _, _, h2 => by simp at h2

theorem flatMap_len {α β : Type} (f : α → List β) (B : Nat) : ∀ l : List α, (∀ a ∈ l, (f a).length ≤ B) → (l.flatMap f).length ≤ l.length * B
  | [], _ => by simp
  | a :: l, h => by
    have := flatMap_len f B l fun b hb => h b (List.mem_cons_of_mem _ hb)
    have h1 := h a (List.mem_cons_self ..)
    simp only [List.flatMap_cons, List.length_append, List.length_cons, Nat.succ_mul]
    omega
theorem aheadIn_len (row : List Int) (x : Int) (k : Nat) (h : row.length ≤ 20) (hk : k ≤ 20) : ((List.range k).flatMap fun k => if row[k]? = some x then row.take k else []).length ≤ 400 := by
  have := flatMap_len (fun k => if row[k]? = some x then row.take k else []) 20 (List.range k) (fun a _ => by split <;> simp <;> omega)
  simp only [List.length_range] at this
  have h2 : k * 20 ≤ 20 * 20 := Nat.mul_le_mul_right _ hk
  omega

section
variable {prog : Program} {w : World} {A : Around} {E : Value → Shared → Prop} {s : Shared} {env : Env} {mg mb : Str → Option Value} {g : Heap}

theorem ownC {L : Addr} {m cm : Str → Option Value} {cs : List (Str × Addr)} {s₁ : Shared} (x : InCallC s L m cs cm s₁) (hL : L = s.heap.objs.size) (names : List (Str × Addr)) (hn : ∀ p ∈ names, cs.lookup p.1 = some p.2) (hd : (names.map (·.2)).Nodup) :
    Own No s s₁ ((L, .ns m) :: names.map fun p => (p.2, .cell (cm p.1))) := by
  obtain ⟨h₁, tk, rfl⟩ := x.toInCall.same
  have habove : ∀ p ∈ names, L < p.2 := fun p hp => x.above p.1 p.2 (mem_of_lookup (hn p hp))
  refine ⟨Kp.all x.toInCall.keep tk, ?_, fun q hq => .inr (fresh_ge _ ?_), fun q hq => ?_⟩
  · simp only [List.map_cons, List.map_map]
    refine List.nodup_cons.mpr ⟨fun hm => ?_, by simpa [Function.comp_def] using hd⟩
    obtain ⟨p, hp, e⟩ := List.mem_map.mp hm
    exact absurd (habove p hp) (by rw [show p.2 = L from e]; exact Nat.lt_irrefl _)
  · rcases List.mem_cons.mp hq with rfl | hq
    · exact Nat.le_of_eq hL.symm
    · obtain ⟨p, hp, rfl⟩ := List.mem_map.mp hq
      exact hL ▸ Nat.le_of_lt (habove p hp)
  · rcases List.mem_cons.mp hq with rfl | hq
    · exact Has.of_ns x.toInCall.ns
    · obtain ⟨p, hp, rfl⟩ := List.mem_map.mp hq
      exact Has.of_cell (x.cell p.1 p.2 (hn p hp))

theorem closure_one {scope : Scope} {x : Str} {c : Addr} (hc : env.cells.lookup x = some c) (h : scope.names.filter (fun p => p.2 == .free) = [(x, .free)]) : closureFor scope env = pure [(x, c)] := by
  have key : ∀ (l : List (Str × NameKind)) (acc : List (Str × Addr)), (forIn l acc fun p r => if p.2 == NameKind.free then do let a ← cellOf env p.1; pure (ForInStep.yield ((p.1, a) :: r)) else pure (ForInStep.yield r) : Sem (List (Str × Addr))) =
      (forIn (l.filter (fun p => p.2 == .free)) acc fun p r => if p.2 == NameKind.free then do let a ← cellOf env p.1; pure (ForInStep.yield ((p.1, a) :: r)) else pure (ForInStep.yield r)) := by
    intro l
    induction l with
    | nil => intro acc; rfl
    | cons p l ih =>
      intro acc
      rw [List.filter_cons]
      cases hp : (p.2 == NameKind.free) with
      | false =>
        simp only [List.forIn_cons, hp, Bool.false_eq_true, if_false]
        show (Sem.bind (Sem.pure _) _) = _
        exact ih acc
      | true =>
        simp only [List.forIn_cons, hp, if_true]
        refine congrArg _ (funext fun r => ?_)
        cases r with
        | done b => rfl
        | yield b => exact ih b
  unfold closureFor
  show Sem.bind (forIn scope.names [] _) _ = _
  have := key scope.names []
  rw [h] at this
  refine (congrArg (fun t => Sem.bind t _) this).trans ?_
  simp only [List.forIn_cons, List.forIn_nil, cellOf, hc]
  rfl

theorem swaps_true {elt : PySem.Expr} {gens : List Comprehension} {scope : Scope} {pos py : Pos} {y : Str} {l : Nat} (hE : EnvG env) (hl : env.kindOf y = some .local) (hp : (py.line == pos.line) = true := by rfl)
    (hn : (scope.names.any fun (n, k) => n == y && (k == .local || k == .cell)) = false := by rfl) : swapsWith (.ListComp elt gens scope pos) (some (.Name y py)) l env = pure true := by
  have hb : env.blockKind = .function := by unfold Env.blockKind; rw [hE.kind]; rfl
  unfold swapsWith
  show (pure (env.blockKind == .function && env.kindOf y == some .local && py.line == pos.line && !(scope.names.any fun (n, k) => n == y && (k == .local || k == .cell))) : Sem Bool) = pure true
  rw [hb, hl, hp, hn]; rfl
end
end Mine

namespace Mine
section
variable {prog : Program} {w : World} {A : Around} {E : Value → Shared → Prop} {s : Shared} {env : Env} {mg mb : Str → Option Value} {g : Heap}

/-- rows: a list of lists of ints -/
structure RowsAt (h : Heap) (R : Addr) (ads : List Addr) (rows : List (List Int)) : Prop where
  top : Has h R (.list (ads.map .ref))
  len : ads.length = rows.length
  row : ∀ (i : Nat) ad xs, ads[i]? = some ad → rows[i]? = some xs → Has h ad (.ints xs)

def small (rows : List (List Int)) : Prop := rows.length ≤ 20 ∧ ∀ r ∈ rows, r.length ≤ 20

def left (rows : List (List Int)) (told : List Int) : Nat := (rows.flatten.filter fun y => !(told.any (· == y))).length

theorem minFrom_mem : ∀ (ps : List (Int × Int)) (p : Int × Int), minFrom p ps ∈ p :: ps
  | [], p => List.mem_cons_self ..
  | q :: ps, p => by
    show minFrom (if ltP q p then q else p) ps ∈ _
    have := minFrom_mem ps (if ltP q p then q else p)
    rcases List.mem_cons.mp this with h | h
    · rw [h]; split
      · exact List.mem_cons_of_mem _ (List.mem_cons_self ..)
      · exact List.mem_cons_self ..
    · exact List.mem_cons_of_mem _ (List.mem_cons_of_mem _ h)
theorem free_mem {rows : List (List Int)} {told : List Int} {p : Int × Int} (h : p ∈ freeOf rows told rows.length) : ∃ j : Nat, ∃ hj : j < rows.length, p.1 = j ∧ p.2 ∈ rows[j] ∧ isFree rows told p.2 = true := by
  obtain ⟨j, hj, hp⟩ := List.mem_flatMap.mp h
  have hjl := List.mem_range.mp hj
  obtain ⟨x, hx, rfl⟩ := List.mem_map.mp hp
  obtain ⟨hx1, hx2⟩ := List.mem_filter.mp hx
  rw [List.getD_eq_getElem?_getD, List.getElem?_eq_getElem hjl] at hx1
  exact ⟨j, hjl, rfl, hx1, hx2⟩
theorem left_lt {rows : List (List Int)} {told : List Int} {x : Int} (hx : x ∈ rows.flatten) (hn : told.any (· == x) = false) : left rows (told ++ [x]) < left rows told := by
  unfold left
  have e : rows.flatten.filter (fun y => !((told ++ [x]).any (· == y))) = (rows.flatten.filter fun y => !(told.any (· == y))).filter (fun y => !(x == y)) := by
    rw [List.filter_filter]
    apply List.filter_congr
    intro y _
    simp only [List.any_append, List.any_cons, List.any_nil, Bool.or_false, Bool.not_or]
    rw [Bool.and_comm]
  rw [e]
  have hm : x ∈ rows.flatten.filter (fun y => !(told.any (· == y))) := List.mem_filter.mpr ⟨hx, by rw [hn]; rfl⟩
  exact List.length_filter_lt_length_iff_exists.mpr ⟨x, hm, by simp⟩

theorem coming_len {rows : List (List Int)} {told : List Int} (hsm : small rows) (hc : ComingR rows told) : told.length ≤ 400 := by
  have key : told.length + left rows told ≤ rows.flatten.length := by
    induction hc with
    | nil => unfold left; have := List.length_filter_le (fun y => !([] : List Int).any (· == y)) rows.flatten; simp only [List.length_nil]; omega
    | @step told hc hne ih =>
      obtain ⟨p₀, pr, hps⟩ : ∃ p₀ pr, freeOf rows told rows.length = p₀ :: pr := by
        cases h : freeOf rows told rows.length with
        | nil => exact absurd h hne
        | cons p q => exact ⟨p, q, rfl⟩
      have hmem : minFrom p₀ pr ∈ freeOf rows told rows.length := by rw [hps]; exact minFrom_mem ..
      obtain ⟨jm, hjm, _, hxm, hfm⟩ := free_mem hmem
      have hnt : told.any (· == (minFrom p₀ pr).2) = false := by
        unfold isFree at hfm
        have := (Bool.and_eq_true_iff.mp hfm).1
        simpa using this
      have := left_lt (List.mem_flatten.mpr ⟨_, List.getElem_mem hjm, hxm⟩) hnt
      have e : minOf (freeOf rows told rows.length) = minFrom p₀ pr := by rw [hps]; rfl
      rw [e, List.length_append]
      simp only [List.length_cons, List.length_nil]
      omega
  have h2 : rows.flatten.length ≤ 400 := by
    have := flatMap_len (fun r : List Int => r) 20 rows hsm.2
    have h3 : rows.length * 20 ≤ 20 * 20 := Nat.mul_le_mul_right _ hsm.1
    have e : rows.flatMap (fun r : List Int => r) = rows.flatten := by simp [List.flatMap]
    rw [e] at this
    omega
  omega

theorem coming_spec {a R : Addr} {ads : List Addr} {rows : List (List Int)} (G : GF mg mb g) (hg : Sub g s.heap) (F : FnAt mg g 9 a) (hd : A.depth < 990) (hh : A.handled = none) (hu : A.units < 9000)
    (hR : RowsAt s.heap R ads rows) (hsm : small rows) :
    wpAny (model prog w) A (call (.ref a) [.ref R]) (fun v s' => ∃ T due, v = .ref T ∧ Own No s s' [(T, .ints due)] ∧ ComingR rows due ∧ freeOf rows due rows.length = []) E s := by
  refine call_fnC (binds := [(Str.ofString "rows", .ref R)]) G hg F (by show A.depth < 1000; omega) (fun _ _ _ => rfl) (fun x hx => by rcases List.mem_singleton.mp hx with rfl; exact .inl rfl) ?_
  intro env s₁ hE hs hL hcs _ _ x
  generalize hA : A.deeper env = A'
  have hh' : A'.handled = none := by rw [← hA]; exact hh
  have hu' : A'.units < 9003 := by rw [← hA]; show A.units + 3 < 9003; omega
  obtain ⟨ct, hct⟩ : ∃ ct, env.cells.lookup (Str.ofString "told") = some ct := ⟨_, by rw [hcs]; rfl⟩
  obtain ⟨cx, hcx⟩ : ∃ cx, env.cells.lookup (Str.ofString "x") = some cx := ⟨_, by rw [hcs]; rfl⟩
  have hne : ct ≠ cx := by
    rw [hcs] at hct hcx
    have h1 : some (s.heap.objs.size + 1) = some ct := hct
    have h2 : some (s.heap.objs.size + 1 + 1) = some cx := hcx
    cases h1; cases h2; exact Nat.ne_of_lt (Nat.lt_succ_self _)
  have O0 : Own No s s₁ ((env.locals, .ns (bindL env.kindOf [(Str.ofString "rows", .ref R)] fun _ => none)) :: [((Str.ofString "told"), ct), ((Str.ofString "x"), cx)].map fun p => (p.2, .cell ((bindC env.kindOf [(Str.ofString "rows", .ref R)] fun _ => none) p.1))) :=
    ownC x hL _ (by intro p hp; rcases List.mem_cons.mp hp with rfl | hp; exact hct; rcases List.mem_singleton.mp hp with rfl; exact hcx) (by simp [hne])
  have hk : env.kindOf (Str.ofString "rows") = some .local := kind_of hs rfl
  have hb : (bindL env.kindOf [(Str.ofString "rows", Value.ref R)] fun _ => none) = up (fun _ => none) (Str.ofString "rows") (.ref R) := by
    unfold bindL bindL; rw [if_pos hk]; rfl
  rw [hb] at O0
  conv => arg 3; arg 1; whnf
  refine wpAny_execs_cons (wpAny_Assign_Name (wpAny_List (wpAny_items_nil ⟨by decide, ?_⟩)))
  have O1 := O0.push { cls := .type "list", data := .seq ([] : List Value).toArray } (.ints []) ⟨[], 0, .nil, rfl⟩ s₁.toks
  refine stC O1 2 rfl hE (kind_of hs rfl) hct fun s₂ O2 _ _ => ?_
  generalize s₁.heap.objs.size = T at O2
  have O3 := O2.pick 4 [1, 2, 3, 0]
  clear O0 O1 O2
  have hs20 : sizeLine = 16777216 := rfl
  have hRsz : (ads.map Value.ref).toArray.size = rows.length := by simp [hR.len]
  refine wpAny_execs_cons (wpAny_While (codeAny_whileLoop (fun n s' => ∃ told m xo, Own No s s' [(env.locals, .ns m), (ct, .cell (some (.ref T))), (cx, .cell xo), (T, .ints told)] ∧ m (Str.ofString "rows") = some (.ref R) ∧ ComingR rows told ∧ n = left rows told) (fun n s' hI => ?_) (left rows []) ⟨[], _, _, O3, rfl, .nil, rfl⟩))
  clear O3
  obtain ⟨told, m, xo, O, hm, hc, rfl⟩ := hI
  refine wpAny_isTrue_value (wpAny_Constant_bool (wpAny_truthy_bool ?_))
  rw [if_pos rfl]
  refine wpAny_execs_cons (wpAny_Assign_Name (wpAny_List (wpAny_items_nil ⟨by decide, ?_⟩)))
  have O1 := O.push { cls := .type "list", data := .seq ([] : List Value).toArray } (.list []) ⟨0, rfl⟩ s'.toks
  refine stL O1 1 rfl hE (kind_of hs rfl) fun s₃ O2 _ _ => ?_
  generalize s'.heap.objs.size = Fl at O2
  have O3 : Own No s s₃ ((env.locals, .ns (up m (Str.ofString "free") (.ref Fl))) :: (ct, .cell (some (.ref T))) :: (cx, .cell xo) :: (T, .ints told) :: (Fl, .list (([] : List Addr).map .ref)) :: zipQ [] (freeOf rows told 0)) := O2.pick 5 [1, 2, 3, 4, 0]
  clear O1 O2 O
  have hg₃ : Sub g s₃.heap := hg.kp O3.kp fun _ h => h.elim
  refine wpAny_execs_cons (For_rng (X := No) (s₀ := s) (callT ?_))
  refine nameB G hg₃ hE (kind_of hs rfl) (G.no _ (by decide)) (bi_range G) ⟨_, rfl, wpAny_items_cons (callB ?_)⟩
  refine nameB G hg₃ hE (kind_of hs rfl) (G.no _ (by decide)) (bi_len G) ⟨_, rfl, wpAny_items_cons (nameL (O3.nth 0 rfl) hE (kind_of hs rfl) hm (wpAny_items_nil (Calls.call_len_list (hR.top.kp O3.kp id).isList (by rw [hRsz]; have := hsm.1; omega) (wpAny_items_nil ?_))))⟩
  rw [hRsz]
  refine call_rng (O3.tok _) fun r s₄ O4 => ?_
  refine ⟨r, rows.length, _, rfl, O4.sub (List.sublist_cons_self ..), O4.nth 0 rfl, (by have := hsm.1; omega), fun j os' => ∃ fas m xo, os' = (env.locals, .ns m) :: (ct, .cell (some (.ref T))) :: (cx, .cell xo) :: (T, .ints told) :: (Fl, .list (fas.map .ref)) :: zipQ fas (freeOf rows told j) ∧
    fas.length = (freeOf rows told j).length ∧ m (Str.ofString "rows") = some (.ref R) ∧ m (Str.ofString "free") = some (.ref Fl), hh', ⟨[], _, xo, rfl, rfl, hm, rfl⟩, ?_, ?_⟩
  · rintro j tj it os' s₅ hj ⟨fas, m, xo, rfl, hfl, hm1, hm2⟩ O5 E'
    refine stL O5 1 rfl hE (kind_of hs rfl) fun s₆ O6 _ _ => ?_
    clear O5 O4 O3
    have hja : j < ads.length := by rw [hR.len]; exact hj
    obtain ⟨vsj, hij, hlj⟩ := (hR.row j ads[j] rows[j] (List.getElem?_eq_getElem hja) (List.getElem?_eq_getElem hj)).ints
    have hrl : rows[j].length ≤ 20 := hsm.2 _ (List.getElem_mem hj)
    have htop := hR.top.kp O6.kp id
    refine wpAny_execs_cons (For_own (X := No) (s₀ := s) (sub_ (T := "list") (nameL (O6.nth 1 rfl) hE (kind_of hs rfl) hm1 (nameL (O6.nth 1 rfl) hE (kind_of hs rfl) rfl
      ⟨htop.isList.typeIs, wpAny_getItem_list (x := .ref ads[j]) htop.isList (by omega) (by have := hsm.1; omega) (by simp [List.getElem?_eq_getElem hja]) ⟨ads[j], vsj, _, rfl, O6,
        fun i os' => ∃ fas m xo, os' = (it, rngPr rows.length (j + 1)) :: (env.locals, .ns m) :: (ct, .cell (some (.ref T))) :: (cx, .cell xo) :: (T, .ints told) :: (Fl, .list (fas.map .ref)) :: zipQ fas (freeOf rows told j ++ freeIn rows told j (rows[j].take i)) ∧
          fas.length = (freeOf rows told j ++ freeIn rows told j (rows[j].take i)).length ∧ m (Str.ofString "rows") = some (.ref R) ∧ m (Str.ofString "free") = some (.ref Fl) ∧ ∃ t, m (Str.ofString "j") = some (.int j t), hh', ?_, ?_, ?_, ?_⟩⟩)) slot_list_getitem.lookup))
    · refine ⟨fas, up m (Str.ofString "j") (.int j tj), xo, ?_, ?_, hm1, hm2, tj, rfl⟩
      · simp [freeIn]
      · simp [freeIn, hfl]
    · rintro i os' s' ⟨fas, m, xo, rfl, _⟩ O'; exact O'.old hlj (fun h => h)
    · rintro i v it' os' s₇ hv ⟨fas, m, xo, rfl, hfl, hm1, hm2, tj, hmj⟩ O7 E'
      obtain ⟨n, t, rfl, hn⟩ := hij.at i v hv
      refine stC O7 4 rfl hE (kind_of hs rfl) hcx fun s₈ O8 _ _ => ?_
      clear O7 O6
      have O8' : Own No s s₈ ((it', .iter ads[j] (i + 1)) :: (it, rngPr rows.length (j + 1)) :: (env.locals, .ns m) :: (ct, .cell (some (.ref T))) :: (cx, .cell (some (.int n t))) :: (T, .ints told) :: (Fl, .list (fas.map .ref)) :: zipQ fas (freeOf rows told j ++ freeIn rows told j (rows[j].take i))) := O8
      clear O8
      refine wpAny_execs_cons (wpAny_mono (Q := fun f s₃ => f = .next ∧ ∃ Ah m', Own No s s₃ ((it', .iter ads[j] (i + 1)) :: (it, rngPr rows.length (j + 1)) :: (env.locals, .ns m') :: (ct, .cell (some (.ref T))) :: (cx, .cell (some (.int n t))) :: (T, .ints told) :: (Fl, .list (fas.map .ref)) :: (Ah, .ints (aheadOf rows n)) :: zipQ fas (freeOf rows told j ++ freeIn rows told j (rows[j].take i))) ∧
          m' (Str.ofString "rows") = some (.ref R) ∧ m' (Str.ofString "free") = some (.ref Fl) ∧ m' (Str.ofString "j") = some (.int j tj) ∧ m' (Str.ofString "ahead") = some (.ref Ah)) ?_ (fun f s₃ hf => ?_) fun _ _ e => e)
      · obtain ⟨os8, hos⟩ : ∃ os8, os8 = ((it', Pr.iter ads[j] (i + 1)) :: (it, rngPr rows.length (j + 1)) :: (env.locals, Pr.ns m) :: (ct, Pr.cell (some (.ref T))) :: (cx, Pr.cell (some (.int n t))) :: (T, Pr.ints told) :: (Fl, Pr.list (fas.map .ref)) :: zipQ fas (freeOf rows told j ++ freeIn rows told j (rows[j].take i))) := ⟨_, rfl⟩
        rw [← hos] at O8'
        have h4 : os8[4]? = some (cx, .cell (some (.int n t))) := by rw [hos]; rfl
        have h2 : os8[2]? = some (env.locals, .ns m) := by rw [hos]; rfl
        refine assign_comp rfl (swaps_true hE (kind_of hs rfl)) (comp_top (X := No) (s₀ := s) (cl := [(Str.ofString "x", cx)]) rfl (closure_one hcx rfl) (by decide) rfl rfl (nameL (O8'.nth 2 h2) hE (kind_of hs rfl) hm1 ⟨R, ads.map .ref, os8, rfl, O8', O8'.old hR.top (fun h => h), fun C D itc s₉ O9 => ?_⟩))
        refine cstart (vs := ads.map .ref) (fun i1 os' => ∃ ys mc, os' = (C, .ns mc) :: (D, .list ys) :: os8 ∧ IntsAre ys ((rows.take i1).flatMap fun row => aheadIn row n)) rfl (by intro g hg; simp only [List.mem_cons, List.not_mem_nil, or_false] at hg; rcases hg with rfl | rfl | rfl <;> rfl) hh' O9 ⟨[], _, rfl, .nil⟩ ?_ ?_ ?_
        · rintro i1 os' s' ⟨ys, mc, rfl, _⟩ O'; exact O'.old hR.top (fun h => h)
        · rintro i1 v os' s' hv ⟨ys, mc, rfl, hys⟩ O10 E'
          have hi1 : i1 < ads.length := by have := (List.getElem?_eq_some_iff.mp hv).1; simpa using this
          have hir : i1 < rows.length := by rw [← hR.len]; exact hi1
          have hv' : v = .ref ads[i1] := by
            have : (ads.map Value.ref)[i1]? = some (.ref ads[i1]) := by simp [List.getElem?_eq_getElem hi1]
            rw [this] at hv; exact (Option.some.inj hv).symm
          subst hv'
          obtain ⟨vsr, hir', hlr⟩ := (hR.row i1 ads[i1] rows[i1] (List.getElem?_eq_getElem hi1) (List.getElem?_eq_getElem hir)).ints
          have hrl1 : rows[i1].length ≤ 20 := hsm.2 _ (List.getElem_mem hir)
          have hvl1 : vsr.length = rows[i1].length := hir'.length
          have hacc1 : ((rows.take i1).flatMap fun row => aheadIn row n).length ≤ 8000 := by
            have := flatMap_len (fun row => aheadIn row n) 400 (rows.take i1) (fun r hr => aheadIn_len r n r.length (hsm.2 r (List.mem_of_mem_take hr)) (hsm.2 r (List.mem_of_mem_take hr)))
            have h3 : (rows.take i1).length ≤ 20 := by simp; have := hsm.1; omega
            have h4 : (rows.take i1).length * 400 ≤ 20 * 400 := Nat.mul_le_mul_right _ h3
            omega
          have htk1 : (rows.take (i1 + 1)).flatMap (fun row => aheadIn row n) = ((rows.take i1).flatMap fun row => aheadIn row n) ++ aheadIn rows[i1] n := by
            rw [List.take_add_one, List.getElem?_eq_getElem hir, List.flatMap_append]; simp
          refine stL (env := compEnvC _ _ C env) O10 1 rfl (hE.comp rfl) (comp_local rfl) fun s₁₁ O11 _ _ => ?_
          clear O10 O9
          refine tests_nil ?_
          rw [if_pos rfl]
          have hg11 : Sub g s₁₁.heap := hg.kp O11.kp fun _ h => h.elim
          have hrow11 : Has s₁₁.heap ads[i1] (.list vsr) := O11.old hlr (fun h => h)
          refine emit_more rfl (callT ?_)
          refine nameB G hg11 (hE.comp rfl) (comp_global rfl) (G.no _ (by decide)) (bi_range G) ⟨_, rfl, wpAny_items_cons (callB ?_)⟩
          refine nameB G hg11 (hE.comp rfl) (comp_global rfl) (G.no _ (by decide)) (bi_len G) ⟨_, rfl, wpAny_items_cons (nameL (env := compEnvC _ _ C env) (O11.nth 1 rfl) (hE.comp rfl) (comp_local rfl) rfl (wpAny_items_nil (Calls.call_len_list hrow11.isList (by simp [hvl1]; omega) (wpAny_items_nil ?_))))⟩
          refine call_rng (O11.tok _) fun r s₁₂ O12 => ?_
          have hsz12 : vsr.toArray.size = rows[i1].length := by simp [hvl1]
          rw [hsz12] at O12
          refine cloop_rng (fun k os' => ∃ ys mc, os' = (itc, .iter R (i1 + 1)) :: (C, .ns mc) :: (D, .list ys) :: os8 ∧ mc (Str.ofString "row") = some (.ref ads[i1]) ∧
              IntsAre ys (((rows.take i1).flatMap fun row => aheadIn row n) ++ (List.range k).flatMap fun k => if rows[i1][k]? = some n then rows[i1].take k else [])) rfl (by intro g hg; simp only [List.mem_cons, List.not_mem_nil, or_false] at hg; rcases hg with rfl | rfl | rfl <;> rfl) hh'
            (O12.sub (List.sublist_cons_self ..)) (O12.nth 0 rfl) (by omega) ⟨ys, _, rfl, rfl, by simpa using hys⟩ ?_ ?_
          · rintro k tk itr os' s' hk ⟨ys, mc, rfl, hmr, hys⟩ O13 E'
            refine stL (env := compEnvC _ _ C env) O13 2 rfl (hE.comp rfl) (comp_local rfl) fun s₁₄ O14 _ _ => ?_
            clear O13 O12 O11
            have hrow14 : Has s₁₄.heap ads[i1] (.list vsr) := O14.old hlr (fun h => h)
            have hkr : rows[i1][k]? = some rows[i1][k] := List.getElem?_eq_getElem hk
            obtain ⟨tv, htv⟩ := hir'.get k rows[i1][k] hkr
            have hrk : (List.range (k + 1)).flatMap (fun k => if rows[i1][k]? = some n then rows[i1].take k else []) = ((List.range k).flatMap fun k => if rows[i1][k]? = some n then rows[i1].take k else []) ++ (if rows[i1][k] = n then rows[i1].take k else []) := by
              rw [List.range_succ, List.flatMap_append]; simp [hkr]
            have hcx14 : Has s₁₄.heap cx (.cell (some (.int n t))) := O14.has _ (List.mem_cons_of_mem _ (List.mem_cons_of_mem _ (List.mem_cons_of_mem _ (List.mem_cons_of_mem _ (List.mem_of_getElem? h4)))))
            refine tests_one (wpAny_isTrue_Compare1 (sub_ (T := "list") (nameL (env := compEnvC _ _ C env) (O14.nth 2 rfl) (hE.comp rfl) (comp_local rfl) hmr (nameL (env := compEnvC _ _ C env) (O14.nth 2 rfl) (hE.comp rfl) (comp_local rfl) rfl
              ⟨hrow14.isList.typeIs, wpAny_getItem_list (x := .int rows[i1][k] tv) hrow14.isList (by omega) (by omega) (by simpa using htv) (comp_free (env := env) hE rfl rfl rfl hcx14 (eq_int (wpAny_truthy_bool ?_)))⟩)) slot_list_getitem.lookup))
            by_cases hcmp : rows[i1][k] = n
            · have hb1 : (rows[i1][k] == n) = true := by simpa using hcmp
              rw [if_pos hb1]
              rw [if_pos hcmp] at hrk
              refine emit_more rfl (wpAny_Subscript_list_slice (nameL (env := compEnvC _ _ C env) (O14.nth 2 rfl) (hE.comp rfl) (comp_local rfl) hmr (wpAny_pure (nameL (env := compEnvC _ _ C env) (O14.nth 2 rfl) (hE.comp rfl) (comp_local rfl) rfl
                ⟨ads[i1], vsr.toArray, none, some (k : Int), rfl, hrow14.isList, by simp; omega, .none, .int _ _, ?_⟩))))
              rw [slicePick_upto']
              have O15 := (O14.push_ { cls := .type "slice", data := .fields #[.none, .int (k : Int) tk, .none] } s₁₄.toks).push { cls := .type "list", data := .seq (vsr.toArray.toList.take k).toArray } (.list (vsr.take k)) ⟨0, by simp⟩ s₁₄.toks
              have hSl : ({ s₁₄ with heap := s₁₄.heap.push { cls := .type "slice", data := .fields #[.none, .int (k : Int) tk, .none] }, toks := s₁₄.toks } : Shared).heap.objs.size = s₁₄.heap.objs.size + 1 := Heap.size_push ..
              rw [hSl] at O15
              clear hSl
              generalize s₁₄.heap.objs.size + 1 = Sl at *
              have hacc2 := aheadIn_len rows[i1] n k hrl1 (by omega)
              have hit := hir'.take k
              refine cloop (vs := vsr.take k) (fun q os' => ∃ ys mc, os' = (Sl, .list (vsr.take k)) :: (itr, rngPr rows[i1].length (k + 1)) :: (itc, .iter R (i1 + 1)) :: (C, .ns mc) :: (D, .list ys) :: os8 ∧ mc (Str.ofString "row") = some (.ref ads[i1]) ∧
                  IntsAre ys ((((rows.take i1).flatMap fun row => aheadIn row n) ++ (List.range k).flatMap fun k => if rows[i1][k]? = some n then rows[i1].take k else []) ++ (rows[i1].take k).take q)) rfl (by intro g hg; simp only [List.mem_cons, List.not_mem_nil, or_false] at hg; rcases hg with rfl | rfl | rfl <;> rfl) hh'
                O15 ⟨ys, up mc (Str.ofString "i") (.int k tk), rfl, hmr, by simpa using hys⟩ ?_ ?_ ?_
              · rintro q os' s' ⟨ys, mc, rfl, _⟩ O'; exact O'.nth 0 rfl
              · rintro q v ity os' s' hv ⟨ys, mc, rfl, hmr, hys⟩ O16 E'
                obtain ⟨y, ty, rfl, hy⟩ := hit.at q v hv
                have hq : q < k := by have := (List.getElem?_eq_some_iff.mp hv).1; simp at this; omega
                refine stL (env := compEnvC _ _ C env) O16 4 rfl (hE.comp rfl) (comp_local rfl) fun s₁₇ O17 _ _ => ?_
                refine tests_nil ?_
                rw [if_pos rfl]
                refine emit_last rfl (nameL (env := compEnvC _ _ C env) (O17.nth 4 rfl) (hE.comp rfl) (comp_local rfl) rfl (apd O17 5 rfl ?_ fun s₁₈ O18 _ _ => ?_))
                · have := hys.length
                  simp only [List.length_append] at this
                  have h5 : ((rows[i1].take k).take q).length ≤ 20 := by simp; omega
                  omega
                · refine ⟨_, ⟨ys ++ [Value.int y ty], up mc (Str.ofString "y") (.int y ty), rfl, hmr, ?_⟩, O18⟩
                  rw [List.take_add_one, hy, ← List.append_assoc]
                  exact hys.append (.cons y ty .nil)
              · rintro os' s' ⟨ys, mc, rfl, hmr, hys⟩ O16
                refine ⟨_, ⟨ys, mc, rfl, hmr, ?_⟩, O16.sub (List.sublist_cons_self ..)⟩
                rw [hrk, ← List.append_assoc]
                have e : (vsr.take k).length = (rows[i1].take k).length := hit.length
                rw [e, List.take_length] at hys
                exact hys
            · have hb1 : ¬ (rows[i1][k] == n) = true := by simpa using hcmp
              rw [if_neg hb1]
              rw [if_neg hcmp, List.append_nil] at hrk
              exact ⟨_, ⟨ys, up mc (Str.ofString "i") (.int k tk), rfl, hmr, by rw [hrk]; exact hys⟩, O14⟩
          · rintro os' s' ⟨ys, mc, rfl, hmr, hys⟩ O13
            exact ⟨_, ⟨ys, mc, rfl, by rw [htk1]; exact hys⟩, O13⟩
        · rintro os' s' ⟨ys, mc, rfl, hys⟩ O10 E'
          have hys' : IntsAre ys (aheadOf rows n) := by
            have e : (ads.map Value.ref).length = rows.length := by simp [hR.len]
            rw [e, List.take_length] at hys; exact hys
          have O11 := (O10.shuts 1 rfl hys')
          refine wpAny_assign_Name (stL O11 4 (by rw [hos]; rfl) hE (kind_of hs rfl) fun s₁₁ O12 _ _ => ?_)
          rw [hos] at O12
          refine ⟨mc, _, O12, fun s₁₂ O13 => ⟨rfl, D, up m (Str.ofString "ahead") (.ref D), O13.pick 8 [1, 2, 3, 4, 5, 6, 7, 0], hm1, hm2, hmj, rfl⟩⟩
      · obtain ⟨rfl, Ah, m', O9, hr1, hr2, hr3, hr4⟩ := hf
        dsimp only
        have hfi : freeIn rows told j (rows[j].take (i + 1)) = freeIn rows told j (rows[j].take i) ++ (if isFree rows told n = true then [((j : Int), n)] else []) := by
          unfold freeIn
          rw [List.take_add_one, hn, List.filter_append, List.map_append]
          congr 1
          cases hf : isFree rows told n <;> simp [hf]
        have hfree20 : (freeOf rows told j ++ freeIn rows told j (rows[j].take i)).length ≤ 1000 := by
          have h1 := flatMap_len (fun j => freeIn rows told j (rows.getD j [])) 20 (List.range j) (fun b hb => by
            unfold freeIn
            have hbl : b < rows.length := by have := List.mem_range.mp hb; omega
            have : (rows.getD b []).length ≤ 20 := by
              rw [List.getD_eq_getElem?_getD, List.getElem?_eq_getElem hbl]; exact hsm.2 _ (List.getElem_mem hbl)
            have := List.length_filter_le (isFree rows told) (rows.getD b [])
            simp only [List.length_map]; omega)
          have h2 : (freeIn rows told j (rows[j].take i)).length ≤ 20 := by
            unfold freeIn
            have := List.length_filter_le (isFree rows told) (rows[j].take i)
            simp only [List.length_map]
            have : (rows[j].take i).length ≤ 20 := by simp; omega
            omega
          have h3 : (freeOf rows told j).length ≤ 20 * 20 := by
            unfold freeOf
            simp only [List.length_range] at h1
            have : j * 20 ≤ 20 * 20 := Nat.mul_le_mul_right _ (by have := hsm.1; omega)
            omega
          simp only [List.length_append]; omega
        obtain ⟨os9, hos⟩ : ∃ os9, os9 = ((it', Pr.iter ads[j] (i + 1)) :: (it, rngPr rows.length (j + 1)) :: (env.locals, Pr.ns m') :: (ct, Pr.cell (some (.ref T))) :: (cx, Pr.cell (some (.int n t))) :: (T, Pr.ints told) :: (Fl, Pr.list (fas.map .ref)) :: (Ah, Pr.ints (aheadOf rows n)) :: zipQ fas (freeOf rows told j ++ freeIn rows told j (rows[j].take i))) := ⟨_, rfl⟩
        refine wpAny_execs_cons (wpAny_If (wpAny_mono (Q := fun b s₃ => b = isFree rows told n ∧ Own No s s₃ os9) ?_ (fun b s₄ hb => ?_) fun _ _ e => e))
        · rw [← hos] at O9
          have h2 : os9[2]? = some (env.locals, .ns m') := by rw [hos]; rfl
          have h3 : os9[3]? = some (ct, .cell (some (.ref T))) := by rw [hos]; rfl
          have h4 : os9[4]? = some (cx, .cell (some (.int n t))) := by rw [hos]; rfl
          have h5 : os9[5]? = some (T, .ints told) := by rw [hos]; rfl
          have h7 : os9[7]? = some (Ah, .ints (aheadOf rows n)) := by rw [hos]; rfl
          obtain ⟨vst, hit, hlt⟩ := (O9.nth 5 h5).ints
          refine wpAny_isTrue_BoolOp (wpAny_allTrue_And_cons (wpAny_isTrue_Compare1 (nameC hE (kind_of hs rfl) hcx (O9.nth 4 h4) (nameC hE (kind_of hs rfl) hct (O9.nth 3 h3) (notin_list_ints hlt.isList hit (wpAny_truthy_bool ?_))))))
          by_cases hc1 : (!(told.any (· == n))) = true
          · rw [if_pos hc1]
            obtain ⟨vsA, hiA, O10⟩ := O9.opens 7 h7
            have h2' : (os9.set 7 (Ah, .list vsA))[2]? = some (env.locals, .ns m') := by rw [hos]; rfl
            have h3' : (os9.set 7 (Ah, .list vsA))[3]? = some (ct, .cell (some (.ref T))) := by rw [hos]; rfl
            have h5' : (os9.set 7 (Ah, .list vsA))[5]? = some (T, .ints told) := by rw [hos]; rfl
            have h7' : (os9.set 7 (Ah, .list vsA))[7]? = some (Ah, .list vsA) := by rw [hos]; rfl
            have hback : (os9.set 7 (Ah, .list vsA)).set 7 (Ah, .ints (aheadOf rows n)) = os9 := by rw [hos]; rfl
            refine wpAny_allTrue_And_cons (wpAny_isTrue_Compare1 (eval_comp rfl (comp_ints (X := No) (s₀ := s) (fun y => !(told.any (· == y))) hE hh' (closure_one hct rfl) (nameL (O10.nth 2 h2') hE (kind_of hs rfl) hr4
              ⟨Ah, vsA, aheadOf rows n, _, rfl, O10, hiA, fun s' O' => O'.nth 7 h7', ?_, ?_, ?_⟩))))
            · have h6 := flatMap_len (fun row => aheadIn row n) 400 rows (fun r hr => aheadIn_len r n r.length (hsm.2 r hr) (hsm.2 r hr))
              have h8 : rows.length * 400 ≤ 20 * 400 := Nat.mul_le_mul_right _ hsm.1
              have : (aheadOf rows n).length ≤ 8000 := Nat.le_trans h6 h8
              omega
            · intro y ty C s' mm _ hmm hC O' E' Q' hQ'
              obtain ⟨vst', hit', hlt'⟩ := (O'.nth 5 h5').ints
              exact wpAny_isTrue_Compare1 (nameL (env := compEnvC _ _ C env) hC (hE.comp rfl) (comp_local rfl) hmm (comp_free (env := env) hE rfl rfl rfl (O'.nth 3 h3') (notin_list_ints hlt'.isList hit' (wpAny_truthy_bool (hQ' s'.toks)))))
            · intro C D mm s' O'
              refine ⟨mm, _, O', fun s'' O'' => ?_⟩
              refine wpAny_List (wpAny_items_nil ⟨by decide, ?_⟩)
              have O₁₂ := O''.push { cls := .type "list", data := .seq ([] : List Value).toArray } (.ints []) ⟨[], 0, .nil, rfl⟩ s''.toks
              refine eq_ints (O₁₂.nth 1 rfl) (O₁₂.nth 0 rfl) (by omega) (wpAny_truthy_bool ?_)
              have O₁₃ := (O₁₂.sub ((List.sublist_cons_self ..).trans (List.sublist_cons_self ..))).shuts 7 h7' hiA
              rw [hback] at O₁₃
              by_cases hc6 : decide ((aheadOf rows n).filter (fun y => !(told.any (· == y))) = []) = true
              · rw [if_pos hc6]; exact wpAny_allTrue_And_nil ⟨by unfold isFree; rw [hc1, hc6]; rfl, O₁₃⟩
              · rw [if_neg hc6]
                exact ⟨by unfold isFree; rw [hc1, eq_false_of_ne_true hc6]; rfl, O₁₃⟩
          · rw [if_neg hc1]
            exact ⟨by unfold isFree; rw [eq_false_of_ne_true hc1]; rfl, O9⟩
        · obtain ⟨rfl, O10⟩ := hb
          rw [hos] at O10
          by_cases hc : isFree rows told n = true
          · rw [if_pos hc]
            rw [if_pos hc] at hfi
            refine wpAny_execs_cons (wpAny_Expr (m_append rfl rfl (nameL (O10.nth 2 rfl) hE (kind_of hs rfl) hr2 ⟨Fl, _, rfl, O10.nth 6 rfl, wpAny_Tuple (wpAny_items_cons (nameL (O10.nth 2 rfl) hE (kind_of hs rfl) hr3 (wpAny_items_cons (nameC hE (kind_of hs rfl) hcx (O10.nth 4 rfl) (wpAny_items_nil ⟨Nat.le_of_ble_eq_true rfl, ?_⟩)))))⟩)) hE.inter rfl)
            have O11 := O10.push { cls := .type "tuple", data := .seq [Value.int (j : Int) tj, Value.int n t].toArray } (pairPr ((j : Int), n)) ⟨_, _, _, rfl⟩ s₄.toks
            refine apd O11 7 rfl ?_ fun s₅ O12 _ _ => ?_
            · simp [hfl]; simp at hfree20; omega
            · refine wpAny_execs_nil (wpAny_execs_nil ⟨_, ⟨fas ++ [s₄.heap.objs.size], m', some (.int n t), rfl, ?_, hr1, hr2, tj, hr3⟩, ?_⟩)
              · rw [hfi]; simp only [List.length_append, List.length_cons, List.length_nil] at hfl ⊢; omega
              · rw [hfi, ← List.append_assoc, zipQ_snoc _ _ hfl]
                have e : (fas ++ [s₄.heap.objs.size]).map Value.ref = fas.map Value.ref ++ [.ref s₄.heap.objs.size] := by simp
                rw [e]
                refine (O12.pick 9 [1, 2, 3, 4, 5, 6, 7, 0]).perm ?_
                refine List.Perm.cons _ (List.Perm.cons _ (List.Perm.cons _ (List.Perm.cons _ (List.Perm.cons _ (List.Perm.cons _ (List.Perm.cons _ ?_))))))
                exact List.perm_append_singleton ..
          · rw [if_neg hc]
            rw [if_neg hc, List.append_nil] at hfi
            refine wpAny_execs_nil (wpAny_execs_nil ⟨_, ⟨fas, m', some (.int n t), rfl, ?_, hr1, hr2, tj, hr3⟩, ?_⟩)
            · rw [hfi]; exact hfl
            · rw [hfi]; exact O10.pick 8 [0, 1, 2, 3, 4, 5, 6]
    · rintro os' s₇ ⟨fas, m, xo, rfl, hfl, hm1, hm2, _⟩ O7 E'
      have hfr : freeOf rows told (j + 1) = freeOf rows told j ++ freeIn rows told j rows[j] := by
        unfold freeOf
        rw [List.range_succ, List.flatMap_append]
        simp [List.getElem?_eq_getElem hj]
      have hvl : vsj.length = rows[j].length := hij.length
      rw [hvl, List.take_length, ← hfr] at O7 hfl
      refine wpAny_execs_nil ?_
      dsimp only
      exact wpAny_execs_nil ⟨_, ⟨fas, m, xo, rfl, hfl, hm1, hm2⟩, O7⟩
  · rintro os' s₅ ⟨fas, m, xo, rfl, hfl, hm1, hm2⟩ O5 E'
    refine wpAny_execs_nil ?_
    dsimp only
    clear O4 O3
    refine wpAny_execs_cons (wpAny_mono (Q := fun f s₆ => (f = .next ∧ freeOf rows told rows.length ≠ [] ∧ Own No s s₆ ((env.locals, .ns m) :: (ct, .cell (some (.ref T))) :: (cx, .cell xo) :: (T, .ints told) :: (Fl, .list (fas.map .ref)) :: zipQ fas (freeOf rows told rows.length))) ∨
      (f = .ret (.ref T) ∧ freeOf rows told rows.length = [] ∧ Own No s s₆ [(T, .ints told)])) (wpAny_If (wpAny_isTrue_Compare1 (nameL (O5.nth 0 rfl) hE (kind_of hs rfl) hm2 (wpAny_List (wpAny_items_nil ⟨by decide, ?_⟩))))) (fun f s₆ hf => ?_) fun _ _ e => e)
    · have O6 := O5.push { cls := .type "list", data := .seq ([] : List Value).toArray } (.list []) ⟨0, rfl⟩ s₅.toks
      have hsz0 : (fas.map Value.ref).toArray.size = (freeOf rows told rows.length).length := by simp [hfl]
      by_cases hf : freeOf rows told rows.length = []
      · have hfas : fas = [] := by rw [hf] at hfl; exact List.length_eq_zero_iff.mp hfl
        rw [hfas] at O6
        refine SeqAt.eq_listAt (e := fun _ => true) (O6.nth 5 rfl).isList (O6.nth 0 rfl).isList rfl (by have : cLine = 9900 := rfl; omega) (fun q h1 _ => absurd h1 (Nat.not_lt_zero _)) (wpAny_truthy_bool ?_)
        rw [if_pos (by rfl)]
        refine wpAny_execs_cons (wpAny_Return_some (nameC hE (kind_of hs rfl) hct (O6.nth 2 rfl) ?_))
        exact .inr ⟨rfl, hf, (O6.sub (List.sublist_cons_self ..)).pick 5 [3] |>.sub (by simp)⟩
      · refine SeqAt.eq_list_lengthsAt (O6.nth 5 rfl).isList (O6.nth 0 rfl).isList ?_ (by have : cLine = 9900 := rfl; omega) (wpAny_truthy_bool ?_)
        · rw [hsz0]
          have : (freeOf rows told rows.length).length ≠ 0 := fun e => hf (List.length_eq_zero_iff.mp e)
          simpa using this
        · rw [if_neg (by decide)]
          exact wpAny_execs_nil (.inl ⟨rfl, hf, O6.sub (List.sublist_cons_self ..)⟩)
    · rcases hf with ⟨rfl, hf, O6⟩ | ⟨rfl, hf, O6⟩
      · dsimp only
        obtain ⟨p₀, pr, hps⟩ : ∃ p₀ pr, freeOf rows told rows.length = p₀ :: pr := by
          cases h : freeOf rows told rows.length with
          | nil => exact absurd h hf
          | cons p q => exact ⟨p, q, rfl⟩
        have hg6 : Sub g s₆.heap := hg.kp O6.kp fun _ h => h.elim
        obtain ⟨vst, hit, O7⟩ := O6.opens 3 rfl
        obtain ⟨os7, hos⟩ : ∃ os7, os7 = ((env.locals, Pr.ns m) :: (ct, Pr.cell (some (.ref T))) :: (cx, Pr.cell xo) :: (T, Pr.list vst) :: (Fl, Pr.list (fas.map .ref)) :: zipQ fas (freeOf rows told rows.length)) := ⟨_, rfl⟩
        have O8 : Own No s s₆ os7 := by rw [hos]; exact O7
        have h0 : os7[0]? = some (env.locals, .ns m) := by rw [hos]; rfl
        have h1 : os7[1]? = some (ct, .cell (some (.ref T))) := by rw [hos]; rfl
        have h3 : os7[3]? = some (T, .list vst) := by rw [hos]; rfl
        have h4 : os7[4]? = some (Fl, .list (fas.map .ref)) := by rw [hos]; rfl
        have hpair : ∀ (i : Nat) fa p s', fas[i]? = some fa → (freeOf rows told rows.length)[i]? = some p → Own No s s' os7 → Has s'.heap fa (pairPr p) := fun i fa p s' e1 e2 O' =>
          O'.has (fa, pairPr p) (by rw [hos]; exact List.mem_cons_of_mem _ (List.mem_cons_of_mem _ (List.mem_cons_of_mem _ (List.mem_cons_of_mem _ (List.mem_cons_of_mem _ (mem_zipQ e1 e2))))))
        refine wpAny_execs_cons (wpAny_Expr (m_append rfl rfl (nameC hE (kind_of hs rfl) hct (O8.nth 1 h1) ⟨T, vst, rfl, O8.nth 3 h3, sub_ (T := "tuple") (callB ?_) slot_tuple_getitem.lookup⟩)) hE.inter rfl)
        refine nameB G hg6 hE (kind_of hs rfl) (G.no _ (by decide)) (bi_min G) ⟨_, rfl, wpAny_items_cons (nameL (O8.nth 0 h0) hE (kind_of hs rfl) hm2 (wpAny_items_nil
          (call_min hh' (by have : cLine = 9900 := rfl; omega) O8 hps hfl (fun s' O' => O'.nth 4 h4) hpair fun i fa s₇ e1 e2 O9 => wpAny_Constant_int ?_)))⟩
        obtain ⟨o, ho, t1, t2, nn, rfl⟩ := hpair i fa _ s₇ e1 e2 O9
        have hmin : minOf (freeOf rows told rows.length) = minFrom p₀ pr := by rw [hps]; rfl
        have hmem : minFrom p₀ pr ∈ freeOf rows told rows.length := by rw [hps]; exact minFrom_mem ..
        obtain ⟨jm, hjm, _, hxm, hfm⟩ := free_mem hmem
        have hnt : told.any (· == (minFrom p₀ pr).2) = false := by
          unfold isFree at hfm
          have := (Bool.and_eq_true_iff.mp hfm).1
          simpa using this
        refine ⟨⟨_, ho, rfl⟩, getItem_tuple (j := 1) (x := .int (minFrom p₀ pr).2 t2) ⟨_, ho, rfl, _, rfl⟩ (by decide) (by decide) rfl rfl ?_⟩
        refine apd (O9.tok _) 3 h3 ?_ fun s₈ O10 _ _ => ?_
        · have := hit.length
          have h20 : told.length ≤ 400 := coming_len hsm hc
          omega
        · have hc' := ComingR.step hc hf
          rw [hmin] at hc'
          rw [hos] at O10
          have O11 := (O10.shuts 3 rfl (hit.append (.cons (minFrom p₀ pr).2 t2 .nil))).pick 5 [0, 1, 2, 3]
          refine wpAny_execs_nil ⟨left rows (told ++ [(minFrom p₀ pr).2]), left_lt (List.mem_flatten.mpr ⟨_, List.getElem_mem hjm, hxm⟩) hnt, _, m, xo, O11.sub ?_, hm1, hc', rfl⟩
          simp
      · exact ⟨T, told, rfl, O6, hc, hf⟩
end
end Mine

namespace Mine

def live (cur : List (List Int)) : List (List Int) := cur.filter fun xs => !xs.isEmpty
def nx (l : List (List Int)) : List Int → Option Int
  | [] => none
  | c :: _ => if l.all (fun ys => !(ys.tail.any (· == c))) = true then some c else none
def next (cur : List (List Int)) : Option Int := (live cur).findSome? (nx (live cur))
def dropH (c : Int) : List Int → List Int
  | [] => []
  | x :: r => if x = c then r else x :: r
inductive C3R (rows : List (List Int)) : List Int → List (List Int) → Prop
  | nil : C3R rows [] rows
  | step {res cur c} : C3R rows res cur → next cur = some c → C3R rows (res ++ [c]) (cur.map (dropH c))

def selOf (ads : List Addr) (cur : List (List Int)) : List Addr := ((ads.zip cur).filter fun p => !p.2.isEmpty).map (·.1)

theorem mem_zipP : ∀ {ads : List Addr} {xss : List (List Int)} {i : Nat} {ad : Addr} {xs : List Int}, ads[i]? = some ad → xss[i]? = some xs → (zipP ads xss)[i]? = some (ad, .ints xs)
  | a :: ads, q :: xss, 0, _, _, h1, h2 => by cases h1; cases h2; rfl
  | a :: ads, q :: xss, i + 1, _, _, h1, h2 => by
    show (zipP ads xss)[i]? = _
    exact mem_zipP (i := i) (by simpa using h1) (by simpa using h2)
  | [], _, _, _, _, h1, _ => by simp at h1
  | _ :: _, [], _, _, _, _, h2 => by simp at h2
theorem zipP_set : ∀ {ads : List Addr} {xss : List (List Int)} {i : Nat} {ad : Addr} (xs : List Int), ads[i]? = some ad → ads.length = xss.length → (zipP ads xss).set i (ad, .ints xs) = zipP ads (xss.set i xs)
  | a :: ads, q :: xss, 0, _, _, h1, _ => by cases h1; rfl
  | a :: ads, q :: xss, i + 1, ad, xs, h1, h2 => by
    show (a, Pr.ints q) :: (zipP ads xss).set i (ad, .ints xs) = (a, Pr.ints q) :: zipP ads (xss.set i xs)
    rw [zipP_set xs (by simpa using h1) (by simpa using h2)]
  | [], _, _, _, _, h1, _ => by simp at h1
  | _ :: _, [], _, _, _, _, h2 => by simp at h2
theorem sel_at : ∀ {ads : List Addr} {cur : List (List Int)} (i : Nat), ads.length = cur.length → ∀ {ad : Addr}, (selOf ads cur)[i]? = some ad → ∃ (k : Nat) (xs : List Int), ads[k]? = some ad ∧ cur[k]? = some xs ∧ (live cur)[i]? = some xs ∧ xs ≠ []
  | [], _, i, _, _, h => by simp [selOf] at h
  | a :: ads, [], _, hl, _, _ => by simp at hl
  | a :: ads, ys :: cur, i, hl, ad, h => by
    have hl' : ads.length = cur.length := by simpa using hl
    cases ys with
    | nil =>
      have e : selOf (a :: ads) ([] :: cur) = selOf ads cur := rfl
      rw [e] at h
      obtain ⟨k, xs, h1, h2, h3, h4⟩ := sel_at i hl' h
      exact ⟨k + 1, xs, by simpa using h1, by simpa using h2, h3, h4⟩
    | cons y r =>
      have e : selOf (a :: ads) ((y :: r) :: cur) = a :: selOf ads cur := rfl
      rw [e] at h
      cases i with
      | zero => cases h; exact ⟨0, y :: r, rfl, rfl, rfl, by simp⟩
      | succ i =>
        obtain ⟨k, xs, h1, h2, h3, h4⟩ := sel_at i hl' (by simpa using h)
        exact ⟨k + 1, xs, by simpa using h1, by simpa using h2, h3, h4⟩
theorem sel_len : ∀ {ads : List Addr} {cur : List (List Int)}, ads.length = cur.length → (selOf ads cur).length = (live cur).length
  | [], [], _ => rfl
  | a :: ads, [] :: cur, h => sel_len (ads := ads) (cur := cur) (by simpa using h)
  | a :: ads, (y :: r) :: cur, h => by
    show (selOf ads cur).length + 1 = (live cur).length + 1
    rw [sel_len (by simpa using h)]
  | [], _ :: _, h => by simp at h
  | _ :: _, [], h => by simp at h
theorem sel_sub (ads : List Addr) (cur : List (List Int)) (h : ads.length = cur.length) : (selOf ads cur).Sublist ads := by
  have : ((ads.zip cur).filter fun p => !p.2.isEmpty).map (·.1) = selOf ads cur := rfl
  rw [← this]
  refine (List.filter_sublist.map _).trans ?_
  rw [List.map_fst_zip (by omega)]
  exact List.Sublist.refl _
theorem sel_take : ∀ {ads : List Addr} {cur : List (List Int)} (p : Nat), ads.length = cur.length → selOf (ads.take p) (cur.take p) ++ selOf (ads.drop p) (cur.drop p) = selOf ads cur := by
  intro ads cur p h
  unfold selOf
  rw [← List.map_append, ← List.filter_append]
  congr 2
  rw [← List.zip_append (by simp [h]), List.take_append_drop, List.take_append_drop]

/-- rows of which those at the addresses in l have lost their heads -/
def partly (c : Int) (l ads : List Addr) (cur : List (List Int)) : List (List Int) := List.zipWith (fun ad xs => if ad ∈ l then dropH c xs else xs) ads cur
theorem partly_nil (c : Int) : ∀ (ads : List Addr) (cur : List (List Int)), ads.length = cur.length → partly c [] ads cur = cur
  | [], [], _ => rfl
  | a :: ads, x :: cur, h => by
    show (if a ∈ ([] : List Addr) then dropH c x else x) :: partly c [] ads cur = x :: cur
    rw [if_neg (by simp), partly_nil c ads cur (by simpa using h)]
  | [], _ :: _, h => by simp at h
  | _ :: _, [], h => by simp at h
theorem partly_len (c : Int) (l ads : List Addr) (cur : List (List Int)) (h : ads.length = cur.length) : (partly c l ads cur).length = cur.length := by simp [partly, h]
theorem partly_at {c : Int} {l ads : List Addr} {cur : List (List Int)} {k : Nat} {ad : Addr} {xs : List Int} (h1 : ads[k]? = some ad) (h2 : cur[k]? = some xs) : (partly c l ads cur)[k]? = some (if ad ∈ l then dropH c xs else xs) := by
  unfold partly; rw [List.getElem?_zipWith, h1, h2]
theorem partly_snoc {c : Int} {l ads : List Addr} {cur : List (List Int)} {k : Nat} {ad : Addr} {xs : List Int} (hl : ads.length = cur.length) (hn : ads.Nodup) (h1 : ads[k]? = some ad) (h2 : cur[k]? = some xs) (hm : ad ∉ l) :
    partly c (l ++ [ad]) ads cur = (partly c l ads cur).set k (dropH c xs) := by
  apply List.ext_getElem?
  intro i
  rw [List.getElem?_set]
  by_cases hi : i < ads.length
  · have ha : ads[i]? = some ads[i] := List.getElem?_eq_getElem hi
    have hc : cur[i]? = some (cur[i]'(by omega)) := List.getElem?_eq_getElem (by omega)
    rw [partly_at ha hc, partly_at ha hc]
    by_cases e : k = i
    · subst e
      rw [ha] at h1; cases h1
      rw [hc] at h2; cases h2
      have : k < (partly c l ads cur).length := by rw [partly_len c l ads cur hl]; omega
      simp [this]
    · have hne : ads[i] ≠ ad := by
        intro e2
        obtain ⟨hk, hk2⟩ := List.getElem?_eq_some_iff.mp h1
        exact e ((List.getElem_inj (i := k) (j := i) (h₀ := hk) (h₁ := hi) hn).mp (by rw [hk2, e2]))
      simp [e, hne]
  · have : (partly c (l ++ [ad]) ads cur)[i]? = none := List.getElem?_eq_none (by rw [partly_len _ _ _ _ hl]; omega)
    rw [this]
    have h3 : (partly c l ads cur)[i]? = none := List.getElem?_eq_none (by rw [partly_len _ _ _ _ hl]; omega)
    have hk : k < ads.length := (List.getElem?_eq_some_iff.mp h1).1
    rw [if_neg (by omega), h3]
theorem mem_sel : ∀ {ads : List Addr} {cur : List (List Int)} {k : Nat} {ad : Addr} {xs : List Int}, ads[k]? = some ad → cur[k]? = some xs → xs ≠ [] → ad ∈ selOf ads cur
  | a :: ads, ys :: cur, 0, ad, xs, h1, h2, h3 => by
    cases h1; cases h2
    unfold selOf
    rw [List.zip_cons_cons, List.filter_cons]
    cases ys with
    | nil => exact absurd rfl h3
    | cons y r => exact List.mem_cons_self ..
  | a :: ads, ys :: cur, k + 1, ad, xs, h1, h2, h3 => by
    have := mem_sel (k := k) (ads := ads) (cur := cur) (by simpa using h1) (by simpa using h2) h3
    unfold selOf at this ⊢
    rw [List.zip_cons_cons, List.filter_cons]
    split
    · exact List.mem_cons_of_mem _ this
    · exact this
  | [], _, _, _, _, h1, _, _ => by simp at h1
  | _ :: _, [], _, _, _, _, h2, _ => by simp at h2
theorem partly_all {c : Int} {ads : List Addr} {cur : List (List Int)} (hl : ads.length = cur.length) : partly c (selOf ads cur) ads cur = cur.map (dropH c) := by
  apply List.ext_getElem?
  intro i
  by_cases hi : i < ads.length
  · have ha : ads[i]? = some ads[i] := List.getElem?_eq_getElem hi
    have hc : cur[i]? = some (cur[i]'(by omega)) := List.getElem?_eq_getElem (by omega)
    rw [partly_at ha hc, List.getElem?_map, hc]
    by_cases e : cur[i]'(by omega) = []
    · simp only [Option.map_some, e]
      split <;> rfl
    · rw [if_pos (mem_sel ha hc e)]; rfl
  · rw [List.getElem?_eq_none (by rw [partly_len _ _ _ _ hl]; omega), List.getElem?_eq_none (by simp; omega)]

def rowAt (ads : List Addr) (cur : List (List Int)) (ad : Addr) : List Int := ((ads.zip cur).lookup ad).getD []
def ne (ads : List Addr) (cur : List (List Int)) (ad : Addr) : Bool := !(rowAt ads cur ad).isEmpty
theorem rowAt_get : ∀ {ads : List Addr} {cur : List (List Int)} {k : Nat} {ad : Addr} {xs : List Int}, ads.Nodup → ads[k]? = some ad → cur[k]? = some xs → rowAt ads cur ad = xs
  | a :: ads, ys :: cur, 0, ad, xs, _, h1, h2 => by
    cases h1; cases h2
    unfold rowAt
    rw [List.zip_cons_cons, List.lookup_cons]; simp
  | a :: ads, ys :: cur, k + 1, ad, xs, hn, h1, h2 => by
    obtain ⟨hn1, hn2⟩ := List.nodup_cons.mp hn
    have h1' : ads[k]? = some ad := by simpa using h1
    have hne : (ad == a) = false := by
      have : ad ≠ a := fun e => hn1 (e ▸ List.mem_of_getElem? h1')
      simpa using this
    unfold rowAt
    rw [List.zip_cons_cons, List.lookup_cons, hne]
    exact rowAt_get hn2 h1' (by simpa using h2)
  | [], _, _, _, _, _, h1, _ => by simp at h1
  | _ :: _, [], _, _, _, _, _, h2 => by simp at h2
theorem sel_filter : ∀ {ads : List Addr} {cur : List (List Int)}, ads.Nodup → ads.length = cur.length → selOf ads cur = ads.filter (ne ads cur) := by
  intro ads cur hn hl
  have key : ∀ (as : List Addr) (cs : List (List Int)), as.length = cs.length → (∀ (k : Nat) ad xs, as[k]? = some ad → cs[k]? = some xs → rowAt ads cur ad = xs) → selOf as cs = as.filter (ne ads cur) := by
    intro as
    induction as with
    | nil => intro cs _ _; cases cs <;> rfl
    | cons a as ih =>
      intro cs hl h
      cases cs with
      | nil => simp at hl
      | cons c cs =>
        have h0 : rowAt ads cur a = c := h 0 a c rfl rfl
        have ih' := ih cs (by simpa using hl) (fun k ad xs e1 e2 => h (k + 1) ad xs (by simpa using e1) (by simpa using e2))
        unfold selOf at ih' ⊢
        rw [List.zip_cons_cons, List.filter_cons, List.filter_cons, ne, h0]
        show List.map _ (if (!c.isEmpty) = true then _ else _) = _
        cases c with
        | nil => exact ih'
        | cons x r => simp only [List.isEmpty_cons, Bool.not_false, if_true, List.map_cons]; rw [ih']
  exact key ads cur hl fun k ad xs e1 e2 => rowAt_get hn e1 e2
theorem dropH_ne {c : Int} {xs : List Int} (h : dropH c xs ≠ []) : xs ≠ [] := by rintro rfl; exact h rfl
theorem sel_again {ads : List Addr} {cur : List (List Int)} {c : Int} (hn : ads.Nodup) (hl : ads.length = cur.length) : (selOf ads cur).filter (ne ads (cur.map (dropH c))) = selOf ads (cur.map (dropH c)) := by
  rw [sel_filter hn hl, sel_filter hn (by simp [hl]), List.filter_filter]
  apply List.filter_congr
  intro ad had
  obtain ⟨k, hk, rfl⟩ := List.mem_iff_getElem.mp had
  have e1 := List.getElem?_eq_getElem hk
  have e2 : cur[k]? = some (cur[k]'(by omega)) := List.getElem?_eq_getElem (by omega)
  have r1 := rowAt_get hn e1 e2
  have r2 := rowAt_get hn e1 (show (cur.map (dropH c))[k]? = some (dropH c (cur[k]'(by omega))) by rw [List.getElem?_map, e2]; rfl)
  unfold ne
  rw [r1, r2]
  cases hx : cur[k]'(by omega) with
  | nil => rfl
  | cons x r => simp
end Mine

namespace Mine
section
variable {prog : Program} {w : World} {A : Around} {E : Value → Shared → Prop} {s : Shared} {env : Env} {mg mb : Str → Option Value} {g : Heap}

def total (cur : List (List Int)) : Nat := (cur.map List.length).sum

theorem wpAny_rel {M : Model} {vs keep : List Value} {Q : Unit → Shared → Prop} (h : Q () s) : wpAny M A (release vs keep) Q E s := fun Γ p _ => by rw [Sem.wp_release]; exact h

theorem Own.bring {X : Addr → Prop} {s₀ : Shared} {pre mid ex : List (Addr × Pr)} {p : Addr × Pr} (O : Own X s₀ s (pre ++ (mid ++ ex))) (hp : p ∈ ex) : Own X s₀ s (pre ++ p :: mid) := by
  obtain ⟨e1, e2, rfl⟩ := List.append_of_mem hp
  refine (O.sub (os' := pre ++ (mid ++ [p])) ?_).perm ?_
  · exact (List.Sublist.refl pre).append ((List.Sublist.refl mid).append ((List.nil_sublist e1).append ((List.nil_sublist e2).cons_cons p)))
  · exact List.Perm.append_left _ (List.perm_append_singleton ..).symm

theorem dropH_len (c : Int) (xs : List Int) : (dropH c xs).length ≤ xs.length := by
  cases xs with
  | nil => exact Nat.le_refl _
  | cons x r => show (if x = c then r else x :: r).length ≤ _; split <;> simp
theorem c3_len {rows : List (List Int)} {res : List Int} {cur : List (List Int)} (hsm : small rows) (hc : C3R rows res cur) : ∀ (k : Nat) xs, cur[k]? = some xs → xs.length ≤ 20 := by
  induction hc with
  | nil => intro k xs h; exact hsm.2 xs (List.mem_of_getElem? h)
  | @step res cur c hc hn ih =>
    intro k xs h
    rw [List.getElem?_map] at h
    cases hk : cur[k]? with
    | none => rw [hk] at h; cases h
    | some ys =>
      rw [hk] at h
      cases h
      exact Nat.le_trans (dropH_len c ys) (ih k ys hk)

theorem next_spec {cur : List (List Int)} {c : Int} (h : next cur = some c) : ∃ r, c :: r ∈ cur ∧ ∀ ys ∈ cur, ys.tail.any (· == c) = false := by
  unfold next at h
  obtain ⟨xs, hx, hn⟩ := List.exists_of_findSome?_eq_some h
  have hx' := List.mem_filter.mp hx
  cases xs with
  | nil => cases hn
  | cons a r =>
    have hn' : (if (live cur).all (fun ys => !(ys.tail.any (· == a))) = true then some a else none) = some c := hn
    by_cases hal : (live cur).all (fun ys => !(ys.tail.any (· == a))) = true
    · rw [if_pos hal] at hn'
      cases hn'
      refine ⟨r, hx'.1, fun ys hy => ?_⟩
      by_cases he : ys = []
      · subst he; rfl
      · have hyl : ys ∈ live cur := List.mem_filter.mpr ⟨hy, by cases ys <;> simp_all⟩
        have := List.all_eq_true.mp hal ys hyl
        simpa using this
    · rw [if_neg hal] at hn'; cases hn'
theorem total_le (c : Int) : ∀ cur : List (List Int), total (cur.map (dropH c)) ≤ total cur
  | [] => Nat.le_refl _
  | xs :: cur => by
    have h1 := dropH_len c xs
    have h2 := total_le c cur
    unfold total at h2 ⊢
    simp only [List.map_cons, List.sum_cons]
    omega
theorem total_lt {c : Int} {r : List Int} : ∀ {cur : List (List Int)}, c :: r ∈ cur → total (cur.map (dropH c)) < total cur
  | xs :: cur, h => by
    have h2 := total_le c cur
    rcases List.mem_cons.mp h with rfl | h
    · have e : dropH c (c :: r) = r := by show (if c = c then r else c :: r) = r; rw [if_pos rfl]
      unfold total at h2 ⊢
      simp only [List.map_cons, List.sum_cons, e, List.length_cons]
      omega
    · have h3 := total_lt h
      have h1 := dropH_len c xs
      unfold total at h3 ⊢
      simp only [List.map_cons, List.sum_cons]
      omega
theorem c3_total {rows : List (List Int)} {res : List Int} {cur : List (List Int)} (hc : C3R rows res cur) : res.length + total cur ≤ total rows := by
  induction hc with
  | nil => simp
  | step hc hn ih =>
    obtain ⟨r, hr, _⟩ := next_spec hn
    have := total_lt hr
    simp only [List.length_append, List.length_cons, List.length_nil]
    omega
theorem total_small {rows : List (List Int)} (h : small rows) : total rows ≤ 400 := by
  have key : ∀ l : List (List Int), (∀ r ∈ l, r.length ≤ 20) → total l ≤ l.length * 20 := by
    intro l
    induction l with
    | nil => intro _; exact Nat.le_refl _
    | cons x l ih =>
      intro hl
      have h1 := ih fun r hr => hl r (List.mem_cons_of_mem _ hr)
      have h2 := hl x (List.mem_cons_self ..)
      unfold total at h1 ⊢
      simp only [List.map_cons, List.sum_cons, List.length_cons, Nat.succ_mul]
      omega
  have h1 := key rows h.2
  have h2 : rows.length * 20 ≤ 20 * 20 := Nat.mul_le_mul_right _ h.1
  omega

theorem c3_spec {a R : Addr} {ads : List Addr} {rows : List (List Int)} {Q : Value → Shared → Prop} (G : GF mg mb g) (hg : Sub g s.heap) (F : FnAt mg g 4 a) (hd : A.depth < 990) (hh : A.handled = none) (hu : A.units < 9000)
    (hR : RowsAt s.heap R ads rows) (hnd : (R :: ads).Nodup) (hgX : ∀ b ∈ R :: ads, g.get? b = none) (hsm : small rows)
    (hok : ∀ Rs res cur s', C3R rows res cur → live cur = [] → Own (· ∈ R :: ads) s s' ((Rs, .ints res) :: (R, .list (ads.map .ref)) :: zipP ads cur) → Q (.ref Rs) s')
    (hbad : ∀ env s₁ res cur e s', EnvG env → env.scope = (defAt 4).scope → env.frame = some env.locals → C3R rows res cur → live cur ≠ [] → next cur = none → s₁.heap.get? e = none → (∃ m, Own (· ∈ R :: ads) s s₁ ((env.locals, .ns m) :: (R, .list (ads.map .ref)) :: zipP ads cur)) →
      (∃ tk, Heap.MadeExc s₁.heap s'.heap e "RuntimeError" [.str (Str.ofString "Inconsistent hierarchy") tk]) → s' = { s₁ with heap := s'.heap } →
      wpAny (model prog w) (A.deeper env) (noteFrame (.ref e) env) (fun _ s₂ => cameBackBy (model prog w) (A.deeper env) env (fun e s' => wpAny (model prog w) (A.deeper env) (leaving env e) (fun _ s'' => E e s'') (fun e' s'' => E e' s'') s') (.ref e) s₂)
        (fun e s₂ => cameBackBy (model prog w) (A.deeper env) env (fun e s' => wpAny (model prog w) (A.deeper env) (leaving env e) (fun _ s'' => E e s'') (fun e' s'' => E e' s'') s') e s₂) s') :
    wpAny (model prog w) A (call (.ref a) [.ref R]) Q E s := by
  refine call_fn (binds := [(Str.ofString "sequences", .ref R)]) G hg F (by show A.depth < 1000; omega) (fun _ _ _ => rfl) ?_ (hloc := locs rfl)
  intro env s₁ hE hs _ hfr O _
  have hbad' := fun s₁ res cur e s' => hbad env s₁ res cur e s' hE hs hfr
  clear hbad
  generalize hA : A.deeper env = A' at *
  have hh' : A'.handled = none := by rw [← hA]; exact hh
  have hu' : A'.units < 9003 := by rw [← hA]; show A.units + 3 < 9003; omega
  have hs20 : sizeLine = 16777216 := rfl
  have hadn : ads.Nodup := (List.nodup_cons.mp hnd).2
  have Oz : Own (· ∈ R :: ads) s s ((R, .list (ads.map .ref)) :: zipP ads rows) := by
    have hz : (zipP ads rows).map (·.1) = ads := by
      unfold zipP; rw [List.map_zipWith]
      have : (fun (b : Addr) (xs : List Int) => ((b, Pr.ints xs) : Addr × Pr).1) = fun b _ => b := rfl
      rw [this]
      apply List.ext_getElem?
      intro i
      rw [List.getElem?_zipWith]
      have hl := hR.len
      by_cases hi : i < ads.length
      · rw [List.getElem?_eq_getElem hi, List.getElem?_eq_getElem (by omega)]
      · rw [List.getElem?_eq_none (by omega)]
    refine ⟨.refl _ _, by rw [List.map_cons, hz]; exact hnd, fun p hp => .inl ?_, fun p hp => ?_⟩
    · have : p.1 ∈ ((R, Pr.list (ads.map .ref)) :: zipP ads rows).map (·.1) := List.mem_map.mpr ⟨p, hp, rfl⟩
      rw [List.map_cons, hz] at this; exact this
    · rcases List.mem_cons.mp hp with rfl | hp
      · exact hR.top
      · obtain ⟨i, hi, rfl⟩ := List.mem_iff_getElem.mp hp
        have hi' : i < ads.length ∧ i < rows.length := by have := hi; simp [zipP] at this; omega
        have e := mem_zipP (List.getElem?_eq_getElem hi'.1) (List.getElem?_eq_getElem hi'.2)
        rw [List.getElem?_eq_getElem hi] at e
        rw [Option.some.inj e]
        exact hR.row i _ _ (List.getElem?_eq_getElem hi'.1) (List.getElem?_eq_getElem hi'.2)
  have O1 := Oz.on' O
  clear Oz O
  conv => arg 3; arg 1; whnf
  refine wpAny_execs_cons (wpAny_Assign_Name (wpAny_List (wpAny_items_nil ⟨by decide, ?_⟩)))
  have O2 := O1.push { cls := .type "list", data := .seq ([] : List Value).toArray } (.ints []) ⟨[], 0, .nil, rfl⟩ s₁.toks
  refine stL O2 1 rfl hE (kind_of hs rfl) fun s₂ O3 _ _ => ?_
  generalize s₁.heap.objs.size = Rs at O3
  have O4 : Own (· ∈ R :: ads) s s₂ ((env.locals, .ns (up (fun x => List.lookup x [(Str.ofString "sequences", Value.ref R)].reverse) (Str.ofString "result") (.ref Rs))) :: (Rs, .ints []) :: (R, .list (ads.map .ref)) :: (zipP ads rows ++ [])) := by
    rw [List.append_nil]; exact O3.pick 3 [1, 0, 2]
  clear O1 O2 O3
  refine wpAny_execs_cons (wpAny_While (codeAny_whileLoop (fun n s' => ∃ res cur m sq sel ex, Own (· ∈ R :: ads) s s' ((env.locals, .ns m) :: (Rs, .ints res) :: (sq, .list (sel.map .ref)) :: (zipP ads cur ++ ex)) ∧ (∀ ad ∈ sel, ad ∈ ads) ∧ sel.length ≤ 20 ∧ sel.filter (ne ads cur) = selOf ads cur ∧ (sq = R ∧ sel = ads ∨ (R, Pr.list (ads.map .ref)) ∈ ex) ∧
    m (Str.ofString "sequences") = some (.ref sq) ∧ m (Str.ofString "result") = some (.ref Rs) ∧ ads.length = cur.length ∧ C3R rows res cur ∧ n = total cur) (fun n s' hI => ?_) (total rows) ⟨[], rows, _, R, ads, [], O4, fun _ h => h, by rw [hR.len]; exact hsm.1, (sel_filter hadn hR.len).symm, .inl ⟨rfl, rfl⟩, rfl, rfl, hR.len, .nil, rfl⟩))
  clear O4
  obtain ⟨res, cur, m, sq, sel, ex, O, hsub, hsl, hsel, hsq, hm1, hm2, hlen, hc, rfl⟩ := hI
  refine wpAny_isTrue_value (wpAny_Constant_bool (wpAny_truthy_bool ?_))
  rw [if_pos rfl]
  have hrow : ∀ (k : Nat) ad xs os' s', ads[k]? = some ad → cur[k]? = some xs → (∀ p ∈ zipP ads cur, p ∈ os') → Own (· ∈ R :: ads) s s' os' → Has s'.heap ad (.ints xs) := fun k ad xs os' s' e1 e2 hos O' => O'.has (ad, .ints xs) (hos _ (List.mem_of_getElem? (mem_zipP e1 e2)))
  have hcl : ∀ (k : Nat) xs, cur[k]? = some xs → xs.length ≤ 20 := c3_len hsm hc
  have hcur20 : cur.length ≤ 20 := by rw [← hlen, hR.len]; exact hsm.1
  obtain ⟨os0, hos0⟩ : ∃ os0, os0 = ((env.locals, Pr.ns m) :: (Rs, Pr.ints res) :: (sq, Pr.list (sel.map .ref)) :: (zipP ads cur ++ ex)) := ⟨_, rfl⟩
  have hz0 : ∀ p ∈ zipP ads cur, p ∈ os0 := fun p hp => by rw [hos0]; exact List.mem_cons_of_mem _ (List.mem_cons_of_mem _ (List.mem_cons_of_mem _ (List.mem_append_left _ hp)))
  refine wpAny_execs_cons (wpAny_mono (Q := fun f s₃ => f = .next ∧ ∃ sq' m', Own (· ∈ R :: ads) s s₃ ((env.locals, .ns m') :: (Rs, .ints res) :: (sq', .list ((selOf ads cur).map .ref)) :: (zipP ads cur ++ ((sq, .list (sel.map .ref)) :: ex))) ∧
      m' (Str.ofString "sequences") = some (.ref sq') ∧ m' (Str.ofString "result") = some (.ref Rs)) ?_ (fun f s₃ hf => ?_) fun _ _ e => e)
  · have h0 : os0[0]? = some (env.locals, .ns m) := by rw [hos0]; rfl
    have h2 : os0[2]? = some (sq, .list (sel.map .ref)) := by rw [hos0]; rfl
    have O0 : Own (· ∈ R :: ads) s s' os0 := by rw [hos0]; exact O
    refine assign_comp rfl (swaps_true hE (kind_of hs rfl)) (comp_one (X := (· ∈ R :: ads)) (s₀ := s) hE hh' (closureFor_none (by decide)) (nameL (O0.nth 0 h0) hE (kind_of hs rfl) hm1 ⟨sq, sel.map .ref, os0, rfl, O0,
      fun i ys os' => os' = os0 ∧ ys = ((sel.take i).filter (ne ads cur)).map .ref, ⟨rfl, rfl⟩, ?_, by simp; omega, ?_, ?_, ?_⟩))
    · rintro i ys os' s' ⟨rfl, _⟩ O'; exact O'.nth 2 h2
    · rintro i ys os' ⟨_, rfl⟩
      have := List.length_filter_le (ne ads cur) (sel.take i)
      simp only [List.length_map, List.length_take] at this ⊢; omega
    · rintro i v C D it ys mm os' s'' hv ⟨rfl, rfl⟩ hmm O' E'
      have hi : i < sel.length := by have := (List.getElem?_eq_some_iff.mp hv).1; simpa using this
      have hv' : v = .ref sel[i] := by
        have : (sel.map Value.ref)[i]? = some (.ref sel[i]) := by simp [List.getElem?_eq_getElem hi]
        rw [this] at hv; exact (Option.some.inj hv).symm
      subst hv'
      obtain ⟨k, hk, hka⟩ := List.mem_iff_getElem.mp (hsub _ (List.getElem_mem hi))
      have e1 : ads[k]? = some sel[i] := by rw [List.getElem?_eq_getElem hk, hka]
      have e2 : cur[k]? = some (cur[k]'(by omega)) := List.getElem?_eq_getElem (by omega)
      obtain ⟨vr, hir, hlr⟩ := (hrow k _ _ _ s'' e1 e2 (fun p hp => List.mem_cons_of_mem _ (List.mem_cons_of_mem _ (List.mem_cons_of_mem _ (hz0 p hp)))) O').ints
      have hvl := hir.length
      have h20 := hcl k _ e2
      have hne : (!vr.toArray.isEmpty) = ne ads cur sel[i] := by
        unfold ne; rw [rowAt_get hadn e1 e2]
        generalize cur[k]'(by omega) = xs at hir
        cases hir <;> rfl
      have htk : (sel.take (i + 1)).filter (ne ads cur) = (sel.take i).filter (ne ads cur) ++ (if ne ads cur sel[i] = true then [sel[i]] else []) := by
        rw [List.take_add_one, List.getElem?_eq_getElem hi, List.filter_append]; simp [List.filter_cons]
      refine tests_one (wpAny_isTrue_value (nameL (env := compEnvC _ _ C env) (O'.nth 0 rfl) (hE.comp rfl) (comp_local rfl) hmm (wpAny_truthy_list hlr.isList (by simp; omega) ?_)))
      rw [hne]
      by_cases hc1 : ne ads cur sel[i] = true
      · rw [if_pos hc1]
        rw [if_pos hc1] at htk
        refine nameL (env := compEnvC _ _ C env) (O'.nth 0 rfl) (hE.comp rfl) (comp_local rfl) hmm ⟨_, mm, ⟨rfl, ?_⟩, O'.tok _⟩
        rw [htk]; simp
      · rw [if_neg hc1]
        rw [if_neg hc1, List.append_nil] at htk
        exact ⟨_, mm, ⟨rfl, by rw [htk]⟩, O'.tok _⟩
    · rintro C D ys mm os' s'' ⟨rfl, rfl⟩ O' E'
      have e : ((sel.take (sel.map Value.ref).length).filter (ne ads cur)) = selOf ads cur := by
        rw [List.length_map, List.take_length]; exact hsel
      rw [e, hos0] at O'
      refine wpAny_assign_Name (stL O' 2 rfl hE (kind_of hs rfl) fun s₃ O3 _ _ => ?_)
      refine ⟨mm, _, O3, fun s₄ O4 => ⟨rfl, D, up m (Str.ofString "sequences") (.ref D), ?_, rfl, hm2⟩⟩
      refine (O4.pick 4 [1, 2, 0, 3]).perm ?_
      refine List.Perm.cons _ (List.Perm.cons _ (List.Perm.cons _ ?_))
      exact List.perm_middle
  · obtain ⟨rfl, sq', m', O1, hs1, hs2⟩ := hf
    dsimp only
    clear O
    have hsell : (selOf ads cur).length ≤ 20 := by rw [sel_len hlen]; have := List.length_filter_le (fun xs : List Int => !xs.isEmpty) cur; unfold live; omega
    have hmemR : (R, Pr.list (ads.map .ref)) ∈ (sq, Pr.list (sel.map .ref)) :: ex := by
      rcases hsq with ⟨rfl, rfl⟩ | h
      · exact List.mem_cons_self ..
      · exact List.mem_cons_of_mem _ h
    obtain ⟨ex', hex⟩ : ∃ ex', ex' = (sq, Pr.list (sel.map .ref)) :: ex := ⟨_, rfl⟩
    rw [← hex] at O1 hmemR
    have hbr : (!!((selOf ads cur).map Value.ref).toArray.isEmpty) = decide (live cur = []) := by
      have h1 := sel_len hlen
      cases hl : live cur with
      | nil =>
        rw [hl] at h1
        rw [List.length_eq_zero_iff.mp h1]; rfl
      | cons x r =>
        rw [hl] at h1
        cases hs' : selOf ads cur with
        | nil => rw [hs'] at h1; simp at h1
        | cons y r' => rfl
    refine wpAny_execs_cons (wpAny_If (wpAny_isTrue_Not (wpAny_isTrue_value (nameL (O1.nth 0 rfl) hE (kind_of hs rfl) hs1 (wpAny_truthy_list (O1.nth 2 rfl).isList (by simp; omega) ?_)))))
    rw [hbr]
    have O2 := O1.tok (s₃.toks + 1 + 1)
    by_cases hlv : live cur = []
    · rw [if_pos (by simpa using hlv)]
      refine wpAny_execs_cons (wpAny_Return_some (nameL (O2.nth 0 rfl) hE (kind_of hs rfl) hs2 ?_))
      refine hok Rs res cur _ hc hlv ?_
      exact (Own.bring (pre := [(env.locals, .ns m'), (Rs, .ints res), (sq', .list ((selOf ads cur).map .ref))]) O2 hmemR).pick 4 [1, 3]
    · rw [if_neg (by simpa using hlv)]
      refine wpAny_execs_nil ?_
      dsimp only
      clear O1
      obtain ⟨l, hl⟩ : ∃ l, l = live cur := ⟨_, rfl⟩
      have hpos : 0 < (selOf ads cur).length := by
        rw [sel_len hlen]
        exact List.length_pos_iff.mpr hlv
      refine wpAny_execs_cons (wpAny_mono (Q := fun f s₄ => f = .next ∧ ∃ m', Own (· ∈ R :: ads) s s₄ ((env.locals, .ns m') :: (Rs, .ints res) :: (sq', .list ((selOf ads cur).map .ref)) :: (zipP ads cur ++ ex')) ∧
          m' (Str.ofString "sequences") = some (.ref sq') ∧ m' (Str.ofString "result") = some (.ref Rs) ∧ ((∃ c t, m' (Str.ofString "candidate") = some (.int c t) ∧ next cur = some c) ∨ (m' (Str.ofString "candidate") = some .none ∧ next cur = none))) ?_ (fun f s₄ hf => ?_) fun _ _ e => e)
      · have hat : ∀ (i : Nat) v, ((selOf ads cur).map Value.ref)[i]? = some v → ∃ (ad : Addr) (k : Nat) (c : Int) (r : List Int), v = .ref ad ∧ (selOf ads cur)[i]? = some ad ∧ ads[k]? = some ad ∧ cur[k]? = some (c :: r) ∧ l[i]? = some (c :: r) := by
          intro i v hv
          rw [List.getElem?_map] at hv
          cases hsi : (selOf ads cur)[i]? with
          | none => rw [hsi] at hv; cases hv
          | some ad =>
            rw [hsi] at hv; cases hv
            obtain ⟨k, xs, h1, h2, h3, h4⟩ := sel_at i hlen hsi
            cases xs with
            | nil => exact absurd rfl h4
            | cons c r => exact ⟨ad, k, c, r, rfl, rfl, h1, h2, by rw [hl]; exact h3⟩
        have hll : ((selOf ads cur).map Value.ref).length = l.length := by rw [List.length_map, sel_len hlen, hl]
        refine For_own (X := (· ∈ R :: ads)) (s₀ := s) (nameL (O2.nth 0 rfl) hE (kind_of hs rfl) hs1 ⟨sq', (selOf ads cur).map .ref, _, rfl, O2,
          fun i os' => ∃ m', os' = (env.locals, .ns m') :: (Rs, .ints res) :: (sq', .list ((selOf ads cur).map .ref)) :: (zipP ads cur ++ ex') ∧ m' (Str.ofString "sequences") = some (.ref sq') ∧ m' (Str.ofString "result") = some (.ref Rs) ∧
            (l.take i).findSome? (nx l) = none ∧ (0 < i → m' (Str.ofString "candidate") = some .none), hh', ⟨m', rfl, hs1, hs2, rfl, fun h => absurd h (Nat.lt_irrefl _)⟩, ?_, ?_, ?_⟩)
        · rintro i os' s' ⟨m', rfl, _⟩ O'; exact O'.nth 2 rfl
        · rintro i v it os' s₅ hv ⟨m5, rfl, h51, h52, hno, _⟩ O5 E'
          obtain ⟨ad, k, c, r, rfl, hsi, e1, e2, e3⟩ := hat i v hv
          refine stL O5 1 rfl hE (kind_of hs rfl) fun s₆ O6 _ _ => ?_
          clear O5
          obtain ⟨vr, hir, hlr⟩ := (hrow k _ _ _ s₆ e1 e2 (fun p hp => List.mem_cons_of_mem _ (List.mem_cons_of_mem _ (List.mem_cons_of_mem _ (List.mem_cons_of_mem _ (List.mem_append_left _ hp))))) O6).ints
          obtain ⟨tc, vr', rfl, hir'⟩ := hir.cons_inv
          refine wpAny_execs_cons (wpAny_Assign_Name (sub_ (T := "list") (nameL (O6.nth 1 rfl) hE (kind_of hs rfl) rfl (wpAny_Constant_int ⟨hlr.isList.typeIs, wpAny_getItem_list (x := .int c tc) hlr.isList (by decide) (by decide) rfl ?_⟩)) slot_list_getitem.lookup))
          refine stL (O6.tok _) 1 rfl hE (kind_of hs rfl) fun s₇ O7 _ _ => ?_
          clear O6
          have hmid : ∀ p ∈ zipP ads cur, ∀ (a b c d f : Addr × Pr), p ∈ a :: b :: c :: d :: f :: (zipP ads cur ++ ex') := fun p hp a b c d f => List.mem_cons_of_mem _ (List.mem_cons_of_mem _ (List.mem_cons_of_mem _ (List.mem_cons_of_mem _ (List.mem_cons_of_mem _ (List.mem_append_left _ hp)))))
          refine wpAny_execs_cons (For_own (X := (· ∈ R :: ads)) (s₀ := s) (nameL (O7.nth 1 rfl) hE (kind_of hs rfl) h51 ⟨sq', (selOf ads cur).map .ref, _, rfl, O7,
            fun j os' => ∃ m', os' = (it, .iter sq' (i + 1)) :: (env.locals, .ns m') :: (Rs, .ints res) :: (sq', .list ((selOf ads cur).map .ref)) :: (zipP ads cur ++ ex') ∧ m' (Str.ofString "sequences") = some (.ref sq') ∧ m' (Str.ofString "result") = some (.ref Rs) ∧
              m' (Str.ofString "candidate") = some (.int c tc) ∧ (l.take j).all (fun ys => !(ys.tail.any (· == c))) = true, hh', ⟨_, rfl, h51, h52, rfl, rfl⟩, ?_, ?_, ?_⟩))
          · rintro j os' s' ⟨m', rfl, _⟩ O'; exact O'.nth 3 rfl
          · rintro j v it' os' s₈ hv' ⟨m8, rfl, h81, h82, h83, hall⟩ O8 E'
            obtain ⟨ad', k', c', r', rfl, hsj, f1, f2, f3⟩ := hat j v hv'
            refine stL O8 2 rfl hE (kind_of hs rfl) fun s₉ O9 _ _ => ?_
            clear O8
            obtain ⟨vq, hiq, hlq⟩ := (hrow k' _ _ _ s₉ f1 f2 (fun p hp => hmid p hp _ _ _ _ _) O9).ints
            have hq20 := hcl k' _ f2
            have hql := hiq.length
            have htk : (l.take (j + 1)).all (fun ys => !(ys.tail.any (· == c))) = ((l.take j).all (fun ys => !(ys.tail.any (· == c))) && !(r'.any (· == c))) := by
              rw [List.take_add_one, f3, List.all_append]; simp
            refine wpAny_execs_cons (wpAny_If (wpAny_isTrue_Compare1 (nameL (O9.nth 2 rfl) hE (kind_of hs rfl) h83 (wpAny_Subscript_list_slice (nameL (O9.nth 2 rfl) hE (kind_of hs rfl) rfl (wpAny_Constant_int (k := 0) (pos := default) (wpAny_pure
              ⟨ad', vq.toArray, some (1 : Int), none, rfl, hlq.isList, by simp; omega, .int _ _, .none, ?_⟩)))))))
            have O10 := ((O9.tok (s₉.toks + 1)).push_ { cls := .type "slice", data := .fields #[.int 1 s₉.toks, .none, .none] } (s₉.toks + 1)).push { cls := .type "list", data := .seq (slicePick vq.toArray (some (1 : Int)) none none) } (.list (vq.drop 1)) ⟨0, by rw [show (some (1 : Int)) = some ((1 : Nat) : Int) from rfl, slicePick_from']⟩ (s₉.toks + 1)
            have hSl : ({ s₉ with heap := s₉.heap.push { cls := .type "slice", data := .fields #[.int 1 s₉.toks, .none, .none] }, toks := s₉.toks + 1 } : Shared).heap.objs.size = s₉.heap.objs.size + 1 := Heap.size_push ..
            rw [hSl] at O10
            have hid : IntsAre (vq.drop 1) r' := hiq.drop 1
            refine in_list_ints (O10.nth 0 rfl).isList hid (wpAny_truthy_bool ?_)
            have O11 := O10.sub (List.sublist_cons_self ..)
            clear O10
            by_cases hin : (r'.any (· == c)) = true
            · rw [if_pos hin]
              refine wpAny_execs_cons (wpAny_Assign_Name (wpAny_Constant_none (stL O11 2 rfl hE (kind_of hs rfl) fun s₁₂ O12 _ _ => ?_)))
              refine wpAny_execs_cons (wpAny_Break ?_)
              refine wpAny_execs_nil ⟨_, ⟨up (up m8 (Str.ofString "s2") (.ref ad')) (Str.ofString "candidate") .none, rfl, h81, h82, ?_, fun _ => rfl⟩, O12.sub (List.sublist_cons_self ..)⟩
              rw [List.take_add_one, e3, List.findSome?_append, hno]
              show (Option.none.or (List.findSome? (nx l) [c :: r])) = none
              have : nx l (c :: r) = none := by
                show (if l.all (fun ys => !(ys.tail.any (· == c))) = true then some c else none) = none
                rw [if_neg]
                intro h
                have := List.all_eq_true.mp h _ (List.mem_of_getElem? f3)
                simp only [List.tail_cons, hin] at this
                exact absurd this (by decide)
              simp [this]
            · rw [if_neg hin]
              refine wpAny_execs_nil (wpAny_execs_nil ⟨_, ⟨up m8 (Str.ofString "s2") (.ref ad'), rfl, h81, h82, h83, ?_⟩, O11⟩)
              rw [htk, hall, eq_false_of_ne_true hin]; rfl
          · rintro os' s₈ ⟨m8, rfl, h81, h82, h83, hall⟩ O8 E'
            rw [hll, List.take_length] at hall
            refine wpAny_execs_cons (wpAny_Break ?_)
            refine ⟨rfl, m8, O8.sub (List.sublist_cons_self ..), h81, h82, .inl ⟨c, tc, h83, ?_⟩⟩
            unfold next
            rw [← hl]
            have hnx : nx l (c :: r) = some c := by
              show (if l.all (fun ys => !(ys.tail.any (· == c))) = true then some c else none) = some c
              rw [if_pos hall]
            have hil : i < l.length := (List.getElem?_eq_some_iff.mp e3).1
            have hsplit : l = l.take i ++ (c :: r) :: l.drop (i + 1) := by
              have := (List.getElem?_eq_some_iff.mp e3).2
              rw [← this, ← List.drop_eq_getElem_cons hil, List.take_append_drop]
            have key : ∀ f : List Int → Option Int, l.findSome? f = ((l.take i).findSome? f).or (((c :: r) :: l.drop (i + 1)).findSome? f) := fun f => by
              rw [← List.findSome?_append, ← hsplit]
            rw [key, hno, List.findSome?_cons, hnx]; rfl
        · rintro os' s₅ ⟨m5, rfl, h51, h52, hno, hcn⟩ O5 E'
          rw [hll, List.take_length] at hno
          refine wpAny_execs_nil ⟨rfl, m5, O5, h51, h52, .inr ⟨hcn (by simpa using hpos), ?_⟩⟩
          unfold next; rw [← hl]; exact hno
      · obtain ⟨rfl, m4, O4, h41, h42, hcand⟩ := hf
        dsimp only
        clear O2
        have hg4 : Sub g s₄.heap := hg.kp O4.kp hgX
        have hres : res.length ≤ 400 := by have := c3_total hc; have := total_small hsm; omega
        rcases hcand with ⟨c, tc, h43, hnx⟩ | ⟨h43, hnx⟩
        · refine wpAny_execs_cons (wpAny_If (wpAny_isTrue_Compare1 (nameL (O4.nth 0 rfl) hE (kind_of hs rfl) h43 (wpAny_Constant_none (is_none (wpAny_truthy_bool ?_))))))
          rw [if_neg (by simp)]
          refine wpAny_execs_nil ?_
          dsimp only
          obtain ⟨vs5, hi5, O5⟩ := O4.opens 1 rfl
          refine wpAny_execs_cons (wpAny_Expr (m_append rfl rfl (nameL (O5.nth 0 rfl) hE (kind_of hs rfl) h42 ⟨Rs, vs5, rfl, O5.nth 1 rfl, nameL (O5.nth 0 rfl) hE (kind_of hs rfl) h43 (apd O5 1 rfl (by have := hi5.length; omega) fun s₆ O6 _ _ => ?_)⟩)) hE.inter rfl)
          dsimp only
          have O7 := O6.shuts 1 rfl (hi5.append (.cons c tc .nil))
          clear O4 O5 O6
          obtain ⟨r0, hr0, htails⟩ := next_spec hnx
          have hsn : (selOf ads cur).Nodup := hadn.sublist (sel_sub ads cur hlen)
          have hp0 : partly c ((selOf ads cur).take 0) ads cur = cur := partly_nil c ads cur hlen
          have O8 : Own (· ∈ R :: ads) s s₆ ((env.locals, .ns m4) :: (Rs, .ints (res ++ [c])) :: (sq', .list ((selOf ads cur).map .ref)) :: (zipP ads (partly c ((selOf ads cur).take 0) ads cur) ++ ex')) := by rw [hp0]; exact O7
          clear O7
          refine wpAny_execs_cons (For_own (X := (· ∈ R :: ads)) (s₀ := s) (nameL (O8.nth 0 rfl) hE (kind_of hs rfl) h41 ⟨sq', (selOf ads cur).map .ref, _, rfl, O8,
            fun i os' => ∃ m', os' = (env.locals, .ns m') :: (Rs, .ints (res ++ [c])) :: (sq', .list ((selOf ads cur).map .ref)) :: (zipP ads (partly c ((selOf ads cur).take i) ads cur) ++ ex') ∧ m' (Str.ofString "sequences") = some (.ref sq') ∧ m' (Str.ofString "result") = some (.ref Rs) ∧
              m' (Str.ofString "candidate") = some (.int c tc), hh', ⟨m4, rfl, h41, h42, h43⟩, ?_, ?_, ?_⟩))
          · rintro i os' s' ⟨m', rfl, _⟩ O'; exact O'.nth 2 rfl
          · rintro i v it os' s₉ hv ⟨m9, rfl, h91, h92, h93⟩ O9 E'
            obtain ⟨ad, hsi, hva⟩ : ∃ ad, (selOf ads cur)[i]? = some ad ∧ v = .ref ad := by
              rw [List.getElem?_map] at hv
              cases hsi : (selOf ads cur)[i]? with
              | none => rw [hsi] at hv; cases hv
              | some ad => rw [hsi] at hv; cases hv; exact ⟨ad, rfl, rfl⟩
            subst hva
            obtain ⟨k, xs, e1, e2, _, hxs⟩ := sel_at i hlen hsi
            have hnt : ad ∉ (selOf ads cur).take i := by
              intro hm
              obtain ⟨q, hq, hqe⟩ := List.mem_iff_getElem.mp hm
              have hq1 : q < i := by simp at hq; omega
              have hi1 : i < (selOf ads cur).length := (List.getElem?_eq_some_iff.mp hsi).1
              rw [List.getElem_take] at hqe
              have := (List.getElem_inj (i := q) (j := i) (h₀ := by omega) (h₁ := hi1) hsn).mp (by rw [hqe, (List.getElem?_eq_some_iff.mp hsi).2])
              omega
            have hpk : (partly c ((selOf ads cur).take i) ads cur)[k]? = some xs := by rw [partly_at e1 e2, if_neg hnt]
            have hkl : k < ads.length := (List.getElem?_eq_some_iff.mp e1).1
            have hplen : ads.length = (partly c ((selOf ads cur).take i) ads cur).length := by rw [partly_len _ _ _ _ hlen]; exact hlen
            have htk : (selOf ads cur).take (i + 1) = (selOf ads cur).take i ++ [ad] := by rw [List.take_add_one, hsi]; rfl
            refine stL O9 1 rfl hE (kind_of hs rfl) fun s₁₀ O10 _ _ => ?_
            clear O9
            have hzl : (zipP ads (partly c ((selOf ads cur).take i) ads cur))[k]? = some (ad, .ints xs) := mem_zipP e1 hpk
            have hzlen : k < (zipP ads (partly c ((selOf ads cur).take i) ads cur)).length := (List.getElem?_eq_some_iff.mp hzl).1
            have hidx : ∀ (a b c' d : Addr × Pr), (a :: b :: c' :: d :: (zipP ads (partly c ((selOf ads cur).take i) ads cur) ++ ex'))[k + 4]? = some (ad, .ints xs) := fun a b c' d => by
              show (zipP ads (partly c ((selOf ads cur).take i) ads cur) ++ ex')[k]? = _
              rw [List.getElem?_append_left hzlen]; exact hzl
            obtain ⟨y, r, rfl⟩ : ∃ y r, xs = y :: r := by cases xs with | nil => exact absurd rfl hxs | cons y r => exact ⟨y, r, rfl⟩
            obtain ⟨vx, hix, hlx⟩ := (O10.nth (k + 4) (hidx _ _ _ _)).ints
            obtain ⟨ty, vx', rfl, hix'⟩ := hix.cons_inv
            have hx20 := hcl k _ e2
            refine wpAny_execs_cons (wpAny_If (wpAny_isTrue_Compare1 (sub_ (T := "list") (nameL (O10.nth 1 rfl) hE (kind_of hs rfl) rfl (wpAny_Constant_int ⟨hlx.isList.typeIs, wpAny_getItem_list (x := .int y ty) hlx.isList (by decide) (by decide) rfl
              (nameL ((O10.tok _).nth 1 rfl) hE (kind_of hs rfl) h93 (eq_int (wpAny_truthy_bool ?_)))⟩)) slot_list_getitem.lookup)))
            have O11 := O10.tok (s₁₀.toks + 1)
            clear O10
            by_cases hyc : y = c
            · rw [if_pos (by simpa using hyc)]
              have hdr : dropH c (y :: r) = r := by show (if y = c then r else y :: r) = r; rw [if_pos hyc]
              refine wpAny_execs_cons (wpAny_Delete (wpAny_deleteEach_cons ?_))
              show wpAny _ _ (eval _ env >>= fun ov => holding [ov] (eval _ env) >>= fun iv => standAt _ >>= fun _ => holding [ov, iv] (delItem ov iv) >>= fun _ => release [ov, iv] []) _ _ _
              refine wpAny_bind (nameL (O11.nth 1 rfl) hE (kind_of hs rfl) rfl (wpAny_bind (wpAny_holding (wpAny_Constant_int (k := 0) (pos := default) (wpAny_bind (wpAny_standAt (wpAny_bind (wpAny_holding ?_))))))))
              refine wpAny_delItem_plain (k := 0) hlx.plain (fitsIndex_of (by decide) (by decide)) (seqIndex_of (by decide) (by simp)) (fun h' hpl hsb => ?_) (by have := hix.length; simp at this ⊢; simp at hx20; omega)
              have hkp : Kp (· = ad) { s₁₀ with toks := s₁₀.toks + 1 } { s₁₀ with heap := h', toks := s₁₀.toks + 1 + 1 } := ⟨fun b _ n e => (hsb.2 b n).trans e, rfl, id⟩
              have hpl' : Has h' ad (.ints r) := by
                have e : ((Value.int y ty :: vx').toArray.eraseIdxIfInBounds 0).toList = vx' := by simp
                have := Has.of_plain hpl
                rw [e] at this
                exact this.of_ints hix'
              have O12 := O11.upd (k + 4) (hidx _ _ _ _) hkp hpl'
              refine wpAny_rel (wpAny_deleteEach_nil (wpAny_execs_nil (wpAny_execs_nil ⟨_, ⟨up m9 (Str.ofString "seq") (.ref ad), rfl, h91, h92, h93⟩, ?_⟩)))
              rw [htk, partly_snoc hlen hadn e1 e2 hnt, hdr, ← zipP_set r e1 hplen, ← List.set_append_left _ _ hzlen]
              exact O12
            · rw [if_neg (by simpa using hyc)]
              have hdr : dropH c (y :: r) = y :: r := by show (if y = c then r else y :: r) = _; rw [if_neg hyc]
              refine wpAny_execs_nil (wpAny_execs_nil ⟨_, ⟨up m9 (Str.ofString "seq") (.ref ad), rfl, h91, h92, h93⟩, ?_⟩)
              rw [htk, partly_snoc hlen hadn e1 e2 hnt, hdr]
              have : (partly c ((selOf ads cur).take i) ads cur).set k (y :: r) = partly c ((selOf ads cur).take i) ads cur := by
                apply List.ext_getElem?
                intro q
                rw [List.getElem?_set]
                split
                · rename_i e; subst e
                  rw [hpk]; simp; rw [← hplen]; exact hkl
                · rfl
              rw [this]
              exact O11
          · rintro os' s₉ ⟨m9, rfl, h91, h92, h93⟩ O9 E'
            rw [List.length_map, List.take_length, partly_all hlen] at O9
            refine wpAny_execs_nil (wpAny_execs_nil ⟨total (cur.map (dropH c)), total_lt hr0, res ++ [c], cur.map (dropH c), m9, sq', selOf ads cur, ex', O9, fun ad had => (sel_sub ads cur hlen).subset had, hsell, sel_again hadn hlen, .inr ?_, h91, h92, by simp [hlen], .step hc hnx, rfl⟩)
            exact hmemR
        · refine wpAny_execs_cons (wpAny_If (wpAny_isTrue_Compare1 (nameL (O4.nth 0 rfl) hE (kind_of hs rfl) h43 (wpAny_Constant_none (is_none (wpAny_truthy_bool ?_))))))
          rw [if_pos (by simp)]
          refine wpAny_execs_cons (wpAny_Raise_call PySem.F.excCall_RuntimeError PySem.F.excRaise_RuntimeError hh' rfl (nameB G hg4 hE (kind_of hs rfl) (G.no _ (by decide)) (bi_RuntimeError G) ⟨rfl, Calls.evalArgs_plain (Calls.spliced_cons (Calls.Constant_str (k := 0) (pos := default) (Calls.spliced_nil ⟨rfl, Nat.le_of_ble_eq_true rfl, fun h' e hx => ?_⟩)))⟩))
          refine hbad' { s₄ with toks := s₄.toks + 1 } res cur e _ hc hlv hnx hx.new ⟨m4, ?_⟩ ⟨s₄.toks, hx⟩ rfl
          exact (Own.bring (pre := [(env.locals, .ns m4), (Rs, .ints res), (sq', .list ((selOf ads cur).map .ref))]) (O4.tok _) hmemR).pick 4 [0, 3]
end
end Mine

namespace Mine
section
variable {prog : Program} {w : World} {A : Around} {E : Value → Shared → Prop} {s : Shared} {env : Env} {mg mb : Str → Option Value} {g : Heap}

theorem Own.monoX {X Y : Addr → Prop} {s₀ : Shared} {os : List (Addr × Pr)} (O : Own X s₀ s os) (h : ∀ b, X b → Y b) : Own Y s₀ s os :=
  ⟨O.kp.mono h, O.nd, fun p hp => (O.new p hp).imp (h _) id, O.has⟩

/-- slots may change -/
def Pr.loose (p : Pr) : Prop := ∀ o sl, p.on o → p.on { o with slots := sl }
theorem loose_ns (m) : (Pr.ns m).loose := fun _ _ h => h

theorem Own.slots {X : Addr → Prop} {s₀ : Shared} {os : List (Addr × Pr)} {S : List Addr} {h' : Heap} (O : Own X s₀ s os) (x : Heap.SlotsOnly S s.heap h') (hX : ∀ b ∈ S, X b ∨ s₀.heap.get? b = none) (hos : ∀ p ∈ os, p.1 ∈ S → p.2.loose) :
    Own X s₀ { s with heap := h' } os where
  kp := O.kp.trans' (Y := (· ∈ S)) ⟨fun b o n e => (x.2.1 b n).trans e, rfl, id⟩ hX
  nd := O.nd
  new := O.new
  has := fun p hp => by
    obtain ⟨o, ho, hon⟩ := O.has p hp
    by_cases hS : p.1 ∈ S
    · obtain ⟨sl, hsl⟩ := x.2.2 _ _ ho
      exact ⟨_, hsl, hos p hp hS o sl hon⟩
    · exact ⟨o, (x.2.1 _ hS).trans ho, hon⟩

/-- the exception, and its newest entry -/
def excPr (t : Addr) (tb : Value) : Pr := .raw fun o => o = { cls := .type "RuntimeError", data := .fields #[.ref t, tb, .none, .none, .bool false, .none] }
def tbPr (fl : Value) : Pr := .raw fun o => ∃ ts, o.data = .fields ts ∧ ts[3]? = some fl

/-- the frames l are as they were but for their slots -/
def SlotK (l : List Addr) (s s' : Shared) : Prop := ∀ b ∈ l, ∀ o, s.heap.get? b = some o → ∃ sl, s'.heap.get? b = some { o with slots := sl }
theorem SlotK.trans {l : List Addr} {s s₁ s₂ : Shared} (a : SlotK l s s₁) (b : SlotK l s₁ s₂) : SlotK l s s₂ := fun c hc o e => let ⟨_, h1⟩ := a c hc o e; let ⟨sl, h2⟩ := b c hc _ h1; ⟨sl, h2⟩
theorem SlotK.of_kp {l : List Addr} {X : Addr → Prop} {s s' : Shared} (k : Kp X s s') (h : ∀ b ∈ l, ¬ X b) : SlotK l s s' := fun b hb o e => ⟨o.slots, k.get b o (h b hb) e⟩
theorem SlotK.sub {l l' : List Addr} {s s' : Shared} (a : SlotK l s s') (h : ∀ b ∈ l', b ∈ l) : SlotK l' s s' := fun b hb => a b (h b hb)
theorem SlotK.fun_ {l : List Env} {s s' : Shared} (a : SlotK (l.filterMap (·.frame)) s s') (h : s.heap.FunFrames {} l) : s'.heap.FunFrames {} l := by
  induction l with
  | nil => trivial
  | cons env l ih =>
    obtain ⟨hk, ⟨L, o, hf, hn, ho, hd⟩, hr⟩ := h
    have hm : L ∈ (env :: l).filterMap (·.frame) := by rw [List.filterMap_cons, hf]; exact List.mem_cons_self ..
    obtain ⟨sl, hs⟩ := a L hm o ho
    exact ⟨hk, ⟨L, _, hf, hn, hs, hd⟩, ih (a.sub fun b hb => by rw [List.filterMap_cons, hf]; exact List.mem_cons_of_mem _ hb) hr⟩

def frs (l : List Env) : List Addr := l.filterMap (·.frame)

theorem Own.fields {X : Addr → Prop} {s₀ : Shared} {os : List (Addr × Pr)} (O : Own X s₀ s os) (n : Nat) {a : Addr} {p p' : Pr} (h0 : os[n]? = some (a, p)) {i : Nat} {v : Value} {Q : Unit → Shared → Prop} {M : Model}
    (hf : ∀ o, p.on o → ∃ vs, o.data = .fields vs ∧ i < vs.size) (hp : ∀ o, p.on o → p'.on (o.mapFields (·.setIfInBounds i v))) (h : ∀ s', Own X s₀ s' (os.set n (a, p')) → Kp (· = a) s s' → Q () s') : wpAny M A (setField (.ref a) i v) Q E s := by
  obtain ⟨o, ho, hon⟩ := O.nth n h0
  obtain ⟨vs, hd, hi⟩ := hf o hon
  refine wpAny_setField ho hd hi (h _ (O.upd n h0 (Kp.same (t := s.toks) (Heap.SameBut.update ..)) ⟨_, Heap.get?_update_self _ ho (Obj.isFreed_of_fields (Obj.data_mapFields hd _)), hp o hon⟩) (Kp.same (t := s.toks) (Heap.SameBut.update ..)))
theorem tbPr_fields {fl : Value} : ∀ o, (tbPr fl).on o → ∃ vs, o.data = .fields vs ∧ 3 < vs.size := fun _ ⟨ts, h1, h2⟩ => ⟨ts, h1, (Array.getElem?_eq_some_iff.mp h2).1⟩
theorem tbPr_set {fl fl' : Value} : ∀ o, (tbPr fl).on o → (tbPr fl').on (o.mapFields (·.setIfInBounds 3 fl')) := fun _ ⟨ts, h1, h2⟩ => ⟨_, Obj.data_mapFields h1 _, by
  have := (Array.getElem?_eq_some_iff.mp h2).1
  simp [this]⟩
theorem excPr_fields {t : Addr} {tb : Value} : ∀ o, (excPr t tb).on o → ∃ vs, o.data = .fields vs ∧ 1 < vs.size := fun o h => by
  have h' : o = _ := h
  subst h'
  exact ⟨_, rfl, by simp⟩
theorem excPr_set {t : Addr} {tb tb' : Value} : ∀ o, (excPr t tb).on o → (excPr t tb').on (o.mapFields (·.setIfInBounds 1 tb')) := fun o (h : o = _) => by rw [h]; rfl

/-- a new entry for the frame L, laid at the exception -/
theorem newEntry_own {X : Addr → Prop} {s₀ : Shared} {os : List (Addr × Pr)} {M : Model} {outer : List Env} {L e t : Addr} {tb head : Value} {hadNext : Bool} {Q : Unit → Shared → Prop} (hfr : A.frames = some (env :: outer)) (hl : s.heap.FunFrames {} (env :: outer)) (hf : env.frame = some L)
    (O : Own X s₀ s ((e, excPr t tb) :: os)) (hX : ∀ b ∈ frs (env :: outer), X b ∨ s₀.heap.get? b = none) (hos : ∀ p ∈ os, p.1 ∈ frs (env :: outer) → p.2.loose)
    (h : ∀ tb' s', Own X s₀ s' ((tb', tbPr (rawInt L)) :: (e, excPr t (.ref tb')) :: os) → SlotK (frs (env :: outer)) s s' → Q () s') :
    wpAny M A (do let a ← frameOf env; let pl ← entryPlaceOf L hadNext; let b ← EntryCells.newEntry head a .none (rawInt L) .none pl; setField (.ref e) 1 b) Q E s := by
  have hene : e ∉ frs (env :: outer) := fun hm => by
    obtain ⟨_, o, ho, hnf⟩ := hl.mem hm
    obtain ⟨o', ho', hon⟩ := O.nth 0 rfl
    rw [ho] at ho'; cases ho'
    obtain ⟨vs, hd, _⟩ := excPr_fields o hon
    exact hnf vs hd
  refine wpAny_bind (wpAny_frameOf_fun hfr hl hf fun h₁ hs₁ => ?_)
  refine wpAny_bind (wpAny_entryPlaceOf fun pl hpl => ?_)
  have O1 := O.slots hs₁ hX (fun p hp hS => by
    rcases List.mem_cons.mp hp with rfl | hp
    · exact absurd hS hene
    · exact hos p hp hS)
  unfold EntryCells.newEntry newFields
  refine wpAny_bind (wpAny_newObj_type ?_ (hpl.sizeOk5 _ _ _ _ _))
  have O2 := O1.push { cls := .type "traceback", dict := none, data := .fields ([head, .ref L, .none, rawInt L, .none] ++ (if pl.isEmpty then List.replicate 6 Value.none else pl)).toArray } (tbPr (rawInt L)) ⟨_, rfl, by simp⟩ s.toks
  refine O2.fields 1 rfl excPr_fields excPr_set fun s' O3 k3 => ?_
  refine h _ s' O3 fun b hb o ho => ?_
  obtain ⟨sl, hs⟩ := hs₁.2.2 b o ho
  exact ⟨sl, k3.get b _ (fun e => hene (e ▸ hb)) (Heap.get?_push_of_some _ hs)⟩

/-- the exception is noted in its first frame -/
theorem note_first {X : Addr → Prop} {s₀ : Shared} {os : List (Addr × Pr)} {M : Model} {outer : List Env} {L e t : Addr} {Q : Unit → Shared → Prop} (hfr : A.frames = some (env :: outer)) (hl : s.heap.FunFrames {} (env :: outer)) (hf : env.frame = some L)
    (O : Own X s₀ s ((e, excPr t .none) :: os)) (hX : ∀ b ∈ frs (env :: outer), X b ∨ s₀.heap.get? b = none) (hos : ∀ p ∈ os, p.1 ∈ frs (env :: outer) → p.2.loose)
    (h : ∀ tb' s', Own X s₀ s' ((tb', tbPr (rawInt L)) :: (e, excPr t (.ref tb')) :: os) → SlotK (frs (env :: outer)) s s' → Q () s') : wpAny M A (noteFrame (.ref e) env) Q E s := by
  obtain ⟨o, ho, hon⟩ := O.nth 0 rfl
  have hon' : o = _ := hon
  subst hon'
  unfold noteFrame
  simp only [hf]
  refine wpAny_bind (wpAny_field ho rfl (x := .none) rfl ?_)
  rw [if_neg (by decide)]
  exact newEntry_own hfr hl hf O hX hos h
/-- the exception is noted in a further frame -/
theorem note_next {X : Addr → Prop} {s₀ : Shared} {os : List (Addr × Pr)} {M : Model} {outer : List Env} {L e t tb : Addr} {Q : Unit → Shared → Prop} (hfr : A.frames = some (env :: outer)) (hl : s.heap.FunFrames {} (env :: outer)) (hf : env.frame = some L)
    (O : Own X s₀ s ((tb, tbPr .none) :: (e, excPr t (.ref tb)) :: os)) (hX : ∀ b ∈ frs (env :: outer), X b ∨ s₀.heap.get? b = none) (hos : ∀ p ∈ os, p.1 ∈ frs (env :: outer) → p.2.loose)
    (h : ∀ tb' s', Own X s₀ s' ((tb', tbPr (rawInt L)) :: (e, excPr t (.ref tb')) :: os) → SlotK (frs (env :: outer)) s s' → Q () s') : wpAny M A (noteFrame (.ref e) env) Q E s := by
  obtain ⟨o, ho, hon⟩ := O.nth 1 rfl
  have hon' : o = _ := hon
  subst hon'
  obtain ⟨o2, ho2, ts, hd2, h3⟩ := O.nth 0 rfl
  have htbf : tb ∉ frs (env :: outer) := fun hm => by
    obtain ⟨_, o', ho', hnf⟩ := hl.mem hm
    rw [ho2] at ho'; cases ho'
    exact hnf ts hd2
  unfold noteFrame
  simp only [hf]
  refine wpAny_bind (wpAny_field ho rfl (x := .ref tb) rfl ?_)
  rw [if_pos (show (Value.ref tb != Value.none) = true from by simp)]
  refine wpAny_bind (wpAny_field ho2 hd2 h3 ?_)
  rw [if_neg (show ¬ ((Value.none == rawInt L) = true) from by simp [rawInt])]
  refine wpAny_bind (O.fields 0 rfl tbPr_fields tbPr_set fun s₁ O1 k1 => ?_)
  have sk := SlotK.of_kp (l := frs (env :: outer)) k1 (fun b hb e => htbf (e ▸ hb))
  exact newEntry_own hfr (sk.fun_ hl) hf (O1.sub (List.sublist_cons_self ..)) hX hos fun tb' s' O' sk' => h tb' s' O' (sk.trans sk')

theorem note_here {X : Addr → Prop} {s₀ : Shared} {os : List (Addr × Pr)} {M : Model} {L e t tb : Addr} {Q : Unit → Shared → Prop} (hf : env.frame = some L) (O : Own X s₀ s ((tb, tbPr (rawInt L)) :: (e, excPr t (.ref tb)) :: os)) (h : Q () s) : wpAny M A (noteFrame (.ref e) env) Q E s := by
  obtain ⟨o, ho, hon⟩ := O.nth 1 rfl
  have hon' : o = _ := hon
  subst hon'
  obtain ⟨o2, ho2, ts, hd2, h3⟩ := O.nth 0 rfl
  exact wpAny_noteFrame_inFlight hf ho rfl rfl ho2 hd2 h3 h
theorem flight {X : Addr → Prop} {s₀ : Shared} {os : List (Addr × Pr)} {M : Model} {e t tb : Addr} {fl : Value} {fr : Option Addr} {Q : Unit → Shared → Prop} (O : Own X s₀ s ((tb, tbPr fl) :: (e, excPr t (.ref tb)) :: os))
    (h : ∀ s', Own X s₀ s' ((tb, tbPr (fr.elim .none fun f => rawInt f)) :: (e, excPr t (.ref tb)) :: os) → Kp (· = tb) s s' → Q () s') : wpAny M A (setFlight (.ref e) fr) Q E s := by
  obtain ⟨o, ho, hon⟩ := O.nth 1 rfl
  have hon' : o = _ := hon
  subst hon'
  unfold setFlight
  refine wpAny_bind (wpAny_field ho rfl (x := .ref tb) rfl ?_)
  rw [if_pos (show (Value.ref tb != Value.none) = true from by simp)]
  exact O.fields 0 rfl tbPr_fields tbPr_set h

/-- from the raise out of its own frame -/
theorem raise_out {X : Addr → Prop} {s₀ : Shared} {os : List (Addr × Pr)} {M : Model} {outer : List Env} {L e t : Addr} (hfr : A.frames = some (env :: outer)) (hl : s.heap.FunFrames {} (env :: outer)) (hf : env.frame = some L)
    (O : Own X s₀ s ((e, excPr t .none) :: os)) (hX : ∀ b ∈ frs (env :: outer), X b ∨ s₀.heap.get? b = none) (hos : ∀ p ∈ os, p.1 ∈ frs (env :: outer) → p.2.loose)
    (h : ∀ tb s', Own X s₀ s' ((tb, tbPr .none) :: (e, excPr t (.ref tb)) :: os) → SlotK (frs (env :: outer)) s s' → E (.ref e) s') :
    wpAny M A (noteFrame (.ref e) env) (fun _ s₂ => cameBackBy M A env (fun e s' => wpAny M A (leaving env e) (fun _ s'' => E e s'') (fun e' s'' => E e' s'') s') (.ref e) s₂)
        (fun e s₂ => cameBackBy M A env (fun e s' => wpAny M A (leaving env e) (fun _ s'' => E e s'') (fun e' s'' => E e' s'') s') e s₂) s := by
  refine note_first hfr hl hf O hX hos fun tb s₁ O1 sk1 => ?_
  have htbf : ∀ s₂, SlotK (frs (env :: outer)) s s₂ → Own X s₀ s₂ ((tb, tbPr (rawInt L)) :: (e, excPr t (.ref tb)) :: os) → tb ∉ frs (env :: outer) := fun s₂ sk2 O2 hm => by
    obtain ⟨_, o', ho', hnf⟩ := (sk2.fun_ hl).mem hm
    obtain ⟨o2, ho2, ts, hd2, _⟩ := O2.nth 0 rfl
    rw [ho2] at ho'; cases ho'
    exact hnf ts hd2
  have htb := htbf s₁ sk1 O1
  unfold cameBackBy
  obtain ⟨o, ho, hon⟩ := O1.nth 1 rfl
  have hon' : o = _ := hon
  subst hon'
  refine wpAny_bind (wpAny_field ho rfl (x := .ref tb) rfl ?_)
  rw [if_neg (show ¬ ((Value.ref tb == Value.none) = true) from by simp)]
  rw [hf]
  refine flight O1 fun s₂ O2 k2 => ?_
  have sk2 := SlotK.of_kp (l := frs (env :: outer)) k2 (fun b hb e => htb (e ▸ hb))
  unfold leaving
  refine wpAny_bind (note_here hf O2 (flight O2 fun s₃ O3 k3 => ?_))
  have sk3 := SlotK.of_kp (l := frs (env :: outer)) k3 (fun b hb e => htb (e ▸ hb))
  exact h tb s₃ O3 ((sk1.trans sk2).trans sk3)
end
end Mine

namespace Mine
section
variable {prog : Program} {w : World} {A : Around} {E : Value → Shared → Prop} {s : Shared} {env : Env} {mg mb : Str → Option Value} {g : Heap}

theorem RowsAt.kp {X : Addr → Prop} {s s' : Shared} {R : Addr} {ads : List Addr} {rows : List (List Int)} (h : RowsAt s.heap R ads rows) (k : Kp X s s') (n : ∀ b ∈ R :: ads, ¬ X b) : RowsAt s'.heap R ads rows :=
  ⟨h.top.kp k (n _ (List.mem_cons_self ..)), h.len, fun i ad xs e1 e2 => (h.row i ad xs e1 e2).kp k (n _ (List.mem_cons_of_mem _ (List.mem_of_getElem? e1)))⟩
theorem RowsAt.is {h : Heap} {R : Addr} {ads : List Addr} {rows : List (List Int)} (x : RowsAt h R ads rows) : ∀ b ∈ R :: ads, ∃ o, h.get? b = some o := fun b hb => by
  rcases List.mem_cons.mp hb with rfl | hb
  · obtain ⟨o, ho, _⟩ := x.top; exact ⟨o, ho⟩
  · obtain ⟨i, hi, rfl⟩ := List.mem_iff_getElem.mp hb
    obtain ⟨o, ho, _⟩ := x.row i _ _ (List.getElem?_eq_getElem hi) (List.getElem?_eq_getElem (by rw [← x.len]; exact hi))
    exact ⟨o, ho⟩

/-- what _law_merged may change -/
def XF (R : Addr) (ads : List Addr) (outer : List Env) : Addr → Prop := fun b => b ∈ R :: ads ∨ b ∈ frs outer

theorem frs_is {h : Heap} {l : List Env} (x : h.FunFrames {} l) : ∀ b ∈ frs l, ∃ o, h.get? b = some o := fun b hb => by
  obtain ⟨_, o, ho, _⟩ := x.mem hb
  exact ⟨o, ho⟩
theorem frs_cons {l : List Env} {L : Addr} (hf : env.frame = some L) : frs (env :: l) = L :: frs l := by unfold frs; rw [List.filterMap_cons, hf]

def merged (s : Shared) (R : Addr) (ads : List Addr) (rows : List (List Int)) (outer : List Env) (v : Value) (s' : Shared) : Prop :=
  ∃ res cur, C3R rows res cur ∧ SlotK (frs outer) s s' ∧
    ((live cur = [] ∧ ∃ Rs, v = .ref Rs ∧ Own (XF R ads outer) s s' ((Rs, .ints res) :: (R, .list (ads.map .ref)) :: zipP ads cur)) ∨
     (live cur ≠ [] ∧ next cur = none ∧ (∃ tk, v = .str (Str.ofString "Inconsistent hierarchy") tk) ∧ Own (XF R ads outer) s s' ((R, .list (ads.map .ref)) :: zipP ads cur)))

theorem merged_spec {a R : Addr} {ads : List Addr} {rows : List (List Int)} {outer : List Env} (G : GF mg mb g) (hg : Sub g s.heap) (F : FnAt mg g 10 a) (hd : A.depth < 980) (hh : A.handled = none) (hu : A.units < 8000)
    (hfr : A.frames = some outer) (hff : s.heap.FunFrames {} outer) (hR : RowsAt s.heap R ads rows) (hnd : (R :: ads).Nodup) (hgX : ∀ b ∈ R :: ads, g.get? b = none) (hsm : small rows)
    (hdis : ∀ b ∈ frs outer, b ∉ R :: ads) (hgF : ∀ b ∈ frs outer, g.get? b = none) :
    wpAny (model prog w) A (call (.ref a) [.ref R]) (merged s R ads rows outer) E s := by
  refine call_fn (binds := [(Str.ofString "rows", .ref R)]) G hg F (by show A.depth < 1000; omega) (fun _ _ _ => rfl) ?_ (hloc := locs rfl)
  intro env s₁ hE hs _ hf O _
  obtain ⟨a4, F4⟩ := G.fn 4 (by decide)
  have hfr2 : (A.deeper env).frames = some (env :: outer) := Around.frames_deeper hfr
  have hd2 : (A.deeper env).depth < 990 := by show A.depth + 1 < 990; omega
  have hu2 : (A.deeper env).units < 8003 := by show A.units + 3 < 8003; omega
  have hh2 : (A.deeper env).handled = none := hh
  generalize hA : A.deeper env = A2 at *
  have hL : s.heap.get? env.locals = none := (O.new (env.locals, _) (List.mem_cons_self ..)).resolve_left id
  have hLR : env.locals ∉ R :: ads := fun hm => by obtain ⟨o, ho⟩ := hR.is _ hm; rw [hL] at ho; cases ho
  have hLF : env.locals ∉ frs outer := fun hm => by obtain ⟨o, ho⟩ := frs_is hff _ hm; rw [hL] at ho; cases ho
  have sk1 : SlotK (frs outer) s s₁ := SlotK.of_kp O.kp fun _ _ h => h
  have hff1 : s₁.heap.FunFrames {} (env :: outer) := Heap.FunFrames.cons (by rw [hE.kind]; decide) hf (O.nth 0 rfl).ns rfl (sk1.fun_ hff)
  have hg1 : Sub g s₁.heap := hg.kp O.kp fun _ h => h.elim
  have hX : ∀ b, b ∈ R :: ads → XF R ads outer b := fun b h => .inl h
  have O0 : Own (XF R ads outer) s s₁ _ := O.monoX fun _ h => h.elim
  have hfe := frs_cons (l := outer) hf
  conv => arg 3; arg 1; whnf
  refine wpAny_execs_cons (wpAny_Try_except (wpAny_execs_cons (wpAny_Return_some (callF ?_))))
  refine nameG G hg1 hE (kind_of hs rfl) F4.1 ⟨a4, rfl, Calls.spliced_cons (nameL (O.nth 0 rfl) hE (kind_of hs rfl) rfl (Calls.spliced_nil ⟨?_, ?_⟩))⟩
  · obtain ⟨_, o, pm, cd, doc, ho, hdt, _⟩ := F4
    exact ⟨o, _, hg1 _ _ ho, hdt⟩
  refine c3_spec G hg1 F4 hd2 hh2 (by omega) (hR.kp O.kp fun _ _ h => h) hnd hgX hsm ?_ ?_
  · intro Rs res cur s' hc hlv P
    have O2 := O0.on P (fun b h => .inl (.inl h)) (fun p hp => by rcases List.mem_singleton.mp hp with rfl; exact hLR)
    refine ⟨res, cur, hc, sk1.trans (SlotK.of_kp P.kp hdis), .inl ⟨hlv, Rs, rfl, O2.sub ?_⟩⟩
    exact List.sublist_append_left ..
  · intro env4 s₃ res cur e s₄ hE4 hs4 hf4 hc hlv hnx hen ⟨m4, P⟩ ⟨tk, hx⟩ hs₄
    obtain ⟨t, he, htn, ht⟩ := hx.there
    have O3 := (O0.on P (fun b h => .inl (.inl h)) (fun p hp => by rcases List.mem_singleton.mp hp with rfl; exact hLR)).perm List.perm_append_comm
    have hgXF : ∀ b, XF R ads outer b → g.get? b = none := fun b h => h.elim (hgX b) (hgF b)
    have sk3 : SlotK (frs (env :: outer)) s₁ s₃ := SlotK.of_kp P.kp fun b hb => by
      rw [hfe] at hb
      rcases List.mem_cons.mp hb with rfl | hb
      · exact hLR
      · exact hdis b hb
    have hff3 : s₃.heap.FunFrames {} (env4 :: env :: outer) := Heap.FunFrames.cons (by rw [hE4.kind]; decide) hf4 (O3.nth 1 rfl).ns rfl (sk3.fun_ hff1)
    have hfe4 := frs_cons (l := env :: outer) hf4
    have hte : e ≠ t := fun h => by
      subst h; rw [he] at ht
      have := congrArg Obj.data (Option.some.inj ht)
      cases this
    have P4 : Own No s₃ s₄ [(e, excPr t .none), (t, .raw fun o => o = { cls := .type "tuple", data := .seq [Value.str (Str.ofString "Inconsistent hierarchy") tk].toArray })] := by
      refine ⟨⟨fun b o _ h => hx.keeps b o h, by rw [hs₄], fun h => by rw [hs₄]; exact h⟩, by simp [hte], fun p hp => ?_, fun p hp => ?_⟩
      · rcases List.mem_cons.mp hp with rfl | hp
        · exact .inr hen
        · rcases List.mem_singleton.mp hp with rfl; exact .inr htn
      · rcases List.mem_cons.mp hp with rfl | hp
        · exact ⟨_, he, rfl⟩
        · rcases List.mem_singleton.mp hp with rfl; exact ⟨_, ht, rfl⟩
    have O4 := O3.on' P4
    have sk4 : SlotK (frs (env4 :: env :: outer)) s₃ s₄ := SlotK.of_kp P4.kp fun _ _ h => h
    have hin : ∀ b ∈ frs (env4 :: env :: outer), XF R ads outer b ∨ s.heap.get? b = none := fun b hb => by
      rw [hfe4, hfe] at hb
      rcases List.mem_cons.mp hb with rfl | hb
      · exact O3.new _ (List.mem_of_getElem? (i := 1) rfl)
      · rcases List.mem_cons.mp hb with rfl | hb
        · exact .inr hL
        · exact .inl (.inr hb)
    have hlo : ∀ p ∈ [(t, Pr.raw fun o => o = { cls := .type "tuple", data := .seq [Value.str (Str.ofString "Inconsistent hierarchy") tk].toArray })] ++ ([(env.locals, Pr.ns (fun x => [(Str.ofString "rows", Value.ref R)].reverse.lookup x))] ++ (env4.locals, Pr.ns m4) :: (R, .list (ads.map .ref)) :: zipP ads cur), p.1 ∈ frs (env4 :: env :: outer) → p.2.loose := by
      intro p hp hm
      rcases List.mem_append.mp hp with hp | hp
      · rcases List.mem_singleton.mp hp with rfl
        obtain ⟨o, ho⟩ := frs_is hff3 _ hm
        rw [htn] at ho; cases ho
      · rcases List.mem_append.mp hp with hp | hp
        · rcases List.mem_singleton.mp hp with rfl; exact loose_ns _
        · rcases List.mem_cons.mp hp with rfl | hp
          · exact loose_ns _
          · exfalso
            have hnd3 := O3.nd
            have hp1 : p.1 ∈ ((R, Pr.list (ads.map .ref)) :: zipP ads cur).map (·.1) := List.mem_map.mpr ⟨p, hp, rfl⟩
            rw [hfe4, hfe] at hm
            simp only [List.cons_append, List.nil_append, List.map_cons] at hnd3 hp1
            obtain ⟨n1, n2⟩ := List.nodup_cons.mp hnd3
            obtain ⟨n3, n4⟩ := List.nodup_cons.mp n2
            rcases List.mem_cons.mp hm with h | hm
            · exact n3 (h ▸ hp1)
            · rcases List.mem_cons.mp hm with h | hm
              · exact n1 (h ▸ List.mem_cons_of_mem _ hp1)
              · refine hdis _ hm ?_
                rcases List.mem_cons.mp hp1 with h | h
                · rw [h]; exact List.mem_cons_self ..
                · refine List.mem_cons_of_mem _ ?_
                  unfold zipP at h
                  obtain ⟨q, hq, e⟩ := List.mem_map.mp h
                  rw [List.mem_iff_getElem] at hq
                  obtain ⟨i, hi, rfl⟩ := hq
                  rw [← e]; simp
    refine raise_out (Around.frames_deeper hfr2) (sk4.fun_ hff3) hf4 O4 hin hlo fun tb s₅ O5 sk5 => ?_
    have hsub : ∀ b ∈ frs (env :: outer), b ∈ frs (env4 :: env :: outer) := fun b hb => by rw [hfe4]; exact List.mem_cons_of_mem _ hb
    have sk5' : SlotK (frs (env :: outer)) s₁ s₅ := sk3.trans ((sk4.trans sk5).sub hsub)
    refine note_next hfr2 (sk5'.fun_ hff1) hf O5 (fun b hb => hin b (hsub b hb)) (fun p hp hm => hlo p hp (hsub _ hm)) fun tb' s₆ O6 sk6 => ?_
    refine flight O6 fun s₇ O7 k7 => ?_
    have tbf : ∀ (tb : Addr) (fl : Value) (s' : Shared), s'.heap.FunFrames {} (env :: outer) → Has s'.heap tb (tbPr fl) → tb ∉ frs (env :: outer) := fun tb fl s' hl hh hm => by
      obtain ⟨_, o', ho', hnf⟩ := hl.mem hm
      obtain ⟨o2, ho2, ts, hd2, _⟩ := hh
      rw [ho2] at ho'; cases ho'
      exact hnf ts hd2
    have sk7 : SlotK (frs (env :: outer)) s₁ s₇ := (sk5'.trans sk6).trans (SlotK.of_kp k7 fun b hb h => tbf tb' _ s₆ ((sk5'.trans sk6).fun_ hff1) (O6.nth 0 rfl) (h ▸ hb))
    have hg7 : Sub g s₇.heap := hg.kp O7.kp hgXF
    have htyp : s₇.TypeIs (.ref e) "RuntimeError" := by
      obtain ⟨o, ho, hon⟩ := O7.nth 1 rfl
      have hon' : o = _ := hon
      subst hon'
      exact ⟨_, ho, rfl⟩
    refine wpAny_handleBy_builtin_as (X := "RuntimeError") (T := "RuntimeError") (b := true) PySem.F.isExc_RuntimeError PySem.F.notTuple_RuntimeError PySem.F.self_RuntimeError (nameB G hg7 hE (kind_of hs rfl) (G.no _ (by decide)) (bi_RuntimeError G) ⟨rfl, htyp, ?_⟩)
    rw [if_pos rfl]
    refine flight O7 fun s₈ O8 k8 => ?_
    have sk8 : SlotK (frs (env :: outer)) s₁ s₈ := sk7.trans (SlotK.of_kp k8 fun b hb h => tbf tb' _ s₇ (sk7.fun_ hff1) (O7.nth 0 rfl) (h ▸ hb))
    refine stL O8 3 rfl hE (kind_of hs rfl) fun s₉ O9 k9 _ => ?_
    have hg9 : Sub g s₉.heap := hg.kp O9.kp hgXF
    refine wpAny_execs_cons (wpAny_Return_some (callT ?_))
    refine nameB G hg9 hE (kind_of hs rfl) (G.no _ (by decide)) (bi_str G) ⟨_, rfl, Calls.spliced_cons (nameL (O9.nth 3 rfl) hE (kind_of hs rfl) rfl (Calls.spliced_nil ?_))⟩
    have hexc : s₉.heap.ExcAt e "RuntimeError" (.ref t) := by
      obtain ⟨o, ho, hon⟩ := O9.nth 1 rfl
      have hon' : o = _ := hon
      subst hon'
      exact ⟨_, _, ho, rfl, rfl, rfl⟩
    have htup : s₉.heap.TupAt t [.str (Str.ofString "Inconsistent hierarchy") tk] := by
      obtain ⟨o, ho, hon⟩ := O9.nth 2 rfl
      have hon' : o = _ := hon
      subst hon'
      exact ⟨_, _, ho, rfl, rfl⟩
    refine PySem.P.str_of_exc_one PySem.F.excStr_RuntimeError (by show A2.units + 2 < cLine; have : cLine = 9900 := rfl; omega) hexc htup ?_
    refine wpAny_nameGoes (kind_of hs rfl) (O9.nth 3 rfl).ns (by rw [hE.kind]; rfl) fun h' m' hn' hsb => ?_
    have O10 := O9.upd 3 rfl (Kp.same hsb (s₉.toks + 1)) (Has.of_ns hn')
    have skL : ∀ {s s' : Shared}, Kp (· = env.locals) s s' → SlotK (frs outer) s s' := fun k => SlotK.of_kp k fun b hb h => hLF (h ▸ hb)
    refine ⟨res, cur, hc, ((sk1.trans (sk8.sub fun b hb => by rw [hfe]; exact List.mem_cons_of_mem _ hb)).trans (skL k9)).trans (skL (Kp.same hsb (s₉.toks + 1))), .inr ⟨hlv, hnx, ⟨tk, rfl⟩, ?_⟩⟩
    exact O10.pick 6 [5]
end
end Mine

namespace Mine

/-- the class's one method -/
def initDf : Df := match PySem.Challenge.pw_nq0025_01.main.body[(2 : Nat)]? with
  | some (.ClassDef _ _ _ body _ _ _ _ _ _ _) => match body[(1 : Nat)]? with
    | some (.FunctionDef name args body _ _ _ scope _ _ _) => ⟨name, args, body, scope⟩
    | _ => ⟨Str.empty, ⟨[], [], none, [], [], none, []⟩, [], ⟨.function, [], false, false, []⟩⟩
  | _ => ⟨Str.empty, ⟨[], [], none, [], [], none, []⟩, [], ⟨.function, [], false, false, []⟩⟩
def initFd (qual : Str) (pm cd doc : Value) : FuncData := methDef initDf.name qual initDf.params initDf.body initDf.scope pm cd doc

structure GC (mg : Str → Option Value) (gh : Heap) (C N : Addr) (mN : Str → Option Value) : Prop where
  nm : mg "_SelectorContext" = some (.ref C)
  cls : ClsAt gh C N mN
  init : ∃ fI o qual pm cd doc, mN "__init__" = some (.ref fI) ∧ gh.get? fI = some o ∧ o.cls = .type "function" ∧ o.data = .func (initFd qual pm cd doc) ∧ gh.CodeRec cd qual
  no : ∀ x ∈ (["root", "tag", "__setattr__", "__getattribute__", "__getattr__"] : List Str), mN x = none

section
variable {prog : Program} {w : World} {A : Around} {E : Value → Shared → Prop} {s : Shared} {env : Env} {mg mb : Str → Option Value} {g : Heap} {C N : Addr} {mN : Str → Option Value}

def objPr (C d : Addr) : Pr := .raw fun o => o.cls = .ref C ∧ o.dict = some d ∧ ∀ c, o.data ≠ .cls c
def ns1Pr (m : Str → Option Value) : Pr := .raw fun o => ∃ es ep, o.data = .dict es ep ∧ StrKeys es ∧ UniqKeys es ∧ ∀ name, nsFind es name = m name

theorem inst_of {h : Heap} {x d : Addr} {m : Str → Option Value} (a : Has h x (objPr C d)) (b : Has h d (ns1Pr m)) (hne : d ≠ x) : h.Inst x C m := by
  obtain ⟨o, ho, h1, h2, h3⟩ := a
  obtain ⟨o', ho', es, ep, r⟩ := b
  exact ⟨o, ho, h1, h3, .inr ⟨d, h2, hne, o', es, ep, ho', r⟩⟩

theorem Own.two {X : Addr → Prop} {s₀ s' : Shared} {os : List (Addr × Pr)} {x d : Addr} {p q p' q' : Pr} (O : Own X s₀ s ((x, p) :: (d, q) :: os)) (k : Kp (fun b => b = x ∨ b = d) s s') (hx : Has s'.heap x p') (hd : Has s'.heap d q') :
    Own X s₀ s' ((x, p') :: (d, q') :: os) where
  kp := O.kp.trans' k fun c e => e.elim (fun e => e ▸ O.new (x, p) (List.mem_cons_self ..)) (fun e => e ▸ O.new (d, q) (List.mem_cons_of_mem _ (List.mem_cons_self ..)))
  nd := O.nd
  new := fun r hr => by
    rcases List.mem_cons.mp hr with rfl | hr
    · exact O.new (x, p) (List.mem_cons_self ..)
    · rcases List.mem_cons.mp hr with rfl | hr
      · exact O.new (d, q) (List.mem_cons_of_mem _ (List.mem_cons_self ..))
      · exact O.new r (List.mem_cons_of_mem _ (List.mem_cons_of_mem _ hr))
  has := fun r hr => by
    have nd := O.nd
    simp only [List.map_cons] at nd
    obtain ⟨n1, n2⟩ := List.nodup_cons.mp nd
    obtain ⟨n3, _⟩ := List.nodup_cons.mp n2
    rcases List.mem_cons.mp hr with rfl | hr
    · exact hx
    · rcases List.mem_cons.mp hr with rfl | hr
      · exact hd
      · have hm : r.1 ∈ os.map (·.1) := List.mem_map.mpr ⟨r, hr, rfl⟩
        refine (O.has r (List.mem_cons_of_mem _ (List.mem_cons_of_mem _ hr))).kp k fun e => ?_
        rcases e with e | e
        · exact n1 (List.mem_cons_of_mem _ (e ▸ hm))
        · exact n3 (e ▸ hm)

theorem setA {X : Addr → Prop} {s₀ : Shared} {os : List (Addr × Pr)} {x d : Addr} {m : Str → Option Value} {name : Str} {v : Value} {ns : List Str} {Q : Unit → Shared → Prop} (Cl : ClsAt s.heap C N mN) (hns : mN "__setattr__" = none) (hna : mN name = none)
    (O : Own X s₀ s ((x, objPr C d) :: (d, ns1Pr m) :: os)) (hxC : x ≠ C) (hw : Within m ns) (hsz : ns.length ≤ sizeLine) (hB : typeLookup (.type "object") name = pure none)
    (h : ∀ s', Own X s₀ s' ((x, objPr C d) :: (d, ns1Pr (up m name v)) :: os) → Kp (fun b => b = x ∨ b = d) s s' → Q () s') : wpAny (model prog w) A (setAttr (.ref x) name v) Q E s := by
  have hne : d ≠ x := fun e => by
    have nd := O.nd
    simp only [List.map_cons] at nd
    exact (List.nodup_cons.mp nd).1 (e ▸ List.mem_cons_self ..)
  have I := inst_of (O.nth 0 rfl) (O.nth 1 rfl) hne
  obtain ⟨o, ho, h1, h2, h3⟩ := O.nth 0 rfl
  obtain ⟨hh, gg, dd', t, ost⟩ := s
  obtain ⟨nm, q, bs, sn, sub, col, dd, k0, k1, k2, k3, k5, hC⟩ := Cl.obj
  refine store_attr PySem.F.store_object hC Cl.ns hns hna hB hxC I (fun h' tk' I' hk hsame => ?_) hw hsz
  obtain ⟨o₁, e₁, c₁, dt₁, _, dk₁⟩ := hsame o ho
  have k : Kp (fun b => b = x ∨ b = d) ⟨hh, gg, dd', t, ost⟩ ⟨h', gg, dd', tk', ost⟩ := ⟨fun b ob n e => hk b ob (fun e => n (.inl e)) (fun o₀ dx e1 e2 e3 => by
    obtain rfl := Option.some.inj (ho.symm.trans e1)
    obtain rfl := Option.some.inj (h2.symm.trans e2)
    exact n (.inr e3)) e, rfl, id⟩
  refine h _ (O.two k ⟨o₁, e₁, c₁.trans h1, dk₁ _ h2, fun c => dt₁ ▸ h3 c⟩ ?_) k
  obtain ⟨o', e', _, _, hd'⟩ := I'
  obtain rfl := Option.some.inj (e₁.symm.trans e')
  rcases hd' with ⟨hn0, _⟩ | ⟨d', hd', _, hns'⟩
  · rw [dk₁ d h2] at hn0; cases hn0
  · obtain rfl := Option.some.inj ((dk₁ d h2).symm.trans hd')
    obtain ⟨o2, es, ep, e2, r2⟩ := hns'
    exact ⟨o2, e2, es, ep, r2⟩

theorem getA {x d : Addr} {m : Str → Option Value} {name : Str} {v : Value} {expr : Bool} {Q : Value → Shared → Prop} (Cl : ClsAt s.heap C N mN) (hng : mN "__getattribute__" = none) (hna : mN name = none) (hx : Has s.heap x (objPr C d)) (hd : Has s.heap d (ns1Pr m)) (hne : d ≠ x)
    (hv : m name = some v) (hB : typeLookup (.type "object") name = pure none) (hh : handedOut v = pure v) (h : Q v { s with toks := s.toks + 1 }) : wpAny (model prog w) A (getAttr (.ref x) name expr) Q E s := by
  obtain ⟨hh', g, dd', t, os⟩ := s
  obtain ⟨nm, q, bs, sn, sub, col, dd, k0, k1, k2, k3, k5, hC⟩ := Cl.obj
  exact load_attr hC Cl.ns hng hna hB (inst_of hx hd hne) hv hh h

theorem callC {f : Str} {p pos : Pos} {args : List PySem.Expr} {t : Sem Value} {rest : List (Bool × Sem Value)} {Q : Value → Shared → Prop}
    (h : wpAny (model prog w) A (eval (.Name f p) env) (fun fv s₁ => fv = .ref C ∧ wpAny (model prog w) A (spliced (backTo pos (starEach args env))) (fun vs s₂ => ClsAt s₂.heap C N mN ∧ wpAny (model prog w) A (call (.ref C) vs) Q E s₂) E s₁) E s)
    (hs : backTo pos (starEach args env) = (false, t) :: rest := by rfl) (hst : ((false, t) :: rest).any (·.1) = false := by rfl) :
    wpAny (model prog w) A (eval (.Call (.Name f p) args [] pos) env) Q E s := by
  rw [eval_CallN]
  refine wpAny_bind (wpAny_mono h (fun fv s₁ h₁ => ?_) fun _ _ e => e)
  obtain ⟨rfl, h₂⟩ := h₁
  rw [hs] at h₂ ⊢
  unfold callWith
  refine wpAny_bind (wpAny_holding (Calls.evalArgs_plain (wpAny_mono h₂ (fun vs s₂ h₃ => wpAny_bind (wpAny_standAt ?_)) fun _ _ x => x)))
  obtain ⟨Cl, h₄⟩ := h₃
  obtain ⟨hh, g, d, t', os⟩ := s₂
  obtain ⟨nm, q, bs, sn, sub, col, dd, k0, k1, k2, k3, k5, hC⟩ := Cl.obj
  rw [hst]
  refine wpAny_bind (m := keeperOf (.ref C)) (wpAny_keeperOf_exc hC ?_)
  show wpAny _ _ (call (.ref C) vs [] >>= fun r => do holding [r] point; pure r) _ _ _
  exact wpAny_bind (wpAny_mono h₄ (fun r s' hr => wpAny_bind (wpAny_holding (wpAny_point (wpAny_pure hr)))) fun _ _ x => x)

theorem call_cls {v : Value} {Q : Value → Shared → Prop} (G : GF mg mb g) (K : GC mg g C N mN) (hg : Sub g s.heap) (hd : A.depth < 990) (h : ∀ x d s', Own No s s' [(x, objPr C d), (d, ns1Pr (up (fun _ => none) (Str.ofString "root") v))] → Q (.ref x) s') :
    wpAny (model prog w) A (call (.ref C) [v]) Q E s := by
  obtain ⟨fI, oI, qual, pm, cd, doc, hi, ho, hfc, hdat, hcd⟩ := K.init
  obtain ⟨hh, gg, dd', t, ost⟩ := s
  have Cl := K.cls.keeps hg
  obtain ⟨nm, q, bs, sn, sub, col, dd, k0, k1, k2, k3, k5, hC⟩ := Cl.obj
  refine wpAny_call_obj_init PySem.F.objNew hC Cl.ns hi (hg _ _ ho) hfc fun h' x dx Mk => ?_
  have hg' : Sub g h' := fun b o e => Mk.keeps _ _ (hg b o e)
  obtain ⟨ox, hx, hcx, hncx, hdx⟩ := Mk.inst
  have hdd := Mk.dict ox hx
  have hnsd : h'.Ns1 dx (fun _ => none) ∧ dx ≠ x := by
    rcases hdx with ⟨hn0, _⟩ | ⟨d', hd', hne, hns'⟩
    · rw [hn0] at hdd; cases hdd
    · obtain rfl := Option.some.inj (hd'.symm.trans hdd); exact ⟨hns', hne⟩
  have O : Own No ⟨hh, gg, dd', t, ost⟩ ⟨h', gg, dd', t, ost⟩ [(x, objPr C dx), (dx, ns1Pr fun _ => none)] := by
    refine ⟨⟨fun b o _ e => Mk.keeps _ _ e, rfl, id⟩, by simp [hnsd.2.symm], fun p hp => ?_, fun p hp => ?_⟩
    · rcases List.mem_cons.mp hp with rfl | hp
      · exact .inr Mk.newX
      · rcases List.mem_singleton.mp hp with rfl; exact .inr Mk.newD
    · rcases List.mem_cons.mp hp with rfl | hp
      · exact ⟨ox, hx, hcx, hdd, hncx⟩
      · rcases List.mem_singleton.mp hp with rfl
        obtain ⟨o, es, ep, e, r⟩ := hnsd.1
        exact ⟨o, e, es, ep, r⟩
  refine wpAny_call (codeAny_call_straight (fd := initFd qual pm cd doc) (binds := [(Str.ofString "self", .ref x), (Str.ofString "root", v)]) (by rw [depth_under_make]; show A.depth + 1 < 1000; omega) (hg' _ _ ho) hdat (G.lim.keeps hg') (hcd.keeps hg') rfl rfl (by show ∀ x ∈ initDf.scope.names, x.2 ≠ .cell; decide) (locs rfl) (fun s₁ y => ?_))
  obtain ⟨h₁, tk, rfl⟩ := y.same
  have P : Own No ⟨h', gg, dd', t, ost⟩ ⟨h₁, gg, dd', tk, ost⟩ [(h'.objs.size, .ns (fun z => [(Str.ofString "self", Value.ref x), (Str.ofString "root", v)].reverse.lookup z))] := by
    refine ⟨Kp.all y.keep tk, by simp, fun p hp => ?_, fun p hp => ?_⟩
    · rcases List.mem_singleton.mp hp with rfl; exact .inr (fresh_at _)
    · rcases List.mem_singleton.mp hp with rfl; exact Has.of_ns y.ns
  have O1 := (O.on' P).pick 3 [1, 2, 0]
  have hE : EnvG (callEnv (initFd qual pm cd doc) h'.objs.size fI) := ⟨rfl, rfl, rfl⟩
  have hxC : x ≠ C := fun e => by
    have := Mk.newX
    rw [e, hC] at this; cases this
  have hg1 : Sub g h₁ := fun b o e => y.keep _ _ (hg' b o e)
  dsimp only at O1 ⊢
  conv => arg 3; arg 1; whnf
  refine wpAny_execs_cons (plainObj_wpAny_Assign_Attribute (nameL (O1.nth 2 rfl) hE (kind_of rfl rfl) rfl (nameL (O1.nth 2 rfl) hE (kind_of rfl rfl) rfl ?_)))
  refine setA (K.cls.keeps hg1) (K.no _ (by decide)) (K.no _ (by decide)) O1 hxC (ns := []) Within.nil (by decide) (by rw [typeLookup_type, builtinLookup_eq_fast]; kernel_rfl) fun s₂ O2 _ => ?_
  exact wpAny_execs_nil ⟨rfl, h x dx s₂ (O2.pick 3 [0, 1])⟩

/-- the tags of the eight numbers -/
def tags : List (Option Str) := [some (Str.ofString "{f}a"), some (Str.ofString "{f}b"), some (Str.ofString "{f}a"), some (Str.ofString "{f}f"), some (Str.ofString "a"), some (Str.ofString "{g}f"), some (Str.ofString "{ff}a"), none]
def isTag (t : Option Str) (v : Value) : Prop := match t with | some t => ∃ tk, v = .str t tk | none => v = .none
def nodePr (x : Int) : Pr := .raw fun o => ∃ m tk t v, (ns1Pr m).on o ∧ m (Str.ofString "root") = some (.int x tk) ∧ m (Str.ofString "tag") = some v ∧ tags[x.toNat]? = some t ∧ isTag t v

theorem node_spec {a : Addr} {x : Int} {tk : Tok} (G : GF mg mb g) (K : GC mg g C N mN) (hg : Sub g s.heap) (F : FnAt mg g 6 a) (hd : A.depth < 980) (hx0 : 0 ≤ x) (hx8 : x < 8) :
    wpAny (model prog w) A (call (.ref a) [.int x tk]) (fun v s' => ∃ n d, v = .ref n ∧ Own No s s' [(n, objPr C d), (d, nodePr x)]) E s := by
  refine call_fn (binds := [(Str.ofString "x", .int x tk)]) G hg F (by show A.depth < 1000; omega) (fun _ _ _ => rfl) ?_ (hloc := locs rfl)
  intro env s₁ hE hs _ hf O _
  have hd2 : (A.deeper env).depth < 990 := by show A.depth + 1 < 990; omega
  generalize hA : A.deeper env = A2 at *
  have hg1 : Sub g s₁.heap := hg.kp O.kp fun _ h => h.elim
  conv => arg 3; arg 1; whnf
  refine wpAny_execs_cons (wpAny_Assign_Name (callC (C := C) (N := N) (mN := mN) ?_))
  refine nameG G hg1 hE (kind_of hs rfl) K.nm ⟨rfl, Calls.spliced_cons (nameL (O.nth 0 rfl) hE (kind_of hs rfl) rfl (Calls.spliced_nil ⟨K.cls.keeps hg1, ?_⟩))⟩
  refine call_cls G K hg1 hd2 fun n d s₂ P => ?_
  have O2 := O.on' P
  refine stL O2 2 rfl hE (kind_of hs rfl) fun s₃ O3 _ _ => ?_
  have hg3 : Sub g s₃.heap := hg.kp O3.kp fun _ h => h.elim
  have hnC : n ≠ C := fun e => by
    obtain ⟨nm, q, bs, sn, sub, col, dd, k0, k1, k2, k3, k5, hC⟩ := (K.cls.keeps hg).obj
    rcases O2.new (n, _) (List.mem_cons_self ..) with h | h
    · exact h
    · rw [e, hC] at h; cases h
  refine wpAny_execs_cons (plainObj_wpAny_Assign_Attribute (sub_ (T := "list") (wpAny_List ?_) slot_list_getitem.lookup))
  refine wpAny_items_cons (Calls.Constant_str (k := 0) (pos := default) (wpAny_items_cons (Calls.Constant_str (k := 0) (pos := default) (wpAny_items_cons (Calls.Constant_str (k := 0) (pos := default) (wpAny_items_cons (Calls.Constant_str (k := 0) (pos := default) ?_)))))))
  refine wpAny_items_cons (Calls.Constant_str (k := 0) (pos := default) (wpAny_items_cons (Calls.Constant_str (k := 0) (pos := default) (wpAny_items_cons (Calls.Constant_str (k := 0) (pos := default) (wpAny_items_cons (wpAny_Constant_none (wpAny_items_nil ⟨Nat.le_of_ble_eq_true rfl, ?_⟩))))))))
  have O4 := fun vs t => O3.push { cls := .type "list", data := .seq (List.toArray vs) } (.list vs) ⟨0, rfl⟩ t
  have hpick : ∀ t0 t1 t2 t3 t4 t5 t6, ∃ v t, [Value.str (Str.ofString "{f}a") t0, .str (Str.ofString "{f}b") t1, .str (Str.ofString "{f}a") t2, .str (Str.ofString "{f}f") t3, .str (Str.ofString "a") t4, .str (Str.ofString "{g}f") t5, .str (Str.ofString "{ff}a") t6, .none][x.toNat]? = some v ∧ tags[x.toNat]? = some t ∧ isTag t v := by
    intro t0 t1 t2 t3 t4 t5 t6
    have : x = 0 ∨ x = 1 ∨ x = 2 ∨ x = 3 ∨ x = 4 ∨ x = 5 ∨ x = 6 ∨ x = 7 := by omega
    rcases this with rfl | rfl | rfl | rfl | rfl | rfl | rfl | rfl
    all_goals first
      | exact ⟨_, _, rfl, rfl, _, rfl⟩
      | exact ⟨_, _, rfl, rfl, rfl⟩
  obtain ⟨v, t, hv, ht, hvt⟩ := hpick s₃.toks (s₃.toks + 1) (s₃.toks + 1 + 1) (s₃.toks + 1 + 1 + 1) (s₃.toks + 1 + 1 + 1 + 1) (s₃.toks + 1 + 1 + 1 + 1 + 1) (s₃.toks + 1 + 1 + 1 + 1 + 1 + 1)
  have O5 := O4 [Value.str (Str.ofString "{f}a") s₃.toks, .str (Str.ofString "{f}b") (s₃.toks + 1), .str (Str.ofString "{f}a") (s₃.toks + 1 + 1), .str (Str.ofString "{f}f") (s₃.toks + 1 + 1 + 1), .str (Str.ofString "a") (s₃.toks + 1 + 1 + 1 + 1), .str (Str.ofString "{g}f") (s₃.toks + 1 + 1 + 1 + 1 + 1), .str (Str.ofString "{ff}a") (s₃.toks + 1 + 1 + 1 + 1 + 1 + 1), .none] (s₃.toks + 1 + 1 + 1 + 1 + 1 + 1 + 1)
  have hg5 : Sub g _ := hg.kp O5.kp fun _ h => h.elim
  refine nameL (O5.nth 3 rfl) hE (kind_of hs rfl) rfl ⟨(O5.nth 0 rfl).isList.typeIs, wpAny_getItem_list (x := v) (O5.nth 0 rfl).isList hx0 (by omega) (by simpa using hv) (nameL (O5.nth 3 rfl) hE (kind_of hs rfl) rfl ?_)⟩
  refine setA (K.cls.keeps hg5) (K.no _ (by decide)) (K.no _ (by decide)) (O5.pick 4 [1, 2, 3]) hnC (ns := [Str.ofString "root"]) (Within.cons _ _ Within.nil) (by decide) (by rw [typeLookup_type, builtinLookup_eq_fast]; kernel_rfl) fun s₆ O6 _ => ?_
  refine wpAny_execs_cons (wpAny_Return_some (nameL (O6.nth 2 rfl) hE (kind_of hs rfl) rfl ?_))
  have O7 := O6.pick 3 [0, 1]
  obtain ⟨o, ho, hon⟩ := O7.nth 1 rfl
  exact ⟨n, d, rfl, O7.upd 1 rfl (Kp.refl _ _) ⟨o, ho, _, tk, t, v, hon, rfl, rfl, ht, hvt⟩⟩
end
end Mine

namespace Mine
section
variable {M : Model} {A : Around} {R : GenEnd} {Y : Protocol} {n : Nat} {s₀ : Shared} {c : Code} {fs : List Frame} {s : Shared} {env : Env} {K : Flow → Sem Fin} {H : Value → Sem Fin} {gd : Bool → Bool} {lv : List Value → List Value}

/-- what a for loop's frame does when the loop is done -/
def forRet (env : Env) (K : Flow → Sem Fin) (H : Value → Sem Fin) (gd : Bool → Bool) (lv : List Value → List Value) (r : Result) : Sem Fin :=
  ((match r with | .ok f => (.pure f : Sem Flow) | .error e => .raise e).onRaise fun (x : Value) => do
    if (← field x 1) == Value.none then unsupported "frame.own-activation:exception-without-traceback"
    setFlight x env.frame).wrap K H gd lv

theorem seg_For {target iter : PySem.Expr} {body orelse : List Stmt} {pos : Pos}
    (h : ∀ E', wpAny M (A.over c fs) (eval iter env) (fun x s₁ => wpAny M (A.over c fs) (pyIter x) (fun it s₂ =>
      ∀ p, Seg M A R Y n s₀ (.forLoop target it body orelse env) (M.den (.forLoop target it body orelse env)) (.ret (forRet env K H gd lv) none (gd false) (lv []) c p [] :: fs) s₂) E' s₁) E' s)
    (hs : ∀ x, foldedSetIterable iter env x = pure x := by intro _; rfl) :
    Seg M A R Y n s₀ c ((exec (.For target iter body orelse pos) env).wrap K H gd lv) fs s := by
  rw [exec_For]
  refine seg_at ?_
  simp only [hs]
  show Seg M A R Y n s₀ c ((eval iter env >>= fun x => (standAt iter.pos >>= fun _ => holding [x] (pyIter x) >>= fun it => runOwn (.forLoop target it body orelse env) env)).wrap K H gd lv) fs s
  rw [Sem.bind_eq_wrap', Sem.wrap_wrap]
  refine seg_wrap (wpAny_mono (h _) (fun x s₁ h₁ => ?_) fun _ _ e => e)
  refine seg_at ?_
  show Seg M A R Y n s₀ c ((holding [x] (pyIter x) >>= fun it => runOwn (.forLoop target it body orelse env) env).wrap K H gd lv) fs s₁
  rw [Sem.bind_eq_wrap', Sem.wrap_wrap]
  refine seg_wrap (wpAny_holding (wpAny_mono h₁ (fun it s₂ h₂ => ?_) fun _ _ e => e))
  exact seg_call h₂

theorem seg_If {test : PySem.Expr} {body orelse : List Stmt} {pos : Pos}
    (h : ∀ E', wpAny M (A.over c fs) (isTrue test env (eval test env)) (fun b s₁ => if b = true then Seg M A R Y n s₀ c ((execs body env).wrap K H gd lv) fs s₁ else Seg M A R Y n s₀ c ((execs orelse env).wrap K H gd lv) fs s₁) E' s) :
    Seg M A R Y n s₀ c ((exec (.If test body orelse pos) env).wrap K H gd lv) fs s := by
  rw [exec_If]
  refine seg_at ?_
  show Seg M A R Y n s₀ c ((isTrue test env (eval test env) >>= fun b => if b = true then execs body env else execs orelse env).wrap K H gd lv) fs s
  rw [Sem.bind_eq_wrap', Sem.wrap_wrap]
  refine seg_wrap (wpAny_mono (h _) (fun b s₁ h₁ => ?_) fun _ _ e => e)
  cases b with
  | true => exact h₁
  | false => exact h₁

/-- a statement that does not yield -/
theorem seg_st {st : Stmt} (h : ∀ E', wpAny M (A.over c fs) (exec st env) (fun f s₁ => Seg M A R Y n s₀ c (K f) fs s₁) E' s) : Seg M A R Y n s₀ c ((exec st env).wrap K H gd lv) fs s :=
  seg_wrap (h _)
end

section
variable {prog : Program} {w : World} {A : Around} {R : GenEnd} {Y : Protocol} {n : Nat} {s₀ : Shared} {fs : List Frame} {s : Shared} {env : Env}

/-- what a turn of a for loop does with its body's end -/
def forK (target : PySem.Expr) (it : Value) (body orelse : List Stmt) (env : Env) (f : Flow) : Sem Fin := match f with
  | .next | .cont => .pure (.again (.forLoop target it body orelse env))
  | .brk => .pure (.done .next)
  | .ret v => .pure (.done (.ret v))
def forH (env : Env) (e : Value) : Sem Fin := (do noteFrame e env; theTreesLotGoes e : Sem Unit).bind (fun _ => .raise e)

theorem seg_forTurn {target : PySem.Expr} {it : Value} {body : List Stmt}
    (h : ∀ E', wpAny (model prog w) (A.over (.forLoop target it body [] env) fs) (pyNext it) (fun r s₁ => match r with
      | none => Seg (model prog w) A R Y n s₀ (.block [] env) (.pure (.done .next)) fs s₁
      | some v => wpAny (model prog w) (A.over (.forLoop target it body [] env) fs) (assign target env v) (fun _ s₂ =>
          Seg (model prog w) A R Y n s₀ (.forLoop target it body [] env) ((execs body env).wrap (forK target it body [] env) (forH env) id id) fs s₂) E' s₁) E' s)
    (ht : ∀ v, letOwnedTupleGo target it v = pure () := by intro _; rfl) :
    Seg (model prog w) A R Y n s₀ (.forLoop target it body [] env) ((model prog w).den (.forLoop target it body [] env)) fs s := by
  show Seg _ A R Y n s₀ _ ((forTurn target it body [] env).onRaise (fun x => do noteFrame x env; theTreesLotGoes x)) fs s
  unfold forTurn
  simp only [ht]
  refine seg_at ?_
  show Seg _ A R Y n s₀ _ (((pyNext it).onRaise (fun _ => standAt { target.pos with line := 0 }) >>= fun r => (match r with
    | none => again (.block [] env)
    | some v => assign target env v >>= fun _ => execs body env >>= fun f => (match f with
      | .next | .cont => again (.forLoop target it body [] env)
      | .brk => pure (.done .next)
      | .ret v => pure (.done (.ret v)) : Sem Fin))).onRaise (fun x => do noteFrame x env; theTreesLotGoes x)) fs s
  rw [Sem.onRaise_eq_wrap, Sem.bind_eq_wrap', Sem.wrap_wrap]
  refine seg_wrap (wpAny_onRaise (wpAny_mono (h _) (fun r s₁ h₁ => ?_) fun _ _ h' => wpAny_standAt h'))
  cases r with
  | none => exact seg_again rfl h₁
  | some v =>
    dsimp only at h₁ ⊢
    rw [Sem.bind_eq_wrap', Sem.wrap_wrap]
    refine seg_wrap (wpAny_mono h₁ (fun _ s₂ h₂ => ?_) fun _ _ e => e)
    rw [Sem.bind_eq_wrap', Sem.wrap_wrap]
    exact Eq.mpr (congrArg (fun t => Seg (model prog w) A R Y n s₀ (.forLoop target it body [] env) t fs s₂) (Sem.wrap_congr (execs body env) (K' := forK target it body [] env) (H' := forH env) id id (fun f => by cases f <;> rfl) (fun e => rfl))) h₂
end
end Mine

namespace Mine

def elseOf : Stmt → List Stmt | .If _ _ o _ => o | _ => []
def thenOf : Stmt → List Stmt | .If _ b _ _ => b | _ => []
def elseAt (l : List Stmt) (n : Nat) : List Stmt := match l[n]? with | some st => elseOf st | none => []
def thenAt (l : List Stmt) (n : Nat) : List Stmt := match l[n]? with | some st => thenOf st | none => []
/-- the inner def of the fourth way -/
def selDf : Df := match (thenAt (elseAt (elseAt (elseAt (defAt 1).body 1) 0) 0) 0)[(2 : Nat)]? with
  | some (.FunctionDef name args body _ _ _ scope _ _ _) => ⟨name, args, body, scope⟩
  | _ => ⟨Str.empty, ⟨[], [], none, [], [], none, []⟩, [], ⟨.function, [], false, false, []⟩⟩

def selPr (qual : Str) (clos : List (Str × Addr)) (c' : Addr) : Pr := .raw fun o => ∃ doc pm ctv, o = fnMade selDf.name qual selDf.params selDf.body selDf.scope clos doc pm c' ctv
def recPr (qual : Str) : Pr := .raw fun o => ∃ vs t, o.data = .fields vs ∧ vs[1]? = some (.str qual t)
def slicePr : Pr := .raw fun o => o.cls = .type "slice" ∧ ∃ t, o.data = .fields #[.none, .int 3 t, .none]
def closOf (c1 c2 c3 c4 : Addr) : List (Str × Addr) := [(Str.ofString "ns_only", c4), (Str.ofString "ns", c3), (Str.ofString "_str", c2), (Str.ofString "_isinstance", c1)]

/-- the cells of the inner def -/
structure CelAt (h : Heap) (c1 c2 c3 c4 sl : Addr) : Prop where
  isin : Has h c1 (.cell (some (.builtin "isinstance")))
  str : Has h c2 (.cell (some (.type "str")))
  ns : ∃ t, Has h c3 (.cell (some (.str (Str.ofString "{f}") t)))
  only : Has h c4 (.cell (some (.ref sl)))
  slice : Has h sl slicePr
theorem CelAt.kp {X : Addr → Prop} {s s' : Shared} {c1 c2 c3 c4 sl : Addr} (h : CelAt s.heap c1 c2 c3 c4 sl) (k : Kp X s s') (n : ∀ b ∈ [c1, c2, c3, c4, sl], ¬ X b) : CelAt s'.heap c1 c2 c3 c4 sl :=
  ⟨h.isin.kp k (n _ (by simp)), h.str.kp k (n _ (by simp)), let ⟨t, x⟩ := h.ns; ⟨t, x.kp k (n _ (by simp))⟩, h.only.kp k (n _ (by simp)), h.slice.kp k (n _ (by simp))⟩

def selTest : PySem.Expr := match selDf.body with
  | [.For _ _ [_, .If t _ _ _] _ _] => t
  | _ => .Constant .none 0 default
section
variable {prog : Program} {w : World} {A : Around} {E : Value → Shared → Prop} {s : Shared} {env : Env} {mg mb : Str → Option Value} {g : Heap} {C N : Addr} {mN : Str → Option Value} {c1 c2 c3 c4 sl : Addr}

/-- the part of the tag that the slice takes -/
def front3 (t : Str) : Str := if (slicePicked t none (some (3, 0)) none).length == t.length then t else ⟨((slicePicked t none (some (3, 0)) none).filterMap (t.cps[·]?)).toArray⟩

theorem slice_wp {t : Str} {tk : Tok} {Q : Value → Shared → Prop} (hs : Has s.heap sl slicePr) (hlen : (front3 t).length ≤ sizeLine) (h : ∀ tk' s', (∃ k, s' = { s with toks := k }) → Q (.str (front3 t) tk') s') : wpAny (model prog w) A (getItem (.str t tk) (.ref sl)) Q E s := by
  obtain ⟨o, ho, hc, tt, hd⟩ := hs
  refine wpAny_getItem_str_slice (l := none) (u := some (3, tt)) (st := none) ⟨o, ho, hc, hd⟩ rfl ?_
  have e : slicePicked t none (some (3, tt)) none = slicePicked t none (some (3, 0)) none := rfl
  unfold sliceMade
  unfold front3 at h hlen
  rw [e]
  by_cases hp : ((slicePicked t none (some (3, 0)) none).length == t.length) = true
  · rw [if_pos (by simpa using hp)]
    rw [if_pos hp] at h
    exact h _ _ ⟨s.toks, rfl⟩
  · rw [if_neg (by simpa using hp)]
    rw [if_neg hp] at h
    rw [if_neg hp] at hlen
    exact ⟨hlen, h _ _ ⟨_, rfl⟩⟩

theorem tag_ok (x : Int) (t : Str) (h0 : 0 ≤ x) (h8 : x < 8) (ht : tags[x.toNat]? = some (some t)) : (front3 t == Str.ofString "{f}") = decide (x < 4) := by
  have : x = 0 ∨ x = 1 ∨ x = 2 ∨ x = 3 ∨ x = 4 ∨ x = 5 ∨ x = 6 ∨ x = 7 := by omega
  rcases this with rfl | rfl | rfl | rfl | rfl | rfl | rfl | rfl <;> first
    | (cases ht; decide +kernel)
    | cases ht
theorem tag_len (x : Int) (t : Str) (h0 : 0 ≤ x) (h8 : x < 8) (ht : tags[x.toNat]? = some (some t)) : (front3 t).length ≤ sizeLine := by
  have : x = 0 ∨ x = 1 ∨ x = 2 ∨ x = 3 ∨ x = 4 ∨ x = 5 ∨ x = 6 ∨ x = 7 := by omega
  rcases this with rfl | rfl | rfl | rfl | rfl | rfl | rfl | rfl <;> first
    | (cases ht; decide +kernel)
    | cases ht
theorem tag_no (x : Int) (h0 : 0 ≤ x) (h8 : x < 8) (ht : tags[x.toNat]? = some none) : ¬ x < 4 := by
  have : x = 0 ∨ x = 1 ∨ x = 2 ∨ x = 3 ∨ x = 4 ∨ x = 5 ∨ x = 6 ∨ x = 7 := by omega
  rcases this with rfl | rfl | rfl | rfl | rfl | rfl | rfl | rfl <;> first
    | (cases ht; done)
    | decide

theorem sel_test {m : Str → Option Value} {x : Int} {t : Option Str} {v : Value} {Q : Bool → Shared → Prop} (hE : EnvG env) (hs : env.scope = selDf.scope) (hcl : env.cells = closOf c1 c2 c3 c4) (hL : Has s.heap env.locals (.ns m)) (hm : m (Str.ofString "el_tag") = some v) (hc : CelAt s.heap c1 c2 c3 c4 sl)
    (h0 : 0 ≤ x) (h8 : x < 8) (ht : tags[x.toNat]? = some t) (hv : isTag t v) (h : ∀ k, Q (decide (x < 4)) { s with toks := k }) : wpAny (model prog w) A (isTrue selTest env (eval selTest env)) Q E s := by
  obtain ⟨tn, hns⟩ := hc.ns
  have k1 : env.cells.lookup (Str.ofString "_isinstance") = some c1 := by rw [hcl]; rfl
  have k2 : env.cells.lookup (Str.ofString "_str") = some c2 := by rw [hcl]; rfl
  have k3 : env.cells.lookup (Str.ofString "ns") = some c3 := by rw [hcl]; rfl
  have k4 : env.cells.lookup (Str.ofString "ns_only") = some c4 := by rw [hcl]; rfl
  have e0 : isTrue selTest env (eval selTest env) = allTrue .And _ env := rfl
  rw [e0]
  refine wpAny_allTrue_And_cons (wpAny_isTrue_value (callB ?_))
  refine nameF hE (kind_of hs rfl) k1 hc.isin ⟨_, rfl, Calls.spliced_cons (nameL hL hE (kind_of hs rfl) hm (Calls.spliced_cons (nameF hE (kind_of hs rfl) k2 hc.str (Calls.spliced_nil ?_))))⟩
  cases t with
  | none =>
    have hv' : v = .none := hv
    subst hv'
    refine PySem.IsiPair.NoneType_str (wpAny_truthy_bool ?_)
    rw [if_neg (by decide)]
    have := h (s.toks + 1)
    rw [show decide (x < 4) = false from by simpa using tag_no x h0 h8 ht] at this
    exact this
  | some t =>
    obtain ⟨tk, rfl⟩ : ∃ tk, v = .str t tk := hv
    refine call_isinstance_yes (typeIs_str _ _ _) rfl isSubtype_str_str (wpAny_truthy_bool ?_)
    rw [if_pos rfl]
    refine wpAny_allTrue_And_cons (wpAny_isTrue_Compare1 (sub_ (T := "str") (nameL hL hE (kind_of hs rfl) hm (nameF hE (kind_of hs rfl) k4 hc.only ⟨typeIs_str _ _ _, slice_wp hc.slice (tag_len x t h0 h8 ht) fun tk' s' ⟨k, hk⟩ => ?_⟩)) PySem.F.slot_str_getitem.lookup))
    subst hk
    refine nameF hE (kind_of hs rfl) k3 hns (PyProof.Rows.eq_str (wpAny_truthy_bool ?_))
    have := h k
    rw [← tag_ok x t h0 h8 ht] at this
    cases hb : (front3 t == Str.ofString "{f}") with
    | true => rw [if_pos rfl]; rw [hb] at this; exact wpAny_allTrue_And_nil this
    | false => rw [if_neg (by decide)]; rw [hb] at this; exact this
end
end Mine

namespace Mine

def selBody : List Stmt := match selDf.body with | [.For _ _ b _ _] => b | _ => []
def selTgt : PySem.Expr := match selDf.body with | [.For t _ _ _ _] => t | _ => .Constant .none 0 default
def selIter : PySem.Expr := match selDf.body with | [.For _ t _ _ _] => t | _ => .Constant .none 0 default

/-- the nodes of a row -/
structure NodesAt (h : Heap) (C nl : Addr) (nds dcs : List Addr) (xs : List Int) : Prop where
  top : Has h nl (.list (nds.map .ref))
  len : nds.length = xs.length
  len' : dcs.length = xs.length
  node : ∀ (i : Nat) n d x, nds[i]? = some n → dcs[i]? = some d → xs[i]? = some x → Has h n (objPr C d) ∧ Has h d (nodePr x) ∧ d ≠ n ∧ 0 ≤ x ∧ x < 8

def fps (C N nl : Addr) (nds dcs : List Addr) (c1 c2 c3 c4 sl : Addr) : List Addr := nl :: C :: N :: c1 :: c2 :: c3 :: c4 :: sl :: (nds ++ dcs)

structure Stat (h : Heap) (C N : Addr) (mN : Str → Option Value) (nl : Addr) (nds dcs : List Addr) (xs : List Int) (c1 c2 c3 c4 sl : Addr) : Prop where
  nodes : NodesAt h C nl nds dcs xs
  cel : CelAt h c1 c2 c3 c4 sl
  cls : ClsAt h C N mN

section
variable {prog : Program} {w : World} {A : Around} {E : Value → Shared → Prop} {s : Shared} {env : Env} {mg mb : Str → Option Value} {g : Heap} {C N : Addr} {mN : Str → Option Value} {c1 c2 c3 c4 sl : Addr} {nl : Addr} {nds dcs : List Addr} {xs : List Int}

theorem Stat.kp {X : Addr → Prop} {s s' : Shared} (h : Stat s.heap C N mN nl nds dcs xs c1 c2 c3 c4 sl) (k : Kp X s s') (n : ∀ b ∈ fps C N nl nds dcs c1 c2 c3 c4 sl, ¬ X b) : Stat s'.heap C N mN nl nds dcs xs c1 c2 c3 c4 sl where
  nodes := ⟨h.nodes.top.kp k (n _ (by simp [fps])), h.nodes.len, h.nodes.len', fun i a d x e1 e2 e3 => by
    obtain ⟨r1, r2, r3⟩ := h.nodes.node i a d x e1 e2 e3
    have m1 := List.mem_of_getElem? e1
    have m2 := List.mem_of_getElem? e2
    exact ⟨r1.kp k (n _ (by simp [fps, m1])), r2.kp k (n _ (by simp [fps, m2])), r3⟩⟩
  cel := h.cel.kp k fun b hb => n b (by simp [fps] at hb ⊢; rcases hb with h | h | h | h | h <;> simp [h])
  cls := by
    obtain ⟨nm, q, bs, sn, sub, col, dd, k0, k1, k2, k3, k5, hC⟩ := h.cls.obj
    refine ⟨⟨nm, q, bs, sn, sub, col, dd, k0, k1, k2, k3, k5, k.get _ _ (n _ (by simp [fps])) hC⟩, ?_⟩
    exact ((Has.of_ns h.cls.ns).kp k (n _ (by simp [fps]))).ns

theorem Stat.is (h : Stat s.heap C N mN nl nds dcs xs c1 c2 c3 c4 sl) : ∀ b ∈ fps C N nl nds dcs c1 c2 c3 c4 sl, ∃ o, s.heap.get? b = some o := fun b hb => by
  have has : ∀ {a p}, Has s.heap a p → ∃ o, s.heap.get? a = some o := fun ⟨o, ho, _⟩ => ⟨o, ho⟩
  unfold fps at hb
  simp only [List.mem_cons, List.mem_append] at hb
  rcases hb with rfl | rfl | rfl | rfl | rfl | rfl | rfl | rfl | hb | hb
  · exact has h.nodes.top
  · obtain ⟨nm, q, bs, sn, sub, col, dd, k0, k1, k2, k3, k5, hC⟩ := h.cls.obj; exact ⟨_, hC⟩
  · exact has (Has.of_ns h.cls.ns)
  · exact has h.cel.isin
  · exact has h.cel.str
  · obtain ⟨_, x⟩ := h.cel.ns; exact has x
  · exact has h.cel.only
  · exact has h.cel.slice
  · obtain ⟨i, hi, rfl⟩ := List.mem_iff_getElem.mp hb
    have l1 := h.nodes.len; have l2 := h.nodes.len'
    exact has (h.nodes.node i _ _ _ (List.getElem?_eq_getElem hi) (List.getElem?_eq_getElem (by omega)) (List.getElem?_eq_getElem (by omega))).1
  · obtain ⟨i, hi, rfl⟩ := List.mem_iff_getElem.mp hb
    have l1 := h.nodes.len; have l2 := h.nodes.len'
    exact has (h.nodes.node i _ _ _ (List.getElem?_eq_getElem (by omega)) (List.getElem?_eq_getElem hi) (List.getElem?_eq_getElem (by omega))).2.1

def cnt (xs : List Int) (i : Nat) : Nat := ((xs.drop i).filter fun x => decide (x < 4)).length

/-- the generator's own two objects, and where it stands -/
def genY (C N : Addr) (mN : Str → Option Value) (nl : Addr) (nds dcs : List Addr) (xs : List Int) (c1 c2 c3 c4 sl GL it : Addr) : Protocol := fun m s₀ v s' kap =>
  ∃ i x n mm, xs[i]? = some x ∧ x < 4 ∧ nds[i]? = some n ∧ cnt xs (i + 1) = m ∧ v = .ref n ∧ s'.gens = s₀.gens ∧ Own (fun b => b = GL ∨ b = it) s₀ s' [(GL, .ns mm), (it, .iter nl (i + 1))] ∧
    ∀ s'' mm', Stat s''.heap C N mN nl nds dcs xs c1 c2 c3 c4 sl → Has s''.heap GL (.ns mm') → Has s''.heap it (.iter nl (i + 1)) → kap (.send .none) s''
def genP (GL it : Addr) (n : Nat) (s₀ s₁ : Shared) : Prop := n = 0 ∧ s₁.gens = s₀.gens ∧ ∃ mm, Own (fun b => b = GL ∨ b = it) s₀ s₁ [(GL, .ns mm)]
def genR (GL it : Addr) : GenEnd := fun n s₀ r s₁ => r = .ok (.ret .none) ∧ genP GL it n s₀ s₁

theorem attr_wp {x attr : Str} {p pos : Pos} {Q : Value → Shared → Prop} (hb : attributeBase (.Name x p) attr env (eval (.Name x p) env) = eval (.Name x p) env)
    (h : wpAny (model prog w) A (eval (.Name x p) env) (fun o s₁ => wpAny (model prog w) A (getAttr o attr true) Q E s₁) E s) : wpAny (model prog w) A (eval (.Attribute (.Name x p) attr pos) env) Q E s := by
  rw [arm_eval_Attribute, hb]
  exact wpAny_bind (wpAny_mono h (fun o s₁ h₁ => wpAny_bind (wpAny_standAt (wpAny_bind (wpAny_holding (wpAny_mono h₁ (fun r s₂ h₂ => wpAny_bind (wpAny_pure (wpAny_pure h₂))) fun _ _ e => e))))) fun _ _ e => e)

theorem cnt_yes {i : Nat} {x : Int} (hx : xs[i]? = some x) (h4 : x < 4) : cnt xs i = cnt xs (i + 1) + 1 := by
  unfold cnt
  obtain ⟨hi, rfl⟩ := List.getElem?_eq_some_iff.mp hx
  rw [List.drop_eq_getElem_cons hi, List.filter_cons, if_pos (by simpa using h4)]
  rfl
theorem cnt_no {i : Nat} {x : Int} (hx : xs[i]? = some x) (h4 : ¬ x < 4) : cnt xs i = cnt xs (i + 1) := by
  unfold cnt
  obtain ⟨hi, rfl⟩ := List.getElem?_eq_some_iff.mp hx
  rw [List.drop_eq_getElem_cons hi, List.filter_cons, if_neg (by simpa using h4)]

theorem gen_turn {it : Addr} {c : Code} {p : Pos} {K : Flow → Sem Fin} {H : Value → Sem Fin} (hE : EnvG env) (hs : env.scope = selDf.scope) (hcl : env.cells = closOf c1 c2 c3 c4) (hh : A.handled = none) (hgn : mN "__getattribute__" = none) (htn : mN "tag" = none)
    (hGL : env.locals ∉ fps C N nl nds dcs c1 c2 c3 c4 sl) (hit : it ∉ fps C N nl nds dcs c1 c2 c3 c4 sl) (hne : env.locals ≠ it) (hK : ∀ n s₀ s, genP env.locals it n s₀ s → Seg (model prog w) A (genR env.locals it) (genY C N mN nl nds dcs xs c1 c2 c3 c4 sl env.locals it) n s₀ c (K .next) [] s) :
    ∀ (k i : Nat) (s₀ s : Shared) (mm : Str → Option Value), k = xs.length - i → i ≤ xs.length → Stat s.heap C N mN nl nds dcs xs c1 c2 c3 c4 sl → Own (fun b => b = env.locals ∨ b = it) s₀ s [(env.locals, .ns mm), (it, .iter nl i)] → s.gens = s₀.gens →
    Seg (model prog w) A (genR env.locals it) (genY C N mN nl nds dcs xs c1 c2 c3 c4 sl env.locals it) (cnt xs i) s₀ (.forLoop selTgt (.ref it) selBody [] env) ((model prog w).den (.forLoop selTgt (.ref it) selBody [] env)) [.ret (forRet env K H id id) none false [] c p []] s := by
  intro k
  induction k with
  | zero =>
    intro i s₀ s mm hk hi S O hg
    have hi' : i = xs.length := by omega
    subst hi'
    refine seg_forTurn fun E' => ?_
    refine nxt_end hh (O.pick 2 [1, 0]) S.nodes.top (by simp [S.nodes.len]) fun s₁ O1 _ hg1 => ?_
    dsimp only
    refine seg_leaf (r := .ok .next) ?_
    refine hK _ _ _ ⟨by simp [cnt], hg1.trans hg, mm, O1⟩
  | succ k ih =>
    intro i s₀ s mm hk hi S O hg
    have hi' : i < xs.length := by omega
    obtain ⟨x, hx⟩ : ∃ x, xs[i]? = some x := ⟨_, List.getElem?_eq_getElem hi'⟩
    obtain ⟨n, hn⟩ : ∃ n, nds[i]? = some n := ⟨_, List.getElem?_eq_getElem (by have := S.nodes.len; omega)⟩
    obtain ⟨d, hd⟩ : ∃ n, dcs[i]? = some n := ⟨_, List.getElem?_eq_getElem (by have := S.nodes.len'; omega)⟩
    have hXX : ∀ b ∈ fps C N nl nds dcs c1 c2 c3 c4 sl, ¬ (b = env.locals ∨ b = it) := fun b hb h => h.elim (fun e => hGL (e ▸ hb)) fun e => hit (e ▸ hb)
    refine seg_forTurn fun E' => ?_
    refine nxt O 1 rfl S.nodes.top (by rw [List.getElem?_map, hn]; rfl) fun s₁ O1 k1 hg1 => ?_
    dsimp only
    refine wpAny_assign_Name (stL O1 0 rfl hE (kind_of hs rfl) fun s₂ O2 k2 hg2 => ?_)
    have S2 : Stat s₂.heap C N mN nl nds dcs xs c1 c2 c3 c4 sl := (S.kp k1 fun b hb e => hXX b hb (.inr e)).kp k2 fun b hb e => hXX b hb (.inl e)
    refine seg_execs_cons (seg_st fun E' => ?_)
    obtain ⟨r1, r2, r3, r4, r5⟩ := S2.nodes.node i n d x hn hd hx
    obtain ⟨od, hod, m', tk, t, v, hon, hroot, htag, htt, hv⟩ := r2
    refine wpAny_Assign_Name (attr_wp rfl (nameL (O2.nth 0 rfl) hE (kind_of hs rfl) rfl (getA S2.cls hgn htn r1 ⟨od, hod, hon⟩ r3 htag (by rw [typeLookup_type, builtinLookup_eq_fast]; kernel_rfl) ?_ ?_)))
    · cases t with
      | none => have hv' : v = .none := hv; rw [hv']; rfl
      | some t => obtain ⟨tk, rfl⟩ : ∃ tk, v = .str t tk := hv; rfl
    · refine stL (O2.tok _) 0 rfl hE (kind_of hs rfl) fun s₃ O3 k3 hg3 => ?_
      have S3 : Stat s₃.heap C N mN nl nds dcs xs c1 c2 c3 c4 sl := S2.kp (s' := s₃) (X := (· = env.locals)) ⟨k3.get, k3.os, k3.bare⟩ fun b hb e => hXX b hb (.inl e)
      have hgs : s₃.gens = s₀.gens := hg3.trans (hg2.trans (hg1.trans hg))
      clear O O1 O2
      dsimp only
      refine seg_execs_cons (seg_If fun E' => ?_)
      refine sel_test hE hs hcl (O3.nth 0 rfl) rfl S3.cel r4 r5 htt hv fun kk => ?_
      have O4 := O3.tok kk
      have S4 : Stat s₃.heap C N mN nl nds dcs xs c1 c2 c3 c4 sl := S3
      by_cases h4 : x < 4
      · rw [if_pos (by simpa using h4), cnt_yes hx h4]
        refine seg_execs_cons (seg_Expr_Yield rfl rfl rfl (nameL (O4.nth 0 rfl) hE (kind_of hs rfl) rfl fun kap hkap => ?_) (hco := by rw [hs]; rfl) (hi := hE.inter))
        refine ⟨i, x, n, _, hx, h4, hn, rfl, rfl, hgs, O4, fun s₅ mm' S5 hGL' hit' => hkap .none s₅ ?_⟩
        refine seg_again rfl (ih (i + 1) s₅ s₅ mm' (by omega) (by omega) S5 ⟨.refl _ _, by simp [hne], fun q hq => ?_, fun q hq => ?_⟩ rfl)
        · rcases List.mem_cons.mp hq with rfl | hq
          · exact .inl (.inl rfl)
          · rcases List.mem_singleton.mp hq with rfl; exact .inl (.inr rfl)
        · rcases List.mem_cons.mp hq with rfl | hq
          · exact hGL'
          · rcases List.mem_singleton.mp hq with rfl; exact hit'
      · rw [if_neg (by simpa using h4), cnt_no hx h4]
        exact seg_again rfl (ih (i + 1) s₀ _ _ (by omega) (by omega) S4 O4 hgs)
end
end Mine

namespace Mine
section
variable {prog : Program} {w : World} {A : Around} {E : Value → Shared → Prop} {s : Shared} {env : Env} {mg mb : Str → Option Value} {g : Heap} {C N : Addr} {mN : Str → Option Value} {c1 c2 c3 c4 sl : Addr} {nl : Addr} {nds dcs : List Addr} {xs : List Int}

theorem gen_fresh {m : Str → Option Value} (hE : EnvG env) (hs : env.scope = selDf.scope) (hcl : env.cells = closOf c1 c2 c3 c4) (hh : A.handled = none) (hgn : mN "__getattribute__" = none) (htn : mN "tag" = none)
    (hGL : env.locals ∉ fps C N nl nds dcs c1 c2 c3 c4 sl) (S : Stat s.heap C N mN nl nds dcs xs c1 c2 c3 c4 sl) (hL : Has s.heap env.locals (.ns m)) (hm : m (Str.ofString "result") = some (.ref nl)) :
    Seg (model prog w) A (genR env.locals s.heap.objs.size) (genY C N mN nl nds dcs xs c1 c2 c3 c4 sl env.locals s.heap.objs.size) (cnt xs 0) s (.func selDf.body env) ((model prog w).den (.func selDf.body env)) [] s := by
  refine seg_func (seg_execs_cons (seg_For fun E' => nameL hL hE (kind_of hs rfl) hm (wpAny_pyIter_list S.nodes.top.isList fun p => ?_)))
  have hne : env.locals ≠ s.heap.objs.size := Nat.ne_of_lt hL.lt
  have hit : s.heap.objs.size ∉ fps C N nl nds dcs c1 c2 c3 c4 sl := fun hm => by
    obtain ⟨o, ho⟩ := S.is _ hm
    rw [fresh_at] at ho; cases ho
  have O0 : Own (fun b => b = env.locals ∨ b = s.heap.objs.size) s s [(env.locals, .ns m)] := ⟨.refl _ _, by simp, fun q hq => by rcases List.mem_singleton.mp hq with rfl; exact .inl (.inl rfl), fun q hq => by rcases List.mem_singleton.mp hq with rfl; exact hL⟩
  have O1 := (O0.push { cls := .type "list_iterator", data := .fields #[.ref nl, .int 0 0] } (.iter nl 0) ⟨rfl, rfl⟩ s.toks).pick 2 [1, 0]
  refine gen_turn hE hs hcl hh hgn htn hGL hit hne ?_ (xs.length - 0) 0 s _ m rfl (Nat.zero_le _) (S.kp (Kp.push No s _ s.toks) fun _ _ h => h) O1 rfl
  intro n s₀ s' hP
  exact seg_end (r := .ok (.ret .none)) ⟨rfl, hP⟩

/-- next() of a def's generator; what is left suspended is bare -/
theorem next_fun {a : Addr} {gi n : Nat} {gs : GenState} {P : Nat → Shared → Shared → Prop} {Y : Protocol} {Q : Option Value → Shared → Prop} (hh : A.handled = none) (hl : s.heap.NoLimit) (hroom : A.depth < recursionLimit) (hg : s.heap.IsGen a gi) (hgs : s.gens[gi]? = some gs)
    (hgo : gs.Goes (model prog w) A.in1 (fun n s₀ r s₁ => r = .ok (.ret .none) ∧ P n s₀ s₁) Y n (.send .none) (s.setGen gi .running))
    (hY : ∀ v s₁ gs', gs'.bare = true → Y (n - 1) (s.setGen gi .running) v s₁ (fun r' s'' => match n with
        | 0 => False
        | m + 1 => gs'.Goes (model prog w) A.in1 (fun n s₀ r s₁ => r = .ok (.ret .none) ∧ P n s₀ s₁) Y m r' s'') → Q (some v) (s₁.setGen gi gs'))
    (hP : ∀ s₁, P n (s.setGen gi .running) s₁ → ∀ h', (∀ b o, s₁.heap.get? b = some o → h'.get? b = some o) → Q none { s₁.setGen gi .finished with heap := h' }) :
    wpAny (model prog w) A (pyNext (.ref a)) Q E s := by
  have wake : ∀ {Q' : Fin → Shared → Prop} {E' : Value → Shared → Prop}, (∀ v s₁, Q (some v) s₁ → Q' (.done (.ret v)) s₁) → (∀ s₁ h' t, P n (s.setGen gi .running) s₁ → (∀ b o, s₁.heap.get? b = some o → h'.get? b = some o) → (∃ o, h'.get? t = some o ∧ o.cls = .type "StopIteration") → E' (.ref t) { s₁.setGen gi .finished with heap := h' }) →
      wpAny (model prog w) A.in1 (Builtin.Generator.genWake (.ref a) (.send .none)) Q' E' s := by
    intro Q' E' hq he
    unfold Builtin.Generator.genWake
    refine wpAny_bind (wpAny_holding (wpAny_genNumber hg (wpAny_bind (wpAny_genState hgs ?_))))
    cases gs with
    | running => exact hgo.elim
    | finished => exact hgo.elim
    | _ =>
      refine wpAny_bind (wpAny_roomToWake hl hroom ?_)
      refine wpAny_resumeQ hgs hgo (fun x s₁ hx => ?_) (fun v s₁ gs' hb hv => wpAny_pure (hq v _ (hY v s₁ gs' hb hv)))
      obtain ⟨rfl, hp⟩ := hx
      show wpAny _ _ (newExc (.type "StopIteration") [] >>= _) _ _ _
      refine wpAny_bind ?_
      simp only [newExc, newTuple]
      refine wpAny_bind (wpAny_newObj_type ?_ (by size_fits))
      refine wpAny_bind (m := firstArgMember _ _) (wpAny_of_eq (a := Value.none) (by first | rfl | (simp only [firstArgMember]; rfl)) ?_)
      refine wpAny_newObj_type ?_ (by size_fits)
      simp only [raiseNew]
      refine wpAny_bind (wpAny_bind (wpAny_handled ?_))
      rw [show A.in1.handled = none from hh]
      refine wpAny_throw (he s₁ _ _ hp (fun b o hb => Heap.get?_push_of_some _ (Heap.get?_push_of_some _ hb)) ?_)
      exact ⟨_, Heap.get?_push_size _ rfl, rfl⟩
  unfold pyNext
  refine wpAny_bind (wpAny_attempt (wpAny_callSpecial?_slot (name := Str.ofString "__next__") hg.typeIs slot_gen_next (wpAny_call_entry slot_gen_next hg.typeIs entry_gen_next ?_ (args_gen_next _))))
  refine wake (fun v s₁ h₁ => ⟨v, rfl, wpAny_pure h₁⟩) fun s₁ h' t hp hk ht => ?_
  refine wpAny_bind (wpAny_isInstance (T := "StopIteration") (b := true) ht isSubtype_stop ?_)
  exact wpAny_pure (hP s₁ hp _ hk)
end
end Mine

namespace Mine

/-- the nodes, newest first -/
def zipN (C : Addr) : List Addr → List Addr → List Int → List (Addr × Pr)
  | n :: ns, d :: ds, x :: xs => (n, objPr C d) :: (d, nodePr x) :: zipN C ns ds xs
  | _, _, _ => []

theorem zipN_mem {C : Addr} : ∀ {ns ds : List Addr} {xs : List Int} {i : Nat} {n d : Addr} {x : Int}, ns[i]? = some n → ds[i]? = some d → xs[i]? = some x → (zipN C ns ds xs)[2 * i]? = some (n, objPr C d) ∧ (zipN C ns ds xs)[2 * i + 1]? = some (d, nodePr x)
  | n :: ns, d :: ds, x :: xs, 0, _, _, _, h1, h2, h3 => by cases h1; cases h2; cases h3; exact ⟨rfl, rfl⟩
  | n :: ns, d :: ds, x :: xs, i + 1, _, _, _, h1, h2, h3 => by
    have := zipN_mem (C := C) (i := i) (ns := ns) (ds := ds) (xs := xs) h1 h2 h3
    exact this
  | [], _, _, i, _, _, _, h1, _, _ => by cases h1
  | _ :: _, [], _, i, _, _, _, _, h2, _ => by cases h2
  | _ :: _, _ :: _, [], i, _, _, _, _, _, h3 => by cases h3

section
variable {prog : Program} {w : World} {A : Around} {E : Value → Shared → Prop} {s : Shared} {env : Env} {mg mb : Str → Option Value} {g : Heap} {C N : Addr} {mN : Str → Option Value} {c1 c2 c3 c4 sl : Addr} {nl : Addr} {nds dcs : List Addr} {xs : List Int}

theorem nodes_of {X : Addr → Prop} {s₀ : Shared} {os : List (Addr × Pr)} {rn rd : List Addr} {rx : List Int} (O : Own X s₀ s ((nl, .list (rn.reverse.map .ref)) :: (zipN C rn rd rx ++ os))) (h1 : rn.length = rx.length) (h2 : rd.length = rx.length) (hx : ∀ x ∈ rx, 0 ≤ x ∧ x < 8) :
    NodesAt s.heap C nl rn.reverse rd.reverse rx.reverse where
  top := O.nth 0 rfl
  len := by simp [h1]
  len' := by simp [h2]
  node := fun i n d x e1 e2 e3 => by
    have hi : i < rx.length := by have := (List.getElem?_eq_some_iff.mp e3).1; simpa using this
    rw [List.getElem?_reverse (by omega)] at e1 e2 e3
    rw [h1] at e1; rw [h2] at e2
    obtain ⟨m1, m2⟩ := zipN_mem (C := C) e1 e2 e3
    have l2 := (List.getElem?_eq_some_iff.mp m2).1
    have l1 := (List.getElem?_eq_some_iff.mp m1).1
    have q1 : ((nl, Pr.list (rn.reverse.map .ref)) :: (zipN C rn rd rx ++ os))[2 * (rx.length - 1 - i) + 1]? = some (n, objPr C d) := by
      rw [List.getElem?_cons_succ, List.getElem?_append_left l1]; exact m1
    have q2 : ((nl, Pr.list (rn.reverse.map .ref)) :: (zipN C rn rd rx ++ os))[2 * (rx.length - 1 - i) + 1 + 1]? = some (d, nodePr x) := by
      rw [List.getElem?_cons_succ, List.getElem?_append_left l2]; exact m2
    refine ⟨O.nth _ q1, O.nth _ q2, fun e => ?_, hx x (List.mem_of_getElem? e3)⟩
    have p1 := (List.getElem?_eq_some_iff.mp q1)
    have p2 := (List.getElem?_eq_some_iff.mp q2)
    have := (List.getElem_inj (i := 2 * (rx.length - 1 - i) + 1) (j := 2 * (rx.length - 1 - i) + 1 + 1) (h₀ := by simpa using p1.1) (h₁ := by simpa using p2.1) O.nd).mp (by simp only [List.getElem_map, p1.2, p2.2, e])
    omega

def genPr (gi : Nat) : Pr := .raw fun o => ∃ nm qn, o.cls = .type "generator" ∧ o.data = .fields #[.int gi 0, nm, qn] ∧ o.slots = #[]
theorem isGen {h : Heap} {G : Addr} {gi : Nat} (x : Has h G (genPr gi)) : h.IsGen G gi := let ⟨o, ho, nm, qn, r⟩ := x; ⟨o, nm, qn, ho, r⟩

structure SelAt (h : Heap) (S c1 c2 c3 c4 sl : Addr) : Prop where
  fn : ∃ qual c', Has h S (selPr qual (closOf c1 c2 c3 c4) c') ∧ Has h c' (recPr qual)
  cel : CelAt h c1 c2 c3 c4 sl

theorem Own.setGen {X : Addr → Prop} {s₀ : Shared} {os : List (Addr × Pr)} {gi : Nat} {gs : GenState} (O : Own X s₀ s os) (hb : gs.bare = true) : Own X s₀ (s.setGen gi gs) os :=
  ⟨⟨O.kp.get, O.kp.os, fun h => by
    have := O.kp.bare h
    intro y hy
    unfold Shared.setGen at hy
    dsimp only at hy
    rcases Array.mem_or_eq_of_mem_setIfInBounds hy with h | h
    · exact this y h
    · rw [h]; exact hb⟩, O.nd, O.new, O.has⟩

/-- the generator is made -/
theorem gen_call {S : Addr} {v : Value} {Q : Value → Shared → Prop} (hl : s.heap.NoLimit) (hd : A.depth < recursionLimit) (hS : SelAt s.heap S c1 c2 c3 c4 sl)
    (h : ∀ G env s', EnvG env → env.scope = selDf.scope → env.cells = closOf c1 c2 c3 c4 → (∃ m, m (Str.ofString "result") = some v ∧ Own No s s' [(G, genPr s.gens.size), (env.locals, .ns m)]) → s'.gens = s.gens.push (.fresh (.func selDf.body env)) → Q (.ref G) s') :
    wpAny (model prog w) A (call (.ref S) [.none, v]) Q E s := by
  obtain ⟨qual, c', ⟨o, ho, doc, pm, ctv, rfl⟩, ⟨oc, hoc, vs, t, hdc, h1⟩⟩ := hS.fn
  refine wpAny_call (codeAny_call_generator hd ho rfl rfl rfl rfl ⟨c', oc, vs, t, rfl, hoc, hdc, h1⟩ ?_)
  refine wpAny_of_eq (a := [(Str.ofString "context", Value.none), (Str.ofString "result", v)]) rfl ?_
  refine wpAny_newFunctionEnv (by show ∀ x ∈ selDf.scope.names, x.2 ≠ .cell; decide) (by show ∀ x ∈ [(Str.ofString "context", Value.none), (Str.ofString "result", v)], selDf.scope.names.lookup x.1 = some .local; exact locs rfl) (fun h₁ hns hsb => ?_) (hk := rfl)
  refine ⟨hl.keeps fun b o e => hsb.extBut b o (Nat.ne_of_lt (Heap.lt_size e)) (Heap.get?_push_of_some _ e), ?_⟩
  have P : Own No s { s with heap := h₁, toks := s.toks + 2 } [(s.heap.objs.size, .ns (fun x => [(Str.ofString "context", Value.none), (Str.ofString "result", v)].reverse.lookup x))] := by
    refine ⟨⟨fun b o _ e => hsb.extBut b o (Nat.ne_of_lt (Heap.lt_size e)) (Heap.get?_push_of_some _ e), rfl, id⟩, by simp, fun p hp => ?_, fun p hp => ?_⟩
    · rcases List.mem_singleton.mp hp with rfl; exact .inr (fresh_at _)
    · rcases List.mem_singleton.mp hp with rfl; exact Has.of_ns hns
  have P2 := P.push { cls := .type "generator", data := .fields #[.int s.gens.size 0, .str selDf.name (s.toks + 2), .str qual (s.toks + 2 + 1)] } (genPr s.gens.size) ⟨_, _, rfl, rfl, rfl⟩ (s.toks + 2 + 1 + 1)
  refine h h₁.objs.size _ _ ⟨rfl, rfl, rfl⟩ rfl rfl ⟨_, rfl, ⟨⟨P2.kp.get, P2.kp.os, fun hb => ?_⟩, P2.nd, P2.new, P2.has⟩⟩ rfl
  intro y hy
  rcases Array.mem_push.mp hy with hy | hy
  · exact hb y hy
  · rw [hy]; rfl
end
end Mine

namespace Mine
section
variable {prog : Program} {w : World} {A : Around} {E : Value → Shared → Prop} {s : Shared} {env : Env} {mg mb : Str → Option Value} {g : Heap} {C N : Addr} {mN : Str → Option Value} {c1 c2 c3 c4 sl : Addr} {nl : Addr} {nds dcs : List Addr} {xs : List Int}

theorem split_filter {xs : List Int} {i : Nat} {x : Int} (hx : xs[i]? = some x) (h4 : x < 4) {dn rm : List Int} (he : dn ++ rm = xs.filter (fun x => decide (x < 4))) (hl : rm.length = cnt xs (i + 1) + 1) : ∃ r, rm = x :: r ∧ r.length = cnt xs (i + 1) := by
  obtain ⟨hi, rfl⟩ := List.getElem?_eq_some_iff.mp hx
  have e : xs.filter (fun x => decide (x < 4)) = (xs.take i).filter (fun x => decide (x < 4)) ++ xs[i] :: (xs.drop (i + 1)).filter (fun x => decide (x < 4)) := by
    have h1 : (xs[i] :: xs.drop (i + 1)).filter (fun x => decide (x < 4)) = xs[i] :: (xs.drop (i + 1)).filter (fun x => decide (x < 4)) := by
      rw [List.filter_cons, if_pos (by simpa using h4)]
    rw [← h1, ← List.filter_append, ← List.drop_eq_getElem_cons hi, List.take_append_drop]
  rw [e] at he
  have := List.append_inj' he (by rw [hl]; rfl)
  exact ⟨_, this.2, rfl⟩

theorem own_in {X : Addr → Prop} {s₀ : Shared} {os : List (Addr × Pr)} {p : Addr × Pr} (O : Own X s₀ s os) (h : p ∈ os) : ∃ o, s.heap.get? p.1 = some o := let ⟨o, ho, _⟩ := O.has p h; ⟨o, ho⟩

theorem gen_cstart {X : Addr → Prop} {s₀ : Shared} {os : List (Addr × Pr)} {genv : Env} {Cc D G : Addr} {gi : Nat} {m m0 : Str → Option Value} {x : Str} {px p1 p2 pos : Pos} {iter : PySem.Expr} {scope : Scope} {R : Result → Shared → Prop}
    (hE : EnvG env) (hxl : env.kindOf x = some .local) (hCc : env.locals = Cc) (hba : attributeBase (.Name x p1) (Str.ofString "root") env (eval (.Name x p1) env) = eval (.Name x p1) env) (hxd : (x == ("__debug__" : Str)) = false)
    (hEg : EnvG genv) (hsg : genv.scope = selDf.scope) (hclg : genv.cells = closOf c1 c2 c3 c4) (hh : A.handled = none) (hd : A.depth < recursionLimit) (hgn : mN "__getattribute__" = none) (htn : mN "tag" = none) (hrn : mN "root" = none)
    (hGL : genv.locals ∉ fps C N nl nds dcs c1 c2 c3 c4 sl) (hst : ∀ s', Own X s₀ s' os → Stat s'.heap C N mN nl nds dcs xs c1 c2 c3 c4 sl ∧ s'.heap.NoLimit) (hlen : xs.length ≤ 400)
    (O : Own X s₀ s ((Cc, .ns m) :: (D, .list []) :: (G, genPr gi) :: (genv.locals, .ns m0) :: os)) (hm0 : m0 (Str.ofString "result") = some (.ref nl)) (hgs : s.gens[gi]? = some (.fresh (.func selDf.body genv)))
    (done : ∀ ys m s', IntsAre ys (xs.filter fun x => decide (x < 4)) → Own X s₀ s' ((Cc, .ns m) :: (D, .list ys) :: os) → R (.ok .next) s') :
    codeAny (model prog w) A (.compStart (.ListComp (.Attribute (.Name x p1) (Str.ofString "root") p2) [⟨.Name x px, iter, [], 0⟩] scope pos) 0 (.ref G) (.ref D) env) R s := by
  subst hCc
  have loop : codeAny (model prog w) A (.compLoop (.ListComp (.Attribute (.Name x p1) (Str.ofString "root") p2) [⟨.Name x px, iter, [], 0⟩] scope pos) 0 (.ref G) (.ref D) env) R s := by
    refine codeAny_loop rfl (fun k s' => ∃ ys dn rm m gs it mm gp, k = rm.length ∧ Own X s₀ s' ((env.locals, .ns m) :: (D, .list ys) :: (G, genPr gi) :: (genv.locals, .ns mm) :: (gp ++ os)) ∧ (it ∈ gp.map (·.1) ∨ s'.heap.get? it = none) ∧ (∀ q ∈ gp, q.1 = it) ∧ IntsAre ys dn ∧
      dn ++ rm = xs.filter (fun x => decide (x < 4)) ∧ s'.gens[gi]? = some gs ∧ gs.Goes (model prog w) A.in1 (genR genv.locals it) (genY C N mN nl nds dcs xs c1 c2 c3 c4 sl genv.locals it) rm.length (.send .none) (s'.setGen gi .running)) (fun k s' hI => ?_) (xs.filter fun x => decide (x < 4)).length ?_
    · obtain ⟨ys, dn, rm, m, gs, it, mm, gp, rfl, O1, hit, hgp, hys, hdr, hgs1, hgo⟩ := hI
      have Os : Own X s₀ s' os := O1.sub (.cons _ (.cons _ (.cons _ (.cons _ (List.sublist_append_right gp os)))))
      have O2 : Own X s₀ (s'.setGen gi .running) ((env.locals, .ns m) :: (D, .list ys) :: (G, genPr gi) :: os) := (O1.sub (.cons_cons _ (.cons_cons _ (.cons_cons _ (.cons _ (List.sublist_append_right gp os)))))).setGen rfl
      have hnd := O1.nd
      simp only [List.map_cons, List.map_append] at hnd
      have hy : ∀ b, b = genv.locals ∨ b = it → X b ∨ s₀.heap.get? b = none := fun b hb => by
        rcases hb with rfl | rfl
        · exact O1.new (genv.locals, .ns mm) (by simp)
        · rcases hit with h | h
          · obtain ⟨q, hq, rfl⟩ := List.mem_map.mp h
            exact O1.new q (by simp [hq])
          · exact O1.kp.none h
      have hdj : ∀ p ∈ (env.locals, Pr.ns m) :: (D, .list ys) :: (G, genPr gi) :: os, ¬ (p.1 = genv.locals ∨ p.1 = it) := fun p hp hor => by
        have hp' : p.1 = env.locals ∨ p.1 = D ∨ p.1 = G ∨ p.1 ∈ os.map (·.1) := by
          rcases List.mem_cons.mp hp with rfl | hp
          · exact .inl rfl
          · rcases List.mem_cons.mp hp with rfl | hp
            · exact .inr (.inl rfl)
            · rcases List.mem_cons.mp hp with rfl | hp
              · exact .inr (.inr (.inl rfl))
              · exact .inr (.inr (.inr (List.mem_map.mpr ⟨p, hp, rfl⟩)))
        obtain ⟨n1, hnd⟩ := List.nodup_cons.mp hnd
        obtain ⟨n2, hnd⟩ := List.nodup_cons.mp hnd
        obtain ⟨n3, hnd⟩ := List.nodup_cons.mp hnd
        obtain ⟨n4, hnd⟩ := List.nodup_cons.mp hnd
        have hnd' := List.nodup_append.mp hnd
        rcases hor with h | h
        · rcases hp' with e | e | e | e
          · exact n1 (by rw [← e, h]; simp)
          · exact n2 (by rw [← e, h]; simp)
          · exact n3 (by rw [← e, h]; simp)
          · exact n4 (by rw [← h]; simp [e])
        · rcases hit with hi | hi
          · rcases hp' with e | e | e | e
            · exact n1 (by rw [← e, h]; simp [hi])
            · exact n2 (by rw [← e, h]; simp [hi])
            · exact n3 (by rw [← e, h]; simp [hi])
            · exact hnd'.2.2 _ hi _ e h.symm
          · obtain ⟨o, ho⟩ := own_in O2 hp
            rw [h] at ho
            exact absurd (hi.symm.trans ho) (by simp)
      show wpAny _ _ ((compTurn _ 0 (.ref G) (.ref D) env).onRaise (fun x => do noteFrame x env; theTreesLotGoes x)) _ _ s'
      refine wpAny_noted ?_
      refine compTurn_wp rfl (by intro g hg; rcases List.mem_singleton.mp hg with rfl; rfl) ?_
      refine next_fun (P := genP genv.locals it) (Y := genY C N mN nl nds dcs xs c1 c2 c3 c4 sl genv.locals it) hh (hst s' Os).2 hd (isGen (O1.nth 2 rfl)) hgs1 hgo ?_ ?_
      · intro v s₁ gs' hb hv
        obtain ⟨i, x', n, mm', hx, h4, hn, hcn, rfl, hg1, P, cont⟩ := hv
        have O3 := (O2.on P hy hdj).setGen (gi := gi) hb
        have S3 := hst _ (O3.sub (.cons _ (.cons _ (.cons _ (.cons _ (.cons _ (List.Sublist.refl _)))))))
        cases rm with
        | nil => exact (cont s₁ mm' S3.1 (P.nth 0 rfl) (P.nth 1 rfl)).elim
        | cons y r =>
          have hcn' : cnt xs (i + 1) = r.length := hcn
          obtain ⟨r', hr, hrl⟩ := split_filter hx h4 hdr (by rw [hcn']; rfl)
          cases hr
          dsimp only
          refine stL O3 2 rfl hE hxl fun s₂ O4 k4 hg4 => ?_
          refine tests_nil ?_
          rw [if_pos rfl]
          have S4 := hst _ (O4.sub (.cons _ (.cons _ (.cons _ (.cons _ (.cons _ (List.Sublist.refl _)))))))
          obtain ⟨d, hd'⟩ : ∃ d, dcs[i]? = some d := ⟨_, List.getElem?_eq_getElem (by have := S4.1.nodes.len'; have := (List.getElem?_eq_some_iff.mp hx).1; omega)⟩
          obtain ⟨r1, ⟨od, hod, m', tk, t, tv, hon, hroot, htag, htt, htv⟩, r3, _⟩ := S4.1.nodes.node i n d x' hn hd' hx
          refine emit_last rfl (attr_wp hba (nameL (O4.nth 2 rfl) hE hxl (up_self ..) (getA S4.1.cls hgn hrn r1 ⟨od, hod, hon⟩ r3 hroot (by rw [typeLookup_type, builtinLookup_eq_fast]; kernel_rfl) rfl ?_) hxd))
          have hdl : dn.length + (r.length + 1) = (xs.filter fun x => decide (x < 4)).length := by rw [← hdr]; simp
          have hfl : (xs.filter fun x => decide (x < 4)).length ≤ xs.length := List.length_filter_le ..
          have hyl := hys.length
          refine apd (O4.tok _) 3 rfl (by have : sizeLine = 16777216 := rfl; omega) fun s₅ O5 k5 hg5 => ?_
          have O6 := O5.pick 5 [2, 3, 4, 0, 1]
          have O6' : Own X s₀ s₅ ((env.locals, .ns (up m x (.ref n))) :: (D, .list (ys ++ [.int x' tk])) :: (G, genPr gi) :: (genv.locals, .ns mm') :: ([(it, .iter nl (i + 1))] ++ os)) := by
            simp only [List.take, List.drop, List.filterMap, List.set, List.cons_append, List.nil_append, List.getElem?_cons_zero, List.getElem?_cons_succ] at O6
            exact O6
          have S6 := hst _ (O5.sub (.cons _ (.cons _ (.cons _ (.cons _ (.cons _ (List.Sublist.refl _)))))))
          have hgg : s₅.gens[gi]? = some gs' := by
            rw [hg5]
            show s₂.gens[gi]? = _
            rw [hg4]
            refine setGen_self (gs := .running) ?_
            rw [hg1]
            exact setGen_self hgs1
          refine ⟨rfl, r.length, Nat.lt_succ_self _, ys ++ [.int x' tk], dn ++ [x'], r, up m x (.ref n), gs', it, mm', [(it, .iter nl (i + 1))], rfl, O6', .inl (by simp), by simp, hys.append (.cons x' tk .nil), by rw [← hdr]; simp, hgg, ?_⟩
          exact cont (s₅.setGen gi .running) mm' S6.1 (O5.nth 0 rfl) (O5.nth 1 rfl)
      · intro s₁ hP h' hk
        obtain ⟨hn0, hg1, mm', P⟩ := hP
        have hrm : rm = [] := List.eq_nil_of_length_eq_zero hn0
        subst hrm
        have O3 := (O2.on P hy hdj).setGen (gi := gi) (gs := .finished) rfl
        have O4 : Own X s₀ { s₁.setGen gi .finished with heap := h' } _ := O3.keep (s' := { s₁.setGen gi .finished with heap := h' }) ⟨fun b o _ e => hk b o e, rfl, id⟩
        rw [List.append_nil] at hdr
        subst hdr
        exact done ys m _ hys (O4.pick 4 [1, 2])
    · refine ⟨[], [], _, m, _, s.heap.objs.size, m0, [], rfl, O, .inr (fresh_at _), by simp, .nil, rfl, hgs, rfl, ?_⟩
      exact gen_fresh (s := s.setGen gi .running) hEg hsg hclg hh hgn htn hGL (hst s (O.sub (.cons _ (.cons _ (.cons _ (.cons _ (List.Sublist.refl _))))))).1 (O.nth 3 rfl) hm0
  refine codeAny_of_tree ?_
  show wpAny _ _ ((compStart _ 0 (.ref G) (.ref D) env).onRaise (fun x => do noteFrame x env; standAt theWindowsPlace)) _ _ s
  refine wpAny_notedAt ?_
  unfold compStart
  simp only [clausesOf, List.getElem?_cons_zero, Option.elim, bne_self_eq_false, Bool.false_eq_true, if_false]
  refine wpAny_bind (wpAny_askSetting ?_)
  split
  · exact wpAny_pure (And.intro rfl loop)
  · refine wpAny_bind (wpAny_rule (wpAny_bind (wpAny_standAt (wpAny_bind (wpAny_pyIter_gen (isGen (O.nth 2 rfl)) (wpAny_pure (And.intro rfl loop)))))))
end
end Mine

namespace Mine
section
variable {prog : Program} {w : World} {A : Around} {E : Value → Shared → Prop} {s : Shared} {env : Env} {mg mb : Str → Option Value} {g : Heap} {C N : Addr} {mN : Str → Option Value} {c1 c2 c3 c4 sl : Addr}

theorem SelAt.kp {X : Addr → Prop} {s s' : Shared} {S : Addr} (h : SelAt s.heap S c1 c2 c3 c4 sl) (k : Kp X s s') (n : ∀ b, ¬ X b) : SelAt s'.heap S c1 c2 c3 c4 sl :=
  ⟨let ⟨q, c', a, b⟩ := h.fn; ⟨q, c', a.kp k (n _), b.kp k (n _)⟩, h.cel.kp k fun b _ => n b⟩

theorem intsAre_at : ∀ {vs : List Value} {xs : List Int} {i : Nat} {v : Value}, IntsAre vs xs → vs[i]? = some v → ∃ x t, xs[i]? = some x ∧ v = .int x t
  | _, _, 0, v, .cons x t _, h => by cases h; exact ⟨x, t, rfl, rfl⟩
  | _, _, i + 1, v, .cons x t r, h => intsAre_at (i := i) r h
  | _, _, _, _, .nil, h => by cases h

theorem sieved_spec {a S l : Addr} {xs : List Int} (G : GF mg mb g) (K : GC mg g C N mN) (hg : Sub g s.heap) (F : FnAt mg g 7 a) (hd : A.depth < 950) (hh : A.handled = none) (hS : SelAt s.heap S c1 c2 c3 c4 sl) (hl : Has s.heap l (.ints xs)) (hx8 : ∀ x ∈ xs, 0 ≤ x ∧ x < 8) (hlen : xs.length ≤ 400) :
    wpAny (model prog w) A (call (.ref a) [.ref S, .ref l]) (fun v s' => ∃ D, v = .ref D ∧ Own No s s' [(D, .ints (xs.filter fun x => decide (x < 4)))]) E s := by
  refine call_fn (binds := [(Str.ofString "sieve", .ref S), (Str.ofString "row", .ref l)]) G hg F (by show A.depth < 1000; omega) (fun _ _ _ => rfl) ?_ (hloc := locs rfl)
  intro env s₁ hE hs _ hf O _
  obtain ⟨a6, F6⟩ := G.fn 6 (by decide)
  have hd2 : (A.deeper env).depth < 980 := by show A.depth + 1 < 980; omega
  have hh2 : (A.deeper env).handled = none := hh
  generalize hA : A.deeper env = A2 at *
  have hno : ∀ b, ¬ No b := fun _ h => h
  have hgo : ∀ {s' os}, Own No s s' os → Sub g s'.heap := fun O' => hg.kp O'.kp fun _ h => h.elim
  have hs20 : sizeLine = 16777216 := rfl
  obtain ⟨vs, hvs, hlv⟩ := hl.ints
  have hvl := hvs.length
  conv => arg 3; arg 1; whnf
  refine wpAny_execs_cons (wpAny_Return_some (eval_comp rfl ?_))
  refine wpAny_comprehension_free (cl := []) rfl (by intro _; rfl) rfl rfl (nd_of _ rfl) (callF ?_)
  refine nameL (O.nth 0 rfl) hE (kind_of hs rfl) rfl ⟨S, rfl, Calls.spliced_cons (wpAny_Constant_none (k := 0) (pos := default) (Calls.spliced_cons (eval_comp rfl ?_)))⟩
  refine comp_one (X := No) (s₀ := s) (cl := []) hE hh2 rfl (nameL (O.nth 0 rfl) hE (kind_of hs rfl) rfl ⟨l, vs, _, rfl, O,
    fun i ys os' => ∃ rn rd rx, ys = rn.reverse.map .ref ∧ rx.reverse = xs.take i ∧ rn.length = rx.length ∧ rd.length = rx.length ∧ os' = zipN C rn rd rx ++ [(env.locals, .ns fun x => [(Str.ofString "sieve", Value.ref S), (Str.ofString "row", Value.ref l)].reverse.lookup x)], ⟨[], [], [], rfl, rfl, rfl, rfl, rfl⟩, ?_, by omega, ?_, ?_, ?_⟩)
  · rintro i ys os' s' _ O'
    exact O'.old hlv (hno _)
  · rintro i ys os' ⟨rn, rd, rx, rfl, h1, h2, _, _⟩
    have := congrArg List.length h1
    simp at this ⊢
    omega
  · rintro i v Cc D it ys m os' s' hv ⟨rn, rd, rx, rfl, h1, h2, h3, rfl⟩ hm O' E'
    obtain ⟨x, tk, hxi, rfl⟩ := intsAre_at hvs hv
    obtain ⟨hx0, hx8'⟩ := hx8 x (List.mem_of_getElem? hxi)
    refine tests_nil ?_
    rw [if_pos rfl]
    refine callF ?_
    refine nameG G (hgo O') (hE.comp rfl) (comp_global rfl) F6.1 ⟨a6, rfl, Calls.spliced_cons (nameL (O'.nth 0 rfl) (hE.comp rfl) (comp_local rfl) hm (Calls.spliced_nil ⟨?_, ?_⟩))⟩
    · obtain ⟨_, o, pm, cd, doc, ho, hdt, _⟩ := F6
      exact ⟨o, _, hgo O' _ _ ho, hdt⟩
    refine wpAny_mono (node_spec G K (hgo O') F6 hd2 hx0 hx8') (fun v s₂ h₂ => ?_) fun _ _ e => e
    obtain ⟨n, d, rfl, P⟩ := h₂
    have O2 := (O'.on' P).pick 5 [2, 3, 4, 0, 1]
    refine ⟨_, m, ⟨n :: rn, d :: rd, x :: rx, by simp, ?_, by simp [h2], by simp [h3], rfl⟩, O2⟩
    rw [List.reverse_cons, h1, List.take_add_one, hxi]; rfl
  · rintro Cc D ys m os' s' ⟨rn, rd, rx, rfl, h1, h2, h3, rfl⟩ O'
    rw [hvl, List.take_length] at h1
    subst h1
    refine ⟨m, _, O', fun s₂ O2 => ?_⟩
    have N2 := nodes_of O2 h2 h3 (fun x hx => hx8 x (by simpa using hx))
    have hS2 := hS.kp O2.kp hno
    have hl2 := G.lim.keeps (hgo O2)
    refine Calls.spliced_nil ⟨?_, ?_⟩
    · obtain ⟨q, c', ⟨o, ho, doc, pm, ctv, rfl⟩, _⟩ := hS2.fn
      exact ⟨_, _, ho, rfl⟩
    refine gen_call hl2 (by show A2.depth < 1000; omega) hS2 fun Gn genv s₃ hEg hsg hcg hP hgens => ?_
    obtain ⟨m0, hm0, P⟩ := hP
    have O3 := O2.on' P
    refine wpAny_pyIter_gen (isGen (O3.nth 0 rfl)) ?_
    refine wpAny_newObj_type (hd := by size_fits) ?_
    have O4 := O3.push { cls := .type "list", data := .seq ([] : List Value).toArray } (.list []) ⟨0, rfl⟩ s₃.toks
    refine wpAny_newFunctionEnv (by decide) (by intro y hy; simp at hy) (fun h₁ hns₁ hsb₁ => ?_) rfl
    dsimp only at hns₁ hsb₁ O4 ⊢
    generalize hH3 : (s₃.heap.push { cls := .type "list", dict := none, data := .seq ([] : List Value).toArray }) = H2 at *
    have P5 : Own No { s₃ with heap := H2 } { s₃ with heap := h₁, toks := s₃.toks + ([] : List (Str × Value)).length } [(H2.objs.size, .ns fun _ => none)] := by
      refine ⟨⟨fun b o _ e => hsb₁.extBut b o (Nat.ne_of_lt (Heap.lt_size e)) (Heap.get?_push_of_some _ e), rfl, id⟩, by simp, fun p hp => ?_, fun p hp => ?_⟩
      · rcases List.mem_singleton.mp hp with rfl; exact .inr (fresh_at _)
      · rcases List.mem_singleton.mp hp with rfl; exact Has.of_ns hns₁
    have O5 := O4.on' P5
    have hst : ∀ s', Own No s s' ((D, .list (rn.reverse.map .ref)) :: (zipN C rn rd rx ++ [(env.locals, .ns fun x => [(Str.ofString "sieve", Value.ref S), (Str.ofString "row", Value.ref l)].reverse.lookup x)])) → Stat s'.heap C N mN D rn.reverse rd.reverse rx.reverse c1 c2 c3 c4 sl ∧ s'.heap.NoLimit := fun s' O' =>
      ⟨⟨nodes_of O' h2 h3 (fun x hx => hx8 x (by simpa using hx)), (hS.kp O'.kp hno).cel, K.cls.keeps (hgo O')⟩, G.lim.keeps (hgo O')⟩
    have hGL : genv.locals ∉ fps C N D rn.reverse rd.reverse c1 c2 c3 c4 sl := fun hm => by
      obtain ⟨o, ho⟩ := (hst s₂ O2).1.is _ hm
      rcases P.new (genv.locals, .ns m0) (by simp) with h | h
      · exact h
      · rw [h] at ho; cases ho
    refine codeAny_mono (gen_cstart (X := No) (s₀ := s) (C := C) (N := N) (mN := mN) (nds := rn.reverse) (dcs := rd.reverse) (xs := rx.reverse) (nl := D) (genv := genv) (gi := s₂.gens.size) (m0 := m0) (hE.comp (cl := []) (C := H2.objs.size) rfl) (comp_local rfl) rfl rfl rfl hEg hsg hcg hh2 (by show A2.depth < 1000; omega) (K.no _ (by decide)) (K.no _ (by decide)) (K.no _ (by decide)) hGL hst (by simpa using hlen) O5 hm0 ?_ ?_ (R := fun r s' => match r with | .ok _ => ∃ ys m, IntsAre ys (rx.reverse.filter fun x => decide (x < 4)) ∧ Own No s s' ((H2.objs.size, .ns m) :: (s₃.heap.objs.size, .list ys) :: (D, .list (rn.reverse.map .ref)) :: (zipN C rn rd rx ++ [(env.locals, .ns fun x => [(Str.ofString "sieve", Value.ref S), (Str.ofString "row", Value.ref l)].reverse.lookup x)])) | .error _ => False)) fun r s' hr => ?_
    · show s₃.gens[s₂.gens.size]? = _
      rw [hgens]; simp
    · intro ys m s' hys O'
      exact ⟨ys, m, hys, O'⟩
    · cases r with
      | error x => exact hr.elim
      | ok f =>
        obtain ⟨ys, m, hys, O'⟩ := hr
        refine ⟨m, (O'.nth 0 rfl).ns, fun h' hs' => ⟨_, rfl, ?_⟩⟩
        have O6 := own_but O' (Kp.same (t := s'.toks) hs')
        exact (O6.shuts 0 rfl hys).sub (.cons_cons _ (List.nil_sublist _))
end
end Mine

namespace Mine
section
variable {prog : Program} {w : World} {A : Around} {E : Value → Shared → Prop} {s : Shared} {env : Env}

theorem slot_slice_init : Slot "slice" "__init__" "object.__init__" :=
  .of (owner := "object") (n := "__init__") (by rw [typeLookup_type, builtinLookup_eq_fast]; kernel_rfl) (by decide +kernel) (by decide +kernel) (by decide +kernel)
    (by first | exact .inl (by decide +kernel) | exact .inr (by decide +kernel)) (by rw [isSubtype_type]; kernel_rfl)
theorem mro_slice : mroOf (.type "slice") = pure [.type "slice", .type "object"] := by rw [mroOf_type]; kernel_rfl
theorem lookup_slice_new : typeLookup (.type "slice") "__new__" = pure (some (.builtin "slice.__new__")) := by rw [typeLookup_type, builtinLookup_eq_fast]; kernel_rfl
theorem sub_slice : isSubtype (.type "slice") (.type "slice") = pure true := by rw [isSubtype_type]; kernel_rfl
theorem called_slice : TypeCalled "slice" "slice.__new__" "object.__init__" :=
  ⟨by decide +kernel, by decide +kernel, ⟨_, _, mro_slice⟩, madeBy_type mro_slice lookup_slice_new (by decide +kernel), by decide +kernel, sub_slice, slot_slice_init⟩
theorem typeCall_slice_2 (a b : Value) : checkTypeCall "slice" ⟨[a, b], []⟩ = pure () := by kernel_rfl
theorem newCall_slice_2 (a b : Value) : checkBuiltinCall "slice.__new__" ⟨[.type "slice", a, b], []⟩ = pure () := by kernel_rfl
theorem entry_slice_new : entryFor table "slice.__new__" = some Builtin.«slice.__new__» := entryFor_of_tree (by kernel_rfl)
theorem meets_slice_new (a b : Value) : Meets (Builtin.«slice.__new__» ⟨[.type "slice", a, b], []⟩) (fun _ R s => R (.ok (.ret (.ref s.heap.objs.size))) { s with heap := s.heap.push { cls := .type "slice", data := .fields #[a, b, .none] } }) := by
  intro prog w A R s h
  unfold Builtin.«slice.__new__»
  have f1 := sub_slice
  repeat (any_goals (first | assumption | wp_step))
theorem call_slice {a b : Value} {Q : Value → Shared → Prop} (h : Q (.ref s.heap.objs.size) { s with heap := s.heap.push { cls := .type "slice", data := .fields #[a, b, .none] } }) : wpAny (model prog w) A (call (.type "slice") [a, b]) Q E s :=
  callType_new called_slice (by decide) (typeCall_slice_2 a b) (newCall_slice_2 a b) (fun obj => by unfold argsOk; kernel_rfl) entry_slice_new (meets_slice_new a b) ⟨⟨_, Heap.get?_push_size _ rfl, rfl⟩, h⟩
end

section
variable {prog : Program} {w : World} {A : Around} {E : Value → Shared → Prop} {s : Shared} {env : Env} {mg mb : Str → Option Value} {g : Heap}

theorem cut3 (tk t : Tok) : sliceMade (Str.ofString "{f}*") tk none (some (3, t)) none = .str (Str.ofString "{f}") := by kernel_rfl
theorem cut2 (tk t : Tok) : sliceMade (Str.ofString "{f}*") tk (some (-2, t)) none none = .str (Str.ofString "}*") := by kernel_rfl
theorem cut1 (tk t : Tok) : sliceMade (Str.ofString "{f}*") tk none (some (-1, t)) none = .str (Str.ofString "{f}") := by kernel_rfl

theorem closure_four {scope : Scope} {x1 x2 x3 x4 : Str} {c1 c2 c3 c4 : Addr} (h1 : env.cells.lookup x1 = some c1) (h2 : env.cells.lookup x2 = some c2) (h3 : env.cells.lookup x3 = some c3) (h4 : env.cells.lookup x4 = some c4)
    (h : scope.names.filter (fun p => p.2 == .free) = [(x4, .free), (x3, .free), (x2, .free), (x1, .free)]) : closureFor scope env = pure [(x1, c1), (x2, c2), (x3, c3), (x4, c4)] := by
  have key : ∀ (l : List (Str × NameKind)) (acc : List (Str × Addr)), (forIn l acc fun p r => if p.2 == NameKind.free then do let a ← cellOf env p.1; pure (ForInStep.yield ((p.1, a) :: r)) else pure (ForInStep.yield r) : Sem (List (Str × Addr))) =
      (forIn (l.filter (fun p => p.2 == .free)) acc fun p r => if p.2 == NameKind.free then do let a ← cellOf env p.1; pure (ForInStep.yield ((p.1, a) :: r)) else pure (ForInStep.yield r)) := by
    intro l
    induction l with
    | nil => intro acc; rfl
    | cons p l ih =>
      intro acc
      rw [List.filter_cons]
      cases hp : (p.2 == NameKind.free) with
      | false =>
        simp only [List.forIn_cons, hp, Bool.false_eq_true, if_false]
        show (Sem.bind (Sem.pure _) _) = _
        exact ih acc
      | true =>
        simp only [List.forIn_cons, hp, if_true]
        refine congrArg _ (funext fun r => ?_)
        cases r with
        | done b => rfl
        | yield b => exact ih b
  unfold closureFor
  show Sem.bind (forIn scope.names [] _) _ = _
  have := key scope.names []
  rw [h] at this
  refine (congrArg (fun t => Sem.bind t _) this).trans ?_
  simp only [List.forIn_cons, List.forIn_nil, cellOf, h1, h2, h3, h4]
  rfl

theorem cutStep {r r' : Made} {Q : Value → Shared → Prop} {s : Shared} (e : r = r') (h : r'.post Q s) : r.post Q s := e ▸ h
/-- what _prepare_tag('{f}*') leaves -/
def selOs (S c1 c2 c3 c4 sl P : Addr) (qual : Str) (c' : Addr) (t : Tok) (ps : Array Value) : List (Addr × Pr) :=
  [(S, selPr qual (closOf c1 c2 c3 c4) c'), (c', recPr qual), (c1, .cell (some (.builtin "isinstance"))), (c2, .cell (some (.type "str"))), (c3, .cell (some (.str (Str.ofString "{f}") t))), (c4, .cell (some (.ref sl))), (sl, slicePr), (P, .raw (· = tabObj ps))]

theorem prep_spec {a P c : Addr} {tk : Tok} (G : GF mg mb g) (hg : Sub g s.heap) (F : FnAt mg g 1 a) (hd : A.depth < 950) (hh : A.handled = none) (hcd : ∀ o pm cd doc, g.get? a = some o → o.data = .func (defFd 1 pm cd doc) → cd = .ref c) (Cd : CodeHd g c P) (hP : s.heap.get? P = some (tabObj #[])) (hgP : g.get? P = none)
    (hb : g.BuiltinsAt mg P) : wpAny (model prog w) A (call (.ref a) [.str (Str.ofString "{f}*") tk]) (fun v s' => ∃ S c1 c2 c3 c4 sl qual c' t ps, v = .ref S ∧ Own (· = P) s s' (selOs S c1 c2 c3 c4 sl P qual c' t ps)) E s := by
  refine call_fnC (binds := [(Str.ofString "tag", .str (Str.ofString "{f}*") tk)]) G hg F (by show A.depth < 1000; omega) (fun _ _ _ => rfl) (fun x hx => by rcases List.mem_singleton.mp hx with rfl; exact .inr ⟨rfl, rfl⟩) ?_
  intro env s₁ hE hs hL hcs hfr hcode x
  have hh2 : (A.deeper env).handled = none := hh
  generalize hA : A.deeper env = A2 at *
  obtain ⟨pm, cd, doc, hec, _, o, ho, hod⟩ := hcode
  have hcc := hcd o pm cd doc ho hod
  subst hcc
  have k0 : env.cells.lookup (Str.ofString "tag") = some (s.heap.objs.size + 1) := by rw [hcs]; rfl
  have k1 : env.cells.lookup (Str.ofString "_isinstance") = some (s.heap.objs.size + 1 + 1) := by rw [hcs]; rfl
  have k2 : env.cells.lookup (Str.ofString "_str") = some (s.heap.objs.size + 1 + 1 + 1) := by rw [hcs]; rfl
  have k3 : env.cells.lookup (Str.ofString "ns") = some (s.heap.objs.size + 1 + 1 + 1 + 1 + 1) := by rw [hcs]; rfl
  have k4 : env.cells.lookup (Str.ofString "ns_only") = some (s.heap.objs.size + 1 + 1 + 1 + 1 + 1 + 1) := by rw [hcs]; rfl
  have O0 := ownC x hL [(Str.ofString "tag", s.heap.objs.size + 1), (Str.ofString "_isinstance", s.heap.objs.size + 1 + 1), (Str.ofString "_str", s.heap.objs.size + 1 + 1 + 1), (Str.ofString "ns", s.heap.objs.size + 1 + 1 + 1 + 1 + 1), (Str.ofString "ns_only", s.heap.objs.size + 1 + 1 + 1 + 1 + 1 + 1)]
    (fun p hp => by
      simp only [List.mem_cons, List.not_mem_nil, or_false] at hp
      rcases hp with rfl | rfl | rfl | rfl | rfl <;> assumption) (by simp)
  have hkt : bindC env.kindOf [(Str.ofString "tag", Value.str (Str.ofString "{f}*") tk)] (fun _ => none) (Str.ofString "tag") = some (.str (Str.ofString "{f}*") tk) := by
    unfold bindC
    rw [if_neg (by rw [kind_of hs (k := some .cell) rfl]; decide)]
    unfold bindC
    simp
  simp only [List.map_cons, List.map_nil, hkt] at O0
  generalize hc0 : s.heap.objs.size + 1 = c0 at *
  generalize hc1 : c0 + 1 = c1 at *
  generalize hc2 : c1 + 1 = c2 at *
  generalize hc3 : c2 + 1 + 1 = c3 at *
  generalize hc4 : c3 + 1 = c4 at *
  have O1 := O0
  clear O0
  conv => arg 3; arg 1; whnf
  have hg1 : Sub g s₁.heap := hg.kp O1.kp fun b e => e.elim
  refine wpAny_execs_cons (Assign_Tuple (wpAny_Tuple (wpAny_items_cons (nameB G hg1 hE (kind_of hs rfl) (G.no _ (by decide)) (bi_isinstance G) (wpAny_items_cons (nameB G hg1 hE (kind_of hs rfl) (G.no _ (by decide)) (bi_str G) (wpAny_items_nil ⟨Nat.le_of_ble_eq_true rfl, ?_⟩)))))) ?_ ?_)
  rotate_left
  · rfl
  · have e1 : env.kindOf (Str.ofString "_isinstance") = some .cell := kind_of hs rfl
    have e2 : env.kindOf (Str.ofString "_str") = some .cell := kind_of hs rfl
    unfold swappedStores
    simp only [List.filterMap_cons, List.filterMap_nil, e1, e2]
    simp
    try rfl
  have O2 := O1.push_ { cls := .type "tuple", data := .seq #[.builtin "isinstance", .type "str"] } s₁.toks
  refine assign_Tuple_tuple hh2 (IsTup.new _ _) rfl rfl fun h' hx => ?_
  have O3 := O2.keep (Kp.all (h' := h') (fun b o e => hx b o (Nat.ne_of_lt (Heap.lt_size e)) e) s₁.toks)
  refine wpAny_bind (wpAny_holding (wpAny_assign_Name (stC O3 2 rfl hE (kind_of hs rfl) k1 fun s₅ O5 _ _ => wpAny_bind (wpAny_holding (wpAny_assign_Name (stC O5 3 rfl hE (kind_of hs rfl) k2 fun s₆ O6 _ _ => wpAny_pure ?_))))))
  clear O1 O2 O3 O5
  refine wpAny_execs_cons (wpAny_If (wpAny_isTrue_Compare1 (nameC hE (kind_of hs rfl) k0 (O6.nth 1 rfl) (Calls.Constant_str (k := 0) (pos := default) (PyProof.Rows.eq_str (wpAny_truthy_bool ?_))))))
  rw [if_neg (by decide +kernel)]
  have O7 := O6.tok (s₆.toks + 1)
  refine wpAny_execs_cons (wpAny_If (wpAny_isTrue_Compare1 (nameC hE (kind_of hs rfl) k0 (O7.nth 1 rfl) (Calls.Constant_str (k := 0) (pos := default) (PyProof.Rows.eq_str (wpAny_truthy_bool ?_))))))
  rw [if_neg (by decide +kernel)]
  have O8 := O7.tok (s₆.toks + 1 + 1)
  refine wpAny_execs_cons (wpAny_If (wpAny_isTrue_Compare1 (wpAny_Subscript_str_slice (nameC hE (kind_of hs rfl) k0 (O8.nth 1 rfl) ?_))))
  refine evalPart_none_step (evalPart_some_step (wpAny_Constant_int (k := 0) (pos := default) ⟨_, _, none, some (3, _), rfl, rfl, rfl, ?_⟩))
  refine cutStep (cut3 _ _) ?_
  refine ⟨Nat.le_of_ble_eq_true rfl, Calls.Constant_str (k := 0) (pos := default) (PyProof.Rows.eq_str (wpAny_truthy_bool ?_))⟩
  rw [if_neg (by decide +kernel)]
  have O9 := (O8.push_ { cls := .type "slice", data := .fields #[.none, .int 3 (s₆.toks + 1 + 1), .none] } (s₆.toks + 1 + 1 + 1 + 1 + 1))
  refine wpAny_execs_cons (wpAny_If (wpAny_isTrue_Compare1 (wpAny_Subscript_str_slice (nameC hE (kind_of hs rfl) k0 (O9.nth 1 rfl) ?_))))
  refine evalPart_some_step (wpAny_UnaryOp (wpAny_Constant_int (k := 0) (pos := default) (neg_int (evalPart_none_step ⟨_, _, some (-2, _), none, rfl, rfl, rfl, ?_⟩))))
  refine cutStep (cut2 _ _) ?_
  refine ⟨Nat.le_of_ble_eq_true rfl, Calls.Constant_str (k := 0) (pos := default) (PyProof.Rows.eq_str (wpAny_truthy_bool ?_))⟩
  rw [if_pos (by decide +kernel)]
  have O10 := fun t1 => (O9.push_ { cls := .type "slice", data := .fields #[.int (-2) t1, .none, .none] } 0)
  refine wpAny_execs_cons (wpAny_Assign_Name (wpAny_Subscript_str_slice (nameC hE (kind_of hs rfl) k0 ((O10 _).nth 1 rfl) ?_)))
  refine evalPart_none_step (evalPart_some_step (wpAny_UnaryOp (wpAny_Constant_int (k := 0) (pos := default) (neg_int ⟨_, _, none, some (-1, _), rfl, rfl, rfl, ?_⟩))))
  refine cutStep (cut1 _ _) ?_
  refine ⟨Nat.le_of_ble_eq_true rfl, ?_⟩
  have O11 := fun t1 t3 t4 => ((O10 t1).push_ { cls := .type "slice", data := .fields #[.none, .int (-1) t3, .none] } t4)
  refine stC (O11 _ _ _) 4 rfl hE (kind_of hs rfl) k3 fun s₇ O12 _ _ => ?_
  clear O6 O7 O8 O9 O10 O11
  have hg7 : Sub g s₇.heap := hg.kp O12.kp fun b e => e.elim
  refine wpAny_execs_cons (wpAny_Assign_Name (callT ?_))
  refine nameB G hg7 hE (kind_of hs rfl) (G.no _ (by decide)) (bi_slice G) ⟨_, rfl, Calls.spliced_cons (wpAny_Constant_none (k := 0) (pos := default) (Calls.spliced_cons (callB ?_)))⟩
  refine nameB G hg7 hE (kind_of hs rfl) (G.no _ (by decide)) (bi_len G) ⟨_, rfl, Calls.spliced_cons (nameC hE (kind_of hs rfl) k3 (O12.nth 4 rfl) (Calls.spliced_nil ?_))⟩
  refine len_str (by decide +kernel) (Calls.spliced_nil (call_slice ?_))
  have O13 := O12.push { cls := .type "slice", data := .fields #[.none, .int 3 (s₇.toks + 1), .none] } slicePr ⟨rfl, _, rfl⟩ (s₇.toks + 1 + 1)
  refine stC O13 6 rfl hE (kind_of hs rfl) k4 fun s₈ O14 _ _ => ?_
  clear O12 O13
  have hg8 : Sub g s₈.heap := hg.kp O14.kp fun b e => e.elim
  have hP8 : s₈.heap.get? P = some (tabObj #[]) := O14.kp.get P _ (fun h => h) hP
  refine wpAny_execs_cons (nestDef_K rfl rfl rfl ?_)
  refine makeFunction_K (clos := closOf c1 c2 c3 c4) (closure_four k4 k3 k2 k1 rfl) hE.globals (G.g.keeps hg8) hec (Cd.keeps hg8) hP8 trivial rfl ?_ (hb.keeps hg8) fun c' ctv doc' h' tk' x1 x2 x3 x4 x5 => ?_
  · intro e
    obtain ⟨o, es, ep, hmo, _⟩ := G.g
    rw [e, hgP] at hmo; cases hmo
  obtain ⟨ps, x5⟩ : ∃ ps, h'.get? P = some (tabObj ps) := ⟨_, x5⟩
  obtain ⟨c'', oc, vs, t, rc, hoc, hvs, hv1⟩ := x4
  cases rc
  have hn8 : s₈.heap.get? c' = none := fresh_ge _ x2
  have hcP : c' ≠ P := fun e => by rw [e, hP8] at hn8; cases hn8
  have hsP : h'.objs.size ≠ P := fun e => Nat.lt_irrefl P (Nat.lt_of_lt_of_eq (Heap.lt_size x5) e)
  have OE : Own (· = P) s₈ { s₈ with heap := h'.push (fnMade selDf.name (qualnameIn env selDf.name selDf.name) selDf.params selDf.body selDf.scope (closOf c1 c2 c3 c4) doc' ((mg "__name__").getD .none) c' ctv), toks := tk' }
      [(h'.objs.size, selPr (qualnameIn env selDf.name selDf.name) (closOf c1 c2 c3 c4) c'), (c', recPr (qualnameIn env selDf.name selDf.name)), (P, .raw (· = tabObj ps))] := by
    refine ⟨⟨fun b o n e => Heap.get?_push_of_some _ (x1 b o n e), rfl, id⟩, ?_, ?_, ?_⟩
    · have := Nat.ne_of_gt x3
      simp [this, hcP, hsP]
    · intro p hp
      simp only [List.mem_cons, List.not_mem_nil, or_false] at hp
      rcases hp with rfl | rfl | rfl
      · refine .inr (fresh_ge _ ?_)
        show s₈.heap.objs.size ≤ h'.objs.size
        omega
      · exact .inr hn8
      · exact .inl rfl
    · intro p hp
      simp only [List.mem_cons, List.not_mem_nil, or_false] at hp
      rcases hp with rfl | rfl | rfl
      · exact ⟨_, Heap.get?_push_size _ rfl, doc', _, ctv, rfl⟩
      · exact ⟨_, Heap.get?_push_of_some _ hoc, vs, t, hvs, hv1⟩
      · exact ⟨_, Heap.get?_push_of_some _ x5, rfl⟩
  have O15 := (O14.monoX (Y := (· = P)) fun _ h => h.elim).on OE (fun b e => .inl e) (fun p hp e => by
    rcases O14.new p hp with h | h
    · exact h
    · rw [e, hP] at h; cases h)
  clear O14 OE
  refine stL O15 4 rfl hE (kind_of hs rfl) fun s₉ O16 _ _ => ?_
  clear O15
  refine wpAny_execs_nil ?_
  refine wpAny_execs_nil ?_
  refine wpAny_execs_nil ?_
  refine wpAny_execs_nil ?_
  refine wpAny_execs_cons (wpAny_Return_some (nameL (O16.nth 4 rfl) hE (kind_of hs rfl) (up_self _ _ _) ?_))
  exact ⟨_, _, _, _, _, _, _, _, _, _, rfl, O16.pick 10 [0, 1, 6, 7, 8, 9, 3, 2]⟩

theorem SelAt.of {X : Addr → Prop} {s₀ : Shared} {S c1 c2 c3 c4 sl P c' : Addr} {qual : Str} {t : Tok} {ps : Array Value} {os : List (Addr × Pr)} (O : Own X s₀ s os) (hsub : ∀ p ∈ selOs S c1 c2 c3 c4 sl P qual c' t ps, p ∈ os) : SelAt s.heap S c1 c2 c3 c4 sl :=
  have q : ∀ (n : Nat) {p : Addr × Pr}, (selOs S c1 c2 c3 c4 sl P qual c' t ps)[n]? = some p → Has s.heap p.1 p.2 := fun n p h => O.has p (hsub p (List.mem_of_getElem? h))
  ⟨⟨qual, c', q 0 rfl, q 1 rfl⟩, q 2 rfl, q 3 rfl, ⟨t, q 4 rfl⟩, q 5 rfl, q 6 rfl⟩
end
end Mine

namespace Mine
section
variable {prog : Program} {w : World} {A : Around} {E : Value → Shared → Prop} {s : Shared} {env : Env} {mg mb : Str → Option Value} {g : Heap}

theorem Own.add {X : Addr → Prop} {s₀ : Shared} {os : List (Addr × Pr)} {a : Addr} {p : Pr} (O : Own X s₀ s os) (h : Has s.heap a p) (hn : X a ∨ s₀.heap.get? a = none) (hm : a ∉ os.map (·.1)) : Own X s₀ s ((a, p) :: os) :=
  ⟨O.kp, List.nodup_cons.mpr ⟨hm, O.nd⟩, fun q hq => (List.mem_cons.mp hq).elim (fun e => by subst e; exact hn) (O.new q), fun q hq => (List.mem_cons.mp hq).elim (fun e => by subst e; exact h) (O.has q)⟩

theorem RowsAt.of {X : Addr → Prop} {s₀ : Shared} {os : List (Addr × Pr)} {R : Addr} {ads : List Addr} {rows : List (List Int)} (O : Own X s₀ s os) (hl : ads.length = rows.length) (h : ∀ p ∈ (R, Pr.list (ads.map .ref)) :: zipP ads rows, p ∈ os) : RowsAt s.heap R ads rows :=
  ⟨O.has _ (h _ (List.mem_cons_self ..)), hl, fun i ad xs e1 e2 => O.has (ad, .ints xs) (h _ (List.mem_cons_of_mem _ (List.mem_of_getElem? (mem_zipP e1 e2))))⟩

theorem copy_list {l : Addr} {xs : List Int} {Q : Value → Shared → Prop} (hl : Has s.heap l (.ints xs)) (hlen : xs.length ≤ 400) (h : ∀ D s', Own No s s' [(D, .ints xs)] → Q (.ref D) s') : wpAny (model prog w) A (call (.type "list") [.ref l]) Q E s := by
  obtain ⟨o, ho, vs, n, hi, rfl⟩ := hl
  have hs20 : sizeLine = 16777216 := rfl
  have hvl := hi.length
  refine call_list_seq l (T := "list") (.inl rfl) ho rfl rfl (fun h' c' hk hn => h _ _ ?_) (by simp; omega)
  refine ⟨⟨fun b o _ e => hk b o e, rfl, id⟩, by simp, fun p hp => ?_, fun p hp => ?_⟩
  · rcases List.mem_singleton.mp hp with rfl; exact .inr (fresh_at _)
  · rcases List.mem_singleton.mp hp with rfl; exact ⟨_, hn, vs, c', hi, rfl⟩

/-- [f(row) for row in rows] -/
theorem comp_rows {X : Addr → Prop} {s₀ : Shared} {elt : PySem.Expr} {x : Str} {px : Pos} {iter : PySem.Expr} {scope : Scope} {cl : List (Str × Addr)} {pos pos' : Pos} {use : Option (Value → Sem Unit)} {Q : Value → Shared → Prop} (f : List Int → List Int)
    (hE : EnvG env) (hh : A.handled = none) (hclos : closureFor scope env = pure cl)
    (h : wpAny (model prog w) A (eval iter env) (fun xv s₁ => ∃ R ads rows os, xv = .ref R ∧ Own X s₀ s₁ os ∧ (∀ s', Own X s₀ s' os → RowsAt s'.heap R ads rows) ∧ small rows ∧
      (∀ C m s' ad xs, xs ∈ rows → m x = some (.ref ad) → Has s'.heap ad (.ints xs) → Has s'.heap C (.ns m) → Own X s₀ s' os → ∀ E' Q', (∀ D s'', Own No s' s'' [(D, .ints (f xs))] → Q' (.ref D) s'') → wpAny (model prog w) A (eval elt (compEnvC scope cl C env)) Q' E' s') ∧
      (∀ C D ads' m s', ads'.length = rows.length → Own X s₀ s' ((C, .ns m) :: (D, .list (ads'.map .ref)) :: (zipP ads' (rows.map f) ++ os)) → compEnds X s₀ use prog w A Q C D (.ok .next) s')) E s)
    (hcell : ∀ y ∈ scope.names, y.2 ≠ .cell := by decide) (hkind : scope.kind = .function := by rfl)
    (hnames : (scope.names.all fun y => y.2 != .local || decide (scope.names.lookup y.1 = some .local)) = true := by rfl) (hx : scope.names.lookup x = some .local := by rfl)
    (hs : ∀ x, foldedSetIterable iter env x = pure x := by intro _; rfl) :
    wpAny (model prog w) A (comprehension (.ListComp elt [⟨.Name x px, iter, [], 0⟩] scope pos) scope env pos' (newList []) false (eval iter env) use) Q E s := by
  refine comp_one (X := X) (s₀ := s₀) hE hh hclos (wpAny_mono h (fun xv s₁ h₁ => ?_) fun _ _ e => e) hcell hkind hnames hx hs
  obtain ⟨R, ads, rows, os, rfl, O, hR, hsm, body, done⟩ := h₁
  have hlen := (hR _ O).len
  have hs20 : sizeLine = 16777216 := rfl
  refine ⟨R, ads.map .ref, os, rfl, O, fun i ys os' => ∃ ads', ys = ads'.map .ref ∧ ads'.length = i ∧ i ≤ rows.length ∧ os' = zipP ads' ((rows.take i).map f) ++ os, ⟨[], rfl, rfl, Nat.zero_le _, rfl⟩, ?_, by have := hsm.1; simp; omega, ?_, ?_, ?_⟩
  · rintro i ys os' s' ⟨ads', rfl, _, _, rfl⟩ O'
    exact (hR s' (O'.sub (List.sublist_append_right ..))).top
  · rintro i ys os' ⟨ads', rfl, h, _⟩
    simp [h]
  · rintro i v C D it ys m os' s' hv ⟨ads', rfl, hal, hil, rfl⟩ hm O' E'
    refine tests_nil ?_
    rw [if_pos rfl]
    have hi : i < ads.length := by have := (List.getElem?_eq_some_iff.mp hv).1; simpa using this
    have hir : i < rows.length := by omega
    have hv' : v = .ref ads[i] := by
      have : (ads.map Value.ref)[i]? = some (.ref ads[i]) := by simp [List.getElem?_eq_getElem hi]
      rw [this] at hv; exact (Option.some.inj hv).symm
    subst hv'
    have Oos : Own X s₀ s' os := O'.sub ((List.sublist_append_right (zipP ads' ((rows.take i).map f)) os).trans ((List.sublist_cons_self ..).trans ((List.sublist_cons_self ..).trans (List.sublist_cons_self ..))))
    refine body C m s' ads[i] rows[i] (List.getElem_mem hir) hm ((hR s' Oos).row i _ _ (List.getElem?_eq_getElem hi) (List.getElem?_eq_getElem hir)) (O'.nth 0 rfl) Oos E' _ fun D2 s'' P => ?_
    have O2 := O'.on' P
    refine ⟨_, m, ⟨ads' ++ [D2], by simp, by simp [hal], by omega, rfl⟩, O2.perm ?_⟩
    have e : zipP (ads' ++ [D2]) ((rows.take (i + 1)).map f) = zipP ads' ((rows.take i).map f) ++ [(D2, .ints (f rows[i]))] := by
      rw [List.take_add_one, List.getElem?_eq_getElem hir, List.map_append]
      exact zipP_snoc D2 (f rows[i]) (by simp [hal]; omega)
    rw [e]
    have := List.perm_middle (l₁ := (C, Pr.ns m) :: (D, Pr.list (ads'.map .ref)) :: (it, Pr.iter R (i + 1)) :: zipP ads' ((rows.take i).map f)) (a := (D2, Pr.ints (f rows[i]))) (l₂ := os)
    simpa using this
  · rintro C D ys m os' s' ⟨ads', rfl, hal, _, rfl⟩ O'
    have e : rows.take (ads.map Value.ref).length = rows := by rw [List.length_map, hlen, List.take_length]
    rw [e] at O'
    exact done C D ads' m s' (by simpa [hlen] using hal) O'

/-- [x for row in rows for x in row if ..] -/
theorem comp_flat {R : Addr} {ads : List Addr} {rows : List (List Int)} {r x : Str} {pr pr2 px px2 : Pos} {iter : PySem.Expr} {ifs : List PySem.Expr} {scope : Scope} {cl : List (Str × Addr)} {pos pos' : Pos} {Q : Value → Shared → Prop} (p : Int → Bool)
    (hE : EnvG env) (hh : A.handled = none) (hclos : closureFor scope env = pure cl) (hR : RowsAt s.heap R ads rows) (hsm : small rows) (hit : ∀ Q' : Value → Shared → Prop, Q' (.ref R) s → wpAny (model prog w) A (eval iter env) Q' E s)
    (htest : ∀ n t C s' m, m x = some (.int n t) → Has s'.heap C (.ns m) → ∀ E' Q', (∀ tk, Q' (p n) { s' with toks := tk }) → wpAny (model prog w) A (tests ifs (compEnvC scope cl C env)) Q' E' s')
    (done : ∀ D s', Own No s s' [(D, .ints (rows.flatten.filter p))] → Q (.ref D) s')
    (hcell : ∀ y ∈ scope.names, y.2 ≠ .cell := by decide) (hkind : scope.kind = .function := by rfl)
    (hnames : (scope.names.all fun y => y.2 != .local || decide (scope.names.lookup y.1 = some .local)) = true := by rfl) (hx : scope.names.lookup x = some .local := by rfl) (hr : scope.names.lookup r = some .local := by rfl)
    (hs : ∀ x, foldedSetIterable iter env x = pure x := by intro _; rfl) (hd : (x == ("__debug__" : Str)) = false := by rfl) (hdr : (r == ("__debug__" : Str)) = false := by rfl) :
    wpAny (model prog w) A (comprehension (.ListComp (.Name x px2) [⟨.Name r pr, iter, [], 0⟩, ⟨.Name x px, .Name r pr2, ifs, 0⟩] scope pos) scope env pos' (newList []) false (eval iter env) none) Q E s := by
  have hlen := hR.len
  have hs20 : sizeLine = 16777216 := rfl
  have hlenF : ∀ i, ((rows.take i).flatten.filter p).length ≤ 400 := fun i => by
    have h1 := List.length_filter_le p (rows.take i).flatten
    have h2 : (rows.take i).flatten.length ≤ (rows.take i).length * 20 := by
      rw [← List.flatMap_id']
      exact flatMap_len _ 20 (rows.take i) (fun r hr => hsm.2 r (List.mem_of_mem_take hr))
    have h3 : (rows.take i).length ≤ 20 := by simp; have := hsm.1; omega
    omega
  refine comp_top (X := No) (s₀ := s) rfl hclos hcell hkind hnames (hit _ ⟨R, ads.map .ref, [], rfl, Own.refl _ _, hR.top, fun C D it s₄ O4 => ?_⟩) hs
  have hEc := hE.comp (cl := cl) (C := C) hkind
  refine cstart (vs := ads.map .ref) (fun i os' => ∃ ys m, os' = [(C, .ns m), (D, .list ys)] ∧ IntsAre ys ((rows.take i).flatten.filter p)) rfl (by intro g hg; simp only [List.mem_cons, List.not_mem_nil, or_false] at hg; rcases hg with rfl | rfl <;> rfl) hh O4 ⟨[], _, rfl, .nil⟩ ?_ ?_ ?_
  · rintro i os' s' ⟨ys, m, rfl, _⟩ O'
    exact O'.old hR.top (fun h => h)
  · rintro i v os' s' hv ⟨ys, m, rfl, hys⟩ O' E'
    have hi : i < ads.length := by have := (List.getElem?_eq_some_iff.mp hv).1; simpa using this
    have hir : i < rows.length := by omega
    have hv' : v = .ref ads[i] := by
      have : (ads.map Value.ref)[i]? = some (.ref ads[i]) := by simp [List.getElem?_eq_getElem hi]
      rw [this] at hv; exact (Option.some.inj hv).symm
    subst hv'
    refine stL O' 1 rfl hEc (comp_local hr) fun s₂ O2 _ _ => ?_
    refine tests_nil ?_
    rw [if_pos rfl]
    have O2' : Own No s s₂ [(it, .iter R (i + 1)), (C, .ns (up m r (.ref ads[i]))), (D, .list ys)] := O2
    clear O2
    obtain ⟨vs, hiv, hlv⟩ := (hR.row i _ _ (List.getElem?_eq_getElem hi) (List.getElem?_eq_getElem hir)).ints
    have hvl := hiv.length
    refine emit_more rfl (nameL (O2'.nth 1 rfl) hEc (comp_local hr) (up_self ..) ?_ hdr)
    have htk : (rows.take (i + 1)).flatten.filter p = (rows.take i).flatten.filter p ++ rows[i].filter p := by
      rw [List.take_add_one, List.getElem?_eq_getElem hir]; simp only [Option.toList, List.flatten_append, List.flatten_cons, List.flatten_nil, List.append_nil, List.filter_append]
    have hF := hlenF i
    have hri := hsm.2 _ (List.getElem_mem hir)
    refine cloop (vs := vs) (fun k os' => ∃ ys m, os' = [(it, .iter R (i + 1)), (C, .ns m), (D, .list ys)] ∧ IntsAre ys ((rows.take i).flatten.filter p ++ (rows[i].take k).filter p)) rfl (by intro g hg; simp only [List.mem_cons, List.not_mem_nil, or_false] at hg; rcases hg with rfl | rfl <;> rfl) hh O2' ⟨ys, _, rfl, by simpa using hys⟩ ?_ ?_ ?_
    · rintro k os' s' ⟨ys, m, rfl, _⟩ O'
      exact O'.old hlv (fun h => h)
    · rintro k v it2 os' s' hv ⟨ys, m, rfl, hys⟩ O' E'
      obtain ⟨n, t, rfl, hn⟩ := hiv.at k v hv
      refine stL O' 2 rfl hEc (comp_local hx) fun s₃ O3 _ _ => ?_
      have O3' : Own No s s₃ [(it2, .iter ads[i] (k + 1)), (it, .iter R (i + 1)), (C, .ns (up m x (.int n t))), (D, .list ys)] := O3
      clear O3
      have htake : (rows[i].take (k + 1)).filter p = (rows[i].take k).filter p ++ (if p n = true then [n] else []) := by
        rw [List.take_add_one, hn]; simp [List.filter_append, List.filter_cons]
      refine htest n t C s₃ _ (up_self ..) (O3'.nth 2 rfl) _ _ fun tk => ?_
      cases hp : p n with
      | true =>
        rw [if_pos rfl]
        refine emit_last rfl (nameL (O3'.nth 2 rfl) hEc (comp_local hx) (up_self ..) ?_ hd)
        refine apd (O3'.tok tk) 3 rfl ?_ fun s₅ O5 _ _ => ?_
        · have := hys.length
          have h5 := List.length_filter_le p (rows[i].take k)
          have h6 : (rows[i].take k).length ≤ rows[i].length := by simp; omega
          simp only [List.length_append] at this
          omega
        refine ⟨_, ⟨ys ++ [Value.int n t], up m x (.int n t), rfl, ?_⟩, O5⟩
        rw [htake, hp, if_pos rfl, ← List.append_assoc]
        exact hys.append (.cons n t .nil)
      | false =>
        rw [if_neg (by decide)]
        refine ⟨_, ⟨ys, _, rfl, ?_⟩, O3'.tok tk⟩
        rw [htake, hp]
        simpa using hys
    · rintro os' s' ⟨ys, m, rfl, hys⟩ O'
      refine ⟨_, ⟨ys, m, rfl, ?_⟩, O'⟩
      rw [htk]
      rw [hvl, List.take_length] at hys
      exact hys
  · rintro os' s' ⟨ys, m, rfl, hys⟩ O'
    have e : rows.take (ads.map Value.ref).length = rows := by rw [List.length_map, hlen, List.take_length]
    rw [e] at hys
    exact ⟨m, _, O'.shuts 1 rfl hys, fun s'' O'' => done D s'' O''⟩

theorem reads_rows (h : Heap) : ∀ {ads : List Addr} {rows : List (List Int)}, ads.length = rows.length → (∀ (i : Nat) ad xs, ads[i]? = some ad → rows[i]? = some xs → Has h ad (.ints xs)) → ReadsAll h (ads.map .ref) (rows.map fun r => .list (r.map .int)) ads
  | [], [], _, _ => .nil
  | a :: ads, r :: rows, hl, hr => .cons (as := [a]) (hr 0 a r rfl rfl).reads (reads_rows h (by simpa using hl) fun i ad xs e1 e2 => hr (i + 1) ad xs (by simpa using e1) (by simpa using e2))
  | [], _ :: _, hl, _ => by simp at hl
  | _ :: _, [], hl, _ => by simp at hl
def dataOf (rows : List (List Int)) : PyData := .list (rows.map fun r => .list (r.map .int))
theorem RowsAt.reads {h : Heap} {R : Addr} {ads : List Addr} {rows : List (List Int)} (x : RowsAt h R ads rows) : Reads h (.ref R) (dataOf rows) (R :: ads) := by
  obtain ⟨o, e, n, rfl⟩ := x.top
  exact .list e rfl rfl (by simpa using reads_rows h x.len x.row)
theorem canLay_rows (rows : List (List Int)) : (dataOf rows).canLay0 = true := by
  show PyData.canLayAll0 _ = true
  induction rows with
  | nil => rfl
  | cons x r ih => exact Bool.and_eq_true_iff.mpr ⟨canLay_ints x, ih⟩
theorem eqv_rows : ∀ xs ys : List (List Int), PyData.eqv (dataOf xs) (dataOf ys) = decide (xs = ys)
  | [], [] => rfl
  | [], _ :: _ => rfl
  | _ :: _, [] => rfl
  | x :: xs, y :: ys => by
    show (PyData.eqv (.list (x.map .int)) (.list (y.map .int)) && PyData.eqv (dataOf xs) (dataOf ys)) = _
    rw [eqv_rows xs ys]
    have : PyData.eqv (.list (x.map .int)) (.list (y.map .int)) = decide (x = y) := eqvAll_ints x y
    rw [this, Bool.eq_iff_iff]; simp
theorem depth_rows (rows : List (List Int)) : (dataOf rows).depth ≤ 3 := by
  have h : PyData.depthAll (rows.map fun r => .list (r.map .int)) ≤ 2 := by
    induction rows with
    | nil => decide
    | cons x r ih =>
      show max (PyData.depth (.list (x.map .int))) (PyData.depthAll (r.map fun r => .list (r.map .int))) ≤ 2
      have := depth_ints x
      omega
  show PyData.depthAll _ + 1 ≤ 3
  omega
theorem ne_rows {a b : Addr} {ads bds : List Addr} {xs ys : List (List Int)} {Q : Value → Shared → Prop} (ha : RowsAt s.heap a ads xs) (hb : RowsAt s.heap b bds ys) (hu : A.units < 9800) (h : Q (.bool (!decide (xs = ys))) s) :
    wpAny (model prog w) A (compareOp .NotEq (.ref a) (.ref b)) Q E s :=
  SeqAt.compareNe_reads ha.reads hb.reads (canLay_rows xs) (canLay_rows ys) (by have := depth_rows xs; have : cLine = 9900 := rfl; omega) (by rw [eqv_rows]; exact h)
theorem eq_rows {a b : Addr} {ads bds : List Addr} {xs ys : List (List Int)} {Q : Value → Shared → Prop} (ha : RowsAt s.heap a ads xs) (hb : RowsAt s.heap b bds ys) (hu : A.units < 9800) (h : Q (.bool (decide (xs = ys))) s) :
    wpAny (model prog w) A (compareOp .Eq (.ref a) (.ref b)) Q E s :=
  SeqAt.compareEq_reads ha.reads hb.reads (canLay_rows xs) (canLay_rows ys) (by have := depth_rows xs; have : cLine = 9900 := rfl; omega) (by rw [eqv_rows]; exact h)
end
end Mine

namespace Mine
section
variable {prog : Program} {w : World} {A : Around} {E : Value → Shared → Prop} {s : Shared} {env : Env} {mg mb : Str → Option Value} {g : Heap} {C N : Addr} {mN : Str → Option Value} {c1 c2 c3 c4 sl : Addr}

abbrev f4 (x : Int) : Bool := decide (x < 4)

/-- _law_sieved(sieve, row) -/
theorem sieved_call {S l a7 : Addr} {xs : List Int} (G : GF mg mb g) (K : GC mg g C N mN) (hg : Sub g s.heap) (F : FnAt mg g 7 a7) (hd : A.depth < 950) (hh : A.handled = none) (hS : SelAt s.heap S c1 c2 c3 c4 sl) (hl : Has s.heap l (.ints xs)) (hx8 : ∀ x ∈ xs, 0 ≤ x ∧ x < 8) (hlen : xs.length ≤ 400)
    {Q : Value → Shared → Prop} (h : ∀ D s', Own No s s' [(D, .ints (xs.filter f4))] → Q (.ref D) s') :
    (∃ o fd, s.heap.get? a7 = some o ∧ o.data = .func fd) ∧ wpAny (model prog w) A (call (.ref a7) [.ref S, .ref l]) Q E s := by
  constructor
  · obtain ⟨_, o, pm, cd, doc, ho, hdt, _⟩ := F
    exact ⟨o, _, hg _ _ ho, hdt⟩
  · refine wpAny_mono (sieved_spec G K hg F hd hh hS hl hx8 hlen) (fun v s' hv => ?_) fun _ _ e => e
    obtain ⟨D, rfl, O⟩ := hv
    exact h D s' O

theorem law_tail {S T Lf W Fr cS cD : Addr} {lads wads fads : List Addr} {left : List (List Int)} {due : List Int} {m : Str → Option Value} {v8 v9 : Value} {tk : Tok} (G : GF mg mb g) (K : GC mg g C N mN) (hg : Sub g s.heap) (hd : A.depth < 940) (hh : A.handled = none) (hu : A.units < 9000)
    (hE : EnvG env) (hs : env.scope = (defAt 11).scope) (kS : env.cells.lookup (Str.ofString "sieve") = some cS) (kD : env.cells.lookup (Str.ofString "due") = some cD)
    (hL : Has s.heap env.locals (.ns m)) (hcS : Has s.heap cS (.cell (some (.ref S)))) (hcD : Has s.heap cD (.cell (some (.ref T))))
    (m1 : m (Str.ofString "left") = some (.ref Lf)) (m2 : m (Str.ofString "merged") = some v8) (m3 : m (Str.ofString "parts") = some v9) (m4 : m (Str.ofString "words") = some (.str (Str.ofString "Inconsistent hierarchy") tk))
    (m5 : m (Str.ofString "whole") = some (.ref W)) (m6 : m (Str.ofString "front") = some (.ref Fr))
    (hT : Has s.heap T (.ints due)) (hSel : SelAt s.heap S c1 c2 c3 c4 sl)
    (hLf : RowsAt s.heap Lf lads left) (hW : RowsAt s.heap W wads left) (hFr : RowsAt s.heap Fr fads (left.map (·.filter f4)))
    (h8 : (left.flatten = [] ∧ ∃ Rs, v8 = .ref Rs ∧ Has s.heap Rs (.ints due)) ∨ (left.flatten ≠ [] ∧ ∃ tk, v8 = .str (Str.ofString "Inconsistent hierarchy") tk))
    (h9 : (left.flatten.filter f4 = [] ∧ ∃ Rs, v9 = .ref Rs ∧ Has s.heap Rs (.ints (due.filter f4))) ∨ (left.flatten.filter f4 ≠ [] ∧ ∃ tk, v9 = .str (Str.ofString "Inconsistent hierarchy") tk))
    (hsm : small left) (hb : ∀ r ∈ left, ∀ x ∈ r, 0 ≤ x ∧ x < 8) (hbd : ∀ x ∈ due, 0 ≤ x ∧ x < 8) (hdl : due.length ≤ 400) :
    wpAny (model prog w) A (execs ((defAt 11).body.drop 10) env) (fun f s' => f = .ret (.bool true) ∧ Own No s s' []) E s := by
  obtain ⟨a7, F7⟩ := G.fn 7 (by decide)
  have hno : ∀ b, ¬ No b := fun _ h => h
  have hgo : ∀ {s' os}, Own No s s' os → Sub g s'.heap := fun O' => hg.kp O'.kp fun _ h => h.elim
  have hs20 : sizeLine = 16777216 := rfl
  conv => arg 3; arg 1; whnf
  refine wpAny_execs_cons (wpAny_mono (Q := fun f s' => f = .next ∧ Own No s s' []) ?_ (fun f s₁ hf => ?_) (fun _ _ e => e))
  · refine wpAny_If (wpAny_isTrue_Compare1 (eval_comp rfl (comp_flat (fun _ => true) hE hh (closureFor_none (by decide)) hLf hsm (fun Q' h => nameL hL hE (kind_of hs rfl) m1 h) (fun n t C s' m' _ _ E' Q' hQ => tests_nil (hQ s'.toks)) fun D s₂ P1 => ?_)))
    refine wpAny_List (wpAny_items_nil ⟨by decide, ?_⟩)
    have P2 := P1.push { cls := .type "list", data := .seq ([] : List Value).toArray } (.ints []) ⟨[], 0, .nil, rfl⟩ s₂.toks
    refine ne_ints (P2.nth 1 rfl) (P2.nth 0 rfl) (by omega) (wpAny_truthy_bool ?_)
    have P3 : Own No s { s₂ with heap := s₂.heap.push { cls := .type "list", data := .seq ([] : List Value).toArray } } [] := P2.sub (List.nil_sublist _)
    generalize ({ s₂ with heap := s₂.heap.push { cls := .type "list", data := .seq ([] : List Value).toArray } } : Shared) = s₃ at *
    clear P1 P2
    have hft : left.flatten.filter (fun _ => true) = left.flatten := List.filter_eq_self.mpr fun _ _ => rfl
    rw [hft]
    have hL3 : Has s₃.heap env.locals (.ns m) := P3.old hL (hno _)
    rcases h8 with ⟨he, Rs, rfl, hRs⟩ | ⟨he, tk8, rfl⟩
    · rw [if_neg (by simpa using he)]
      refine wpAny_execs_cons (wpAny_If (wpAny_isTrue_BoolOp (wpAny_allTrue_Or_cons (wpAny_isTrue_Compare1 (nameL hL3 hE (kind_of hs rfl) m2 (nameC hE (kind_of hs rfl) kD (P3.old hcD (hno _)) (ne_ints (P3.old hRs (hno _)) (P3.old hT (hno _)) (by omega) (wpAny_truthy_bool ?_))))))))
      rw [if_neg (by simp)]
      refine wpAny_allTrue_Or_cons (wpAny_isTrue_Compare1 (callF ?_))
      refine nameG G (hgo P3) hE (kind_of hs rfl) F7.1 ⟨a7, rfl, Calls.spliced_cons (nameC hE (kind_of hs rfl) kS (P3.old hcS (hno _)) (Calls.spliced_cons (nameL hL3 hE (kind_of hs rfl) m2 (Calls.spliced_nil ?_))))⟩
      refine sieved_call G K (hgo P3) F7 (by omega) hh (hSel.kp P3.kp hno) (P3.old hRs (hno _)) hbd hdl fun D2 s₄ P4 => ?_
      have P5 := P3.on' P4
      rcases h9 with ⟨he9, Rs9, rfl, hRs9⟩ | ⟨he9, tk9, rfl⟩
      · refine nameL (P5.old hL (hno _)) hE (kind_of hs rfl) m3 (ne_ints (P5.nth 0 rfl) (P5.old hRs9 (hno _)) (by omega) (wpAny_truthy_bool ?_))
        rw [if_neg (by simp)]
        refine wpAny_allTrue_Or_nil ?_
        exact wpAny_execs_nil (wpAny_execs_nil ⟨rfl, P5.sub (List.nil_sublist _)⟩)
      · rw [he] at he9; exact absurd rfl he9
    · rw [if_pos (by simpa using he)]
      refine wpAny_execs_cons (wpAny_If (wpAny_isTrue_Compare1 (nameL hL3 hE (kind_of hs rfl) m2 (nameL hL3 hE (kind_of hs rfl) m4 (PyProof.Rows.ne_str (wpAny_truthy_bool ?_))))))
      rw [if_neg (by decide +kernel)]
      exact wpAny_execs_nil (wpAny_execs_nil ⟨rfl, P3⟩)
  · obtain ⟨rfl, O1⟩ := hf
    dsimp only
    refine wpAny_execs_cons (wpAny_mono (Q := fun f s' => f = .next ∧ Own No s s' []) ?_ (fun f s₂ hf => ?_) (fun _ _ e => e))
    · have hL1 : Has s₁.heap env.locals (.ns m) := O1.old hL (hno _)
      refine wpAny_If (wpAny_isTrue_Compare1 (eval_comp rfl (comp_flat f4 hE hh (closureFor_none (by decide)) (hLf.kp O1.kp fun b _ => hno b) hsm (fun Q' h => nameL hL1 hE (kind_of hs rfl) m1 h)
        (fun n t C s' m' hm hC E' Q' hQ => tests_one (wpAny_isTrue_Compare1 (nameL (env := compEnvC _ _ C env) hC (hE.comp rfl) (comp_local rfl) hm (wpAny_Constant_int (lt_int (wpAny_truthy_bool (hQ _))))))) fun D s₂ P1 => ?_)))
      refine wpAny_List (wpAny_items_nil ⟨by decide, ?_⟩)
      have P2 := P1.push { cls := .type "list", data := .seq ([] : List Value).toArray } (.ints []) ⟨[], 0, .nil, rfl⟩ s₂.toks
      refine ne_ints (P2.nth 1 rfl) (P2.nth 0 rfl) (by omega) (wpAny_truthy_bool ?_)
      have P3 : Own No s { s₂ with heap := s₂.heap.push { cls := .type "list", data := .seq ([] : List Value).toArray } } [] := O1.on' (P2.sub (List.nil_sublist _))
      generalize ({ s₂ with heap := s₂.heap.push { cls := .type "list", data := .seq ([] : List Value).toArray } } : Shared) = s₃ at *
      clear P1 P2
      have hL3 : Has s₃.heap env.locals (.ns m) := P3.old hL (hno _)
      rcases h9 with ⟨he, Rs, rfl, hRs⟩ | ⟨he, tk9, rfl⟩
      · rw [if_neg (by simpa using he)]
        obtain ⟨vd, hvd, hvl⟩ := (P3.old hT (hno _)).ints
        refine wpAny_execs_cons (wpAny_If (wpAny_isTrue_Compare1 (nameL hL3 hE (kind_of hs rfl) m3 (eval_comp rfl (comp_ints (X := No) (s₀ := s₃) f4 hE hh (closureFor_none (by decide)) (nameC hE (kind_of hs rfl) kD (P3.old hcD (hno _))
          ⟨T, vd, due, [], rfl, Own.refl _ _, hvd, fun s' O' => O'.old hvl (hno _), by omega, ?_, ?_⟩))))))
        · intro y ty C s' mm _ hmm hC _ E' Q' hQ'
          exact wpAny_isTrue_Compare1 (nameL (env := compEnvC _ _ C env) hC (hE.comp rfl) (comp_local rfl) hmm (wpAny_Constant_int (lt_int (wpAny_truthy_bool (hQ' _)))))
        · intro C D mm s' O'
          refine ⟨mm, _, O', fun s'' O'' => ?_⟩
          have P4 := P3.on' O''
          refine ne_ints (P4.old hRs (hno _)) (P4.nth 0 rfl) (by omega) (wpAny_truthy_bool ?_)
          rw [if_neg (by simp)]
          exact wpAny_execs_nil (wpAny_execs_nil ⟨rfl, P4.sub (List.nil_sublist _)⟩)
      · rw [if_pos (by simpa using he)]
        refine wpAny_execs_cons (wpAny_If (wpAny_isTrue_Compare1 (nameL hL3 hE (kind_of hs rfl) m3 (nameL hL3 hE (kind_of hs rfl) m4 (PyProof.Rows.ne_str (wpAny_truthy_bool ?_))))))
        rw [if_neg (by decide +kernel)]
        exact wpAny_execs_nil (wpAny_execs_nil ⟨rfl, P3⟩)
    · obtain ⟨rfl, O2⟩ := hf
      dsimp only
      have hL2 : Has s₂.heap env.locals (.ns m) := O2.old hL (hno _)
      have hW2 := hW.kp O2.kp fun b _ => hno b
      refine wpAny_execs_cons (wpAny_Return_some (wpAny_And2 (wpAny_Compare1 (nameL hL2 hE (kind_of hs rfl) m5 (nameL hL2 hE (kind_of hs rfl) m1 (eq_rows hW2 (hLf.kp O2.kp fun b _ => hno b) (by omega) (wpAny_truthy_bool ?_)))))))
      rw [if_pos (by simp)]
      refine wpAny_Compare1 (eval_comp rfl (comp_rows (X := No) (s₀ := s₂) (fun xs => xs.filter f4) hE hh (closure_one kS rfl) (nameL hL2 hE (kind_of hs rfl) m5 ⟨W, wads, left, [], rfl, Own.refl _ _, fun s' O' => hW2.kp O'.kp fun b _ => hno b, hsm, ?_, ?_⟩)))
      · intro C0 m' s' ad xs hxs hm' had hC O' E' Q' hQ'
        have P3 := O2.on' O'
        refine callF ?_
        refine nameG G (hgo P3) (hE.comp rfl) (comp_global rfl) F7.1 ⟨a7, rfl, Calls.spliced_cons (comp_free (env := env) hE rfl rfl rfl (P3.old hcS (hno _)) (Calls.spliced_cons (nameL (env := compEnvC _ _ C0 env) hC (hE.comp rfl) (comp_local rfl) hm' (Calls.spliced_nil ?_))))⟩
        exact sieved_call G K (hgo P3) F7 (by omega) hh (hSel.kp P3.kp hno) had (hb xs hxs) (by have := hsm.2 xs hxs; omega) hQ'
      · intro C0 D ads' m' s' hal O'
        refine ⟨m', _, O', fun s'' O'' => ?_⟩
        have P4 := O2.on' O''
        have hD : RowsAt s''.heap D ads' (left.map (·.filter f4)) := RowsAt.of P4 (by simpa using hal) (fun p hp => by simpa using hp)
        refine nameL (P4.old hL (hno _)) hE (kind_of hs rfl) m6 (eq_rows hD (hFr.kp P4.kp fun b _ => hno b) (by omega) ?_)
        exact ⟨by simp, P4.sub (List.nil_sublist _)⟩
end
end Mine

namespace Mine
section
variable {prog : Program} {w : World} {A : Around} {E : Value → Shared → Prop} {s : Shared} {env : Env} {mg mb : Str → Option Value} {g : Heap} {C N : Addr} {mN : Str → Option Value} {c1 c2 c3 c4 sl : Addr}

theorem Own.then {X : Addr → Prop} {s₀ s' : Shared} {os os' : List (Addr × Pr)} (O : Own X s₀ s os) (P : Own No s s' os') : Own X s₀ s' (os ++ os') := (O.on' P).perm List.perm_append_comm
theorem Own.rot {X : Addr → Prop} {s₀ : Shared} {c d l : Addr × Pr} {Z rest : List (Addr × Pr)} (O : Own X s₀ s (c :: d :: (Z ++ l :: rest))) : Own X s₀ s (c :: l :: (rest ++ d :: Z)) :=
  O.perm (List.Perm.cons _ (List.perm_append_comm (l₁ := l :: rest) (l₂ := d :: Z)))

abbrev rowOs (R : Addr) (ads : List Addr) (rows : List (List Int)) : List (Addr × Pr) := (R, .list (ads.map .ref)) :: zipP ads rows
theorem zipP_fst : ∀ {ads : List Addr} {rows : List (List Int)}, ads.length = rows.length → (zipP ads rows).map (·.1) = ads
  | [], [], _ => rfl
  | a :: ads, r :: rows, h => by
    show a :: (zipP ads rows).map (·.1) = _
    rw [zipP_fst (by simpa using h)]
  | [], _ :: _, h => by simp at h
  | _ :: _, [], h => by simp at h
theorem mem_zipP_ints {ads : List Addr} {rows : List (List Int)} {p : Addr × Pr} (h : p ∈ zipP ads rows) : ∃ xs, p.2 = .ints xs := by
  unfold zipP at h
  rw [List.mem_iff_getElem] at h
  obtain ⟨i, hi, rfl⟩ := h
  exact ⟨_, by simp; rfl⟩
theorem ns_not_list {h : Heap} {a : Addr} {m : Str → Option Value} {vs : List Value} (x : Has h a (.ns m)) (y : Has h a (.list vs)) : False := by
  obtain ⟨o, ho, es, ep, hd, _⟩ := x
  obtain ⟨o', ho', n, rfl⟩ := y
  rw [ho] at ho'; cases ho'; cases hd
theorem ns_not_ints {h : Heap} {a : Addr} {m : Str → Option Value} {xs : List Int} (x : Has h a (.ns m)) (y : Has h a (.ints xs)) : False :=
  let ⟨_, _, z⟩ := y.ints; ns_not_list x z
theorem C3R.len {rows cur : List (List Int)} {res : List Int} (h : C3R rows res cur) : cur.length = rows.length := by
  induction h with
  | nil => rfl
  | step _ _ ih => simpa using ih

/-- _law_merged called from law -/
theorem merged_step {X : Addr → Prop} {s₀ : Shared} {a W : Addr} {wads : List Addr} {rows : List (List Int)} {m : Str → Option Value} {os : List (Addr × Pr)} (G : GF mg mb g) (hg : Sub g s.heap) (F : FnAt mg g 10 a) (hd : A.depth < 980) (hh : A.handled = none) (hu : A.units < 8000)
    (hE : EnvG env) (hf : env.frame = some env.locals) (hfr : A.frames = some [env]) (O : Own X s₀ s ((env.locals, .ns m) :: (rowOs W wads rows ++ os))) (hlen : wads.length = rows.length) (hsm : small rows) (hgX : ∀ b, X b ∨ s₀.heap.get? b = none → g.get? b = none) :
    wpAny (model prog w) A (call (.ref a) [.ref W]) (fun v s' => ∃ res cur ro, C3R rows res cur ∧ Own X s₀ s' ((env.locals, .ns m) :: (rowOs W wads cur ++ (os ++ ro))) ∧
      ((live cur = [] ∧ ∃ Rs, v = .ref Rs ∧ (Rs, .ints res) ∈ ro) ∨ (live cur ≠ [] ∧ next cur = none ∧ ∃ tk, v = .str (Str.ofString "Inconsistent hierarchy") tk))) E s := by
  have hnd := O.nd
  have hfe : frs [env] = [env.locals] := frs_cons hf
  have hbl : (rowOs W wads rows).map (·.1) = W :: wads := by show W :: (zipP wads rows).map (·.1) = _; rw [zipP_fst hlen]
  have hnew : ∀ b, b ∈ W :: wads ∨ b ∈ frs [env] → X b ∨ s₀.heap.get? b = none := fun b hb => by
    rcases hb with hb | hb
    · rw [← hbl] at hb
      obtain ⟨p, hp, rfl⟩ := List.mem_map.mp hb
      exact O.new p (List.mem_cons_of_mem _ (List.mem_append_left _ hp))
    · rw [hfe] at hb
      rcases List.mem_singleton.mp hb with rfl
      exact O.new _ (List.mem_cons_self ..)
  rw [List.map_cons, List.map_append, hbl] at hnd
  obtain ⟨n1, n2⟩ := List.nodup_cons.mp hnd
  obtain ⟨n3, n4, n5⟩ := List.nodup_append.mp n2
  have hL := O.nth 0 rfl
  have hLW : env.locals ∉ W :: wads := fun h => n1 (List.mem_append_left _ h)
  refine wpAny_mono (merged_spec (R := W) (ads := wads) (rows := rows) (outer := [env]) G hg F hd hh hu hfr (Heap.FunFrames.cons (by rw [hE.kind]; decide) hf hL.ns rfl trivial) (RowsAt.of O hlen fun p hp => List.mem_cons_of_mem _ (List.mem_append_left _ hp)) n3
    (fun b hb => hgX b (hnew b (.inl hb))) hsm (fun b hb => by rw [hfe] at hb; rcases List.mem_singleton.mp hb with rfl; exact hLW) (fun b hb => hgX b (hnew b (.inr hb)))) (fun v s' hv => ?_) fun _ _ e => e
  obtain ⟨res, cur, hc, sk, hv⟩ := hv
  obtain ⟨o, ho, hon⟩ := hL
  obtain ⟨sl', ho'⟩ := sk _ (by rw [hfe]; exact List.mem_cons_self ..) o ho
  have hL' : Has s'.heap env.locals (.ns m) := ⟨_, ho', hon⟩
  have hbad : ∀ p ∈ rowOs W wads cur, p.1 = env.locals → Has s'.heap p.1 p.2 → False := fun p hp e h => by
    rcases List.mem_cons.mp hp with rfl | hp
    · rw [e] at h; exact ns_not_list hL' h
    · obtain ⟨xs, hxs⟩ := mem_zipP_ints hp
      rw [e, hxs] at h; exact ns_not_ints hL' h
  have Oos : Own X s₀ s os := O.sub ((List.sublist_append_right ..).trans (List.sublist_cons_self ..))
  have hdis : ∀ p ∈ os, ¬ XF W wads [env] p.1 := fun p hp hx => by
    have hm : p.1 ∈ os.map (·.1) := List.mem_map.mpr ⟨p, hp, rfl⟩
    rcases hx with hx | hx
    · exact n5 _ hx _ hm rfl
    · rw [hfe] at hx
      have hx := List.mem_singleton.mp hx
      exact n1 (List.mem_append_right _ (hx ▸ hm))
  have hLos : env.locals ∉ os.map (·.1) := fun h => n1 (List.mem_append_right _ h)
  have hLn := O.new _ (List.mem_cons_self ..)
  rcases hv with ⟨hlv, Rs, rfl, P⟩ | ⟨hlv, hnx, htk, P⟩
  · refine ⟨res, cur, [(Rs, .ints res)], hc, ?_, .inl ⟨hlv, Rs, rfl, List.mem_cons_self ..⟩⟩
    have O2 := Oos.on P (fun b hb => hnew b hb) hdis
    refine (O2.add hL' hLn fun hm => ?_).perm (List.Perm.cons _ ?_)
    · rw [List.map_append] at hm
      rcases List.mem_append.mp hm with hm | hm
      · obtain ⟨p, hp, e⟩ := List.mem_map.mp hm
        rcases List.mem_cons.mp hp with rfl | hp'
        · have := P.has _ hp; rw [e] at this; exact ns_not_ints hL' this
        · exact hbad p hp' e (P.has p hp)
      · exact hLos hm
    · show (rowOs W wads cur ++ (os ++ [(Rs, Pr.ints res)])).Perm ((Rs, Pr.ints res) :: (rowOs W wads cur ++ os))
      rw [← List.append_assoc]
      exact List.perm_append_comm
  · refine ⟨res, cur, [], hc, ?_, .inr ⟨hlv, hnx, htk⟩⟩
    have O2 := Oos.on P (fun b hb => hnew b hb) hdis
    rw [List.append_nil]
    refine O2.add hL' hLn fun hm => ?_
    rw [List.map_append] at hm
    rcases List.mem_append.mp hm with hm | hm
    · obtain ⟨p, hp, e⟩ := List.mem_map.mp hm
      exact hbad p hp e (P.has p hp)
    · exact hLos hm
end
end Mine

namespace Mine

def told (due : List Int) (y : Int) : Bool := !(due.any (· == y))
theorem told_iff {t : List Int} {y : Int} : told t y = true ↔ y ∉ t := by
  unfold told
  rw [Bool.not_eq_true', ← Bool.not_eq_true, List.any_eq_true]
  constructor
  · intro h hy; exact h ⟨y, hy, by simp⟩
  · rintro h ⟨x, hx, e⟩; exact h (by rw [← (by simpa using e : x = y)]; exact hx)

/-- rows and what they hold -/
def ord (r : List Int) : Prop := r.Pairwise fun a b => b < 4 → a < 4
theorem rows_inv : ∀ (ns : List Int) (st : List (List Int) × List Int) (k : Nat), st.1.length ≤ k → (∀ r ∈ st.1 ++ [st.2], r.length ≤ k ∧ (∀ x ∈ r, 0 ≤ x ∧ x < 8) ∧ ord r) →
    (ns.foldl rowStep st).1.length ≤ k + ns.length ∧ ∀ r ∈ (ns.foldl rowStep st).1 ++ [(ns.foldl rowStep st).2], r.length ≤ k + ns.length ∧ (∀ x ∈ r, 0 ≤ x ∧ x < 8) ∧ ord r
  | [], st, k, h1, h2 => ⟨h1, h2⟩
  | n :: ns, st, k, h1, h2 => by
    have hb : 0 ≤ n.fmod 8 ∧ n.fmod 8 < 8 := ⟨Int.fmod_nonneg_of_pos n (by decide), Int.fmod_lt_of_pos n (by decide)⟩
    have := rows_inv ns (rowStep st n) (k + 1) ?_ ?_
    · rw [List.foldl_cons, List.length_cons]
      rw [show k + (ns.length + 1) = k + 1 + ns.length by omega]
      exact this
    · unfold rowStep
      split
      · simp; omega
      · show st.1.length ≤ k + 1
        omega
    · intro r hr
      unfold rowStep at hr
      split at hr
      · rcases List.mem_append.mp hr with hr | hr
        · obtain ⟨a, b, c⟩ := h2 r hr
          exact ⟨by omega, b, c⟩
        · rcases List.mem_singleton.mp hr with rfl
          refine ⟨by simp, fun x hx => by rcases List.mem_singleton.mp hx with rfl; exact hb, List.pairwise_singleton _ _⟩
      · rename_i hT
        rcases List.mem_append.mp hr with hr | hr
        · obtain ⟨a, b, c⟩ := h2 r (List.mem_append_left _ hr)
          exact ⟨by omega, b, c⟩
        · rcases List.mem_singleton.mp hr with rfl
          obtain ⟨a, b, c⟩ := h2 st.2 (List.mem_append_right _ (List.mem_singleton.mpr rfl))
          refine ⟨by simp; omega, fun x hx => ?_, ?_⟩
          · rcases List.mem_append.mp hx with hx | hx
            · exact b x hx
            · rcases List.mem_singleton.mp hx with rfl; exact hb
          · refine List.pairwise_append.mpr ⟨c, List.pairwise_singleton _ _, fun x hx y hy hy4 => ?_⟩
            rcases List.mem_singleton.mp hy with rfl
            have h3 : (decide (n.fmod 8 < 4) && !(st.2.filter (fun y => decide (4 ≤ y))).isEmpty) = false := by
              unfold rowTest at hT
              simp only [Bool.not_eq_true, Bool.or_eq_false_iff] at hT
              exact hT.2
            rw [show decide (n.fmod 8 < 4) = true from by simpa using hy4, Bool.true_and, Bool.not_eq_false', List.isEmpty_iff] at h3
            have := List.filter_eq_nil_iff.mp h3 x hx
            simp at this
            exact this
theorem rows_inv0 (ns : List Int) : (rowsOf ns).length ≤ ns.length + 1 ∧ ∀ r ∈ rowsOf ns, r.length ≤ ns.length ∧ (∀ x ∈ r, 0 ≤ x ∧ x < 8) ∧ ord r := by
  have := rows_inv ns ([], []) 0 (Nat.le_refl _) (fun r hr => by
    rcases List.mem_singleton.mp hr with rfl
    exact ⟨Nat.le_refl _, fun x hx => (List.not_mem_nil hx).elim, .nil⟩)
  rw [Nat.zero_add] at this
  refine ⟨?_, this.2⟩
  unfold rowsOf
  simp
  exact this.1
theorem rows_small (ns : List Int) (h : ns.length ≤ 16) : small (rowsOf ns) := ⟨by have := (rows_inv0 ns).1; omega, fun r hr => by have := ((rows_inv0 ns).2 r hr).1; omega⟩
theorem rows_bound (ns : List Int) : ∀ r ∈ rowsOf ns, ∀ x ∈ r, 0 ≤ x ∧ x < 8 := fun r hr => ((rows_inv0 ns).2 r hr).2.1
theorem rows_ord (ns : List Int) : ∀ r ∈ rowsOf ns, ord r := fun r hr => ((rows_inv0 ns).2 r hr).2.2

/-- the free ones -/
theorem mem_aheadIn {row : List Int} {x y : Int} : y ∈ aheadIn row x ↔ ∃ l1 l2, row = l1 ++ x :: l2 ∧ y ∈ l1 := by
  unfold aheadIn
  rw [List.mem_flatMap]
  constructor
  · rintro ⟨k, hk, hy⟩
    split at hy
    · rename_i e
      obtain ⟨hk', e'⟩ := List.getElem?_eq_some_iff.mp e
      refine ⟨row.take k, row.drop (k + 1), ?_, hy⟩
      rw [← e', ← List.drop_eq_getElem_cons hk', List.take_append_drop]
    · exact (List.not_mem_nil hy).elim
  · rintro ⟨l1, l2, rfl, hy⟩
    refine ⟨l1.length, List.mem_range.mpr (by simp), ?_⟩
    rw [if_pos (by simp)]
    simpa using hy
theorem isFree_iff {rows : List (List Int)} {t : List Int} {x : Int} : isFree rows t x = true ↔ x ∉ t ∧ ∀ row ∈ rows, ∀ l1 l2, row = l1 ++ x :: l2 → ∀ y ∈ l1, y ∈ t := by
  unfold isFree
  rw [Bool.and_eq_true, decide_eq_true_eq]
  refine and_congr told_iff ?_
  rw [List.filter_eq_nil_iff]
  constructor
  · intro h row hr l1 l2 e y hy
    have := h y (List.mem_flatMap.mpr ⟨row, hr, mem_aheadIn.mpr ⟨l1, l2, e, hy⟩⟩)
    exact Classical.byContradiction fun hn => this (told_iff.mpr hn)
  · intro h y hy hn
    obtain ⟨row, hr, hy⟩ := List.mem_flatMap.mp hy
    obtain ⟨l1, l2, e, hy⟩ := mem_aheadIn.mp hy
    exact told_iff.mp hn (h row hr l1 l2 e y hy)
theorem mem_freeOf {rows : List (List Int)} {t : List Int} {p : Int × Int} : p ∈ freeOf rows t rows.length ↔ ∃ (j : Nat) (xs : List Int), rows[j]? = some xs ∧ p.1 = j ∧ p.2 ∈ xs ∧ isFree rows t p.2 = true := by
  unfold freeOf
  rw [List.mem_flatMap]
  constructor
  · rintro ⟨j, hj, hp⟩
    have hjl := List.mem_range.mp hj
    obtain ⟨x, hx, rfl⟩ := List.mem_map.mp hp
    obtain ⟨hx1, hx2⟩ := List.mem_filter.mp hx
    rw [List.getD_eq_getElem?_getD, List.getElem?_eq_getElem hjl] at hx1
    exact ⟨j, rows[j], List.getElem?_eq_getElem hjl, rfl, hx1, hx2⟩
  · rintro ⟨j, xs, e, h1, h2, h3⟩
    obtain ⟨hj, _⟩ := List.getElem?_eq_some_iff.mp e
    refine ⟨j, List.mem_range.mpr hj, List.mem_map.mpr ⟨p.2, List.mem_filter.mpr ⟨?_, h3⟩, by rw [← h1]⟩⟩
    rw [List.getD_eq_getElem?_getD, e]; exact h2

/-- the least one -/
def leP (p q : Int × Int) : Prop := p.1 < q.1 ∨ (p.1 = q.1 ∧ p.2 ≤ q.2)
theorem ltP_iff {p q : Int × Int} : ltP p q = true ↔ p.1 < q.1 ∨ (p.1 = q.1 ∧ p.2 < q.2) := by unfold ltP; simp
theorem minFrom_le : ∀ (ps : List (Int × Int)) (b : Int × Int), ∀ q ∈ b :: ps, leP (minFrom b ps) q
  | [], b, q, hq => by rcases List.mem_singleton.mp hq with rfl; exact .inr ⟨rfl, Int.le_refl _⟩
  | p :: ps, b, q, hq => by
    have e : minFrom b (p :: ps) = minFrom (if ltP p b then p else b) ps := rfl
    rw [e]
    by_cases h : ltP p b = true
    · rw [if_pos h]
      have ih := minFrom_le ps p
      rcases List.mem_cons.mp hq with rfl | hq
      · have h1 := ih p (List.mem_cons_self ..)
        have h2 := ltP_iff.mp h
        unfold leP at h1 ⊢
        omega
      · exact ih q hq
    · rw [if_neg h]
      have ih := minFrom_le ps b
      rcases List.mem_cons.mp hq with rfl | hq
      · exact ih _ (List.mem_cons_self ..)
      · rcases List.mem_cons.mp hq with rfl | hq
        · have h1 := ih b (List.mem_cons_self ..)
          have h2 : ¬ (q.1 < b.1 ∨ (q.1 = b.1 ∧ q.2 < b.2)) := fun x => h (ltP_iff.mpr x)
          unfold leP at h1 ⊢
          omega
        · exact ih q (List.mem_cons_of_mem _ hq)
theorem minOf_spec {l : List (Int × Int)} (h : l ≠ []) : minOf l ∈ l ∧ ∀ q ∈ l, leP (minOf l) q := by
  cases l with
  | nil => exact absurd rfl h
  | cons b ps => exact ⟨minFrom_mem .., minFrom_le ps b⟩
theorem minOf_eq {l : List (Int × Int)} {p : Int × Int} (hp : p ∈ l) (hmin : ∀ q ∈ l, leP p q) : minOf l = p := by
  obtain ⟨h1, h2⟩ := minOf_spec (l := l) (fun e => by rw [e] at hp; exact List.not_mem_nil hp)
  have a := h2 p hp
  have b := hmin _ h1
  unfold leP at a b
  exact Prod.ext (by omega) (by omega)
theorem coming_mem {rows : List (List Int)} {due : List Int} (h : ComingR rows due) : ∀ x ∈ due, x ∈ rows.flatten := by
  induction h with
  | nil => intro x hx; exact (List.not_mem_nil hx).elim
  | step hc hne ih =>
    intro x hx
    rcases List.mem_append.mp hx with hx | hx
    · exact ih x hx
    · rcases List.mem_singleton.mp hx with rfl
      obtain ⟨j, xs, e, _, h2, _⟩ := mem_freeOf.mp (minOf_spec hne).1
      exact List.mem_flatten.mpr ⟨xs, List.mem_of_getElem? e, h2⟩

/-- the merge's choice is the least free one -/
theorem tail_split {p : Int → Bool} {c : Int} : ∀ {row : List Int}, c ∈ (row.filter p).tail → ∃ l1 l2, row = l1 ++ c :: l2 ∧ ∃ y ∈ l1, p y = true
  | [], h => (List.not_mem_nil h).elim
  | z :: row, h => by
    rw [List.filter_cons] at h
    by_cases hz : p z = true
    · rw [if_pos hz] at h
      obtain ⟨l1, l2, e⟩ := List.append_of_mem (List.mem_filter.mp h).1
      exact ⟨z :: l1, l2, by rw [e]; rfl, z, List.mem_cons_self .., hz⟩
    · rw [if_neg hz] at h
      obtain ⟨l1, l2, e, y, hy, hp⟩ := tail_split h
      exact ⟨z :: l1, l2, by rw [e]; rfl, y, List.mem_cons_of_mem _ hy, hp⟩
theorem tail_of {p : Int → Bool} {c y : Int} {l1 l2 : List Int} (hy : y ∈ l1) (hp : p y = true) (hc : p c = true) : c ∈ ((l1 ++ c :: l2).filter p).tail := by
  rw [List.filter_append, List.filter_cons, if_pos hc]
  cases e : l1.filter p with
  | nil =>
    have := List.mem_filter.mpr ⟨hy, hp⟩
    rw [e] at this; exact (List.not_mem_nil this).elim
  | cons a l => simp
theorem isFree_rem {rows : List (List Int)} {t : List Int} {c : Int} (hc : c ∉ t) : isFree rows t c = true ↔ ∀ row ∈ rows, c ∉ (row.filter (told t)).tail := by
  rw [isFree_iff]
  constructor
  · rintro ⟨_, h⟩ row hr hm
    obtain ⟨l1, l2, e, y, hy, hp⟩ := tail_split hm
    exact told_iff.mp hp (h row hr l1 l2 e y hy)
  · intro h
    refine ⟨hc, fun row hr l1 l2 e y hy => Classical.byContradiction fun hn => h row hr ?_⟩
    rw [e]
    exact tail_of hy (told_iff.mpr hn) (told_iff.mpr hc)
theorem nx_some {l : List (List Int)} {xs : List Int} {c : Int} : nx l xs = some c ↔ (∃ r, xs = c :: r) ∧ ∀ ys ∈ l, c ∉ ys.tail := by
  have key : ∀ x : Int, l.all (fun ys => !(ys.tail.any (· == x))) = true ↔ ∀ ys ∈ l, x ∉ ys.tail := fun x => by
    rw [List.all_eq_true]
    exact forall_congr' fun ys => forall_congr' fun _ => told_iff (t := ys.tail) (y := x)
  cases xs with
  | nil => simp [nx]
  | cons x r =>
    show (if l.all (fun ys => !(ys.tail.any (· == x))) = true then some x else none) = some c ↔ _
    by_cases h : l.all (fun ys => !(ys.tail.any (· == x))) = true
    · rw [if_pos h]
      constructor
      · intro e; cases e; exact ⟨⟨r, rfl⟩, (key _).mp h⟩
      · rintro ⟨⟨r', e⟩, _⟩; cases e; rfl
    · rw [if_neg h]
      constructor
      · intro e; cases e
      · rintro ⟨⟨r', e⟩, h'⟩; cases e; exact absurd ((key _).mpr h') h
theorem live_find (f : List Int → Option Int) (hf : f [] = none) : ∀ L : List (List Int), (live L).findSome? f = L.findSome? f
  | [] => rfl
  | [] :: L => by
    show (live L).findSome? f = _
    rw [List.findSome?_cons, hf]; exact live_find f hf L
  | (x :: r) :: L => by
    show ((x :: r) :: live L).findSome? f = _
    rw [List.findSome?_cons, List.findSome?_cons, live_find f hf L]
theorem live_tail {cur : List (List Int)} {c : Int} : (∀ ys ∈ live cur, c ∉ ys.tail) ↔ ∀ ys ∈ cur, c ∉ ys.tail := by
  constructor
  · intro h ys hy
    cases ys with
    | nil => exact List.not_mem_nil
    | cons x r => exact h _ (List.mem_filter.mpr ⟨hy, rfl⟩)
  · exact fun h ys hy => h ys (List.mem_filter.mp hy).1
theorem free_nx {rows : List (List Int)} {t : List Int} {q : Int × Int} (hq : q ∈ freeOf rows t rows.length) : ∃ (j : Nat) (xs : List Int), rows[j]? = some xs ∧ q.1 = j ∧ nx (live (rows.map (·.filter (told t)))) (xs.filter (told t)) = some q.2 := by
  obtain ⟨j, xs, e, h1, h2, h3⟩ := mem_freeOf.mp hq
  have hn := (isFree_iff.mp h3).1
  have ht := (isFree_rem hn).mp h3
  have hm : q.2 ∈ xs.filter (told t) := List.mem_filter.mpr ⟨h2, told_iff.mpr hn⟩
  refine ⟨j, xs, e, h1, nx_some.mpr ⟨?_, live_tail.mpr fun ys hy => ?_⟩⟩
  · cases e2 : xs.filter (told t) with
    | nil => rw [e2] at hm; exact (List.not_mem_nil hm).elim
    | cons a r =>
      have := ht xs (List.mem_of_getElem? e)
      rw [e2] at hm this
      rcases List.mem_cons.mp hm with h | h
      · exact ⟨r, by rw [h]⟩
      · exact absurd h this
  · obtain ⟨row, hr, rfl⟩ := List.mem_map.mp hy
    exact ht row hr
theorem next_none {rows : List (List Int)} {t : List Int} (h : next (rows.map (·.filter (told t))) = none) : freeOf rows t rows.length = [] := by
  unfold next at h
  rw [live_find _ rfl, List.findSome?_eq_none_iff] at h
  refine List.eq_nil_iff_forall_not_mem.mpr fun q hq => ?_
  obtain ⟨j, xs, e, _, hx⟩ := free_nx hq
  have := h (xs.filter (told t)) (List.mem_map.mpr ⟨xs, List.mem_of_getElem? e, rfl⟩)
  rw [hx] at this; cases this
theorem next_some {rows : List (List Int)} {t : List Int} {c : Int} (h : next (rows.map (·.filter (told t))) = some c) :
    freeOf rows t rows.length ≠ [] ∧ (minOf (freeOf rows t rows.length)).2 = c ∧ ∀ row ∈ rows, c ∉ (row.filter (told t)).tail := by
  unfold next at h
  rw [live_find _ rfl, List.findSome?_eq_some_iff] at h
  obtain ⟨l1, a, l2, e, ha, hl1⟩ := h
  obtain ⟨⟨r, rfl⟩, htl⟩ := nx_some.mp ha
  have htl' := live_tail.mp htl
  have hrows : ∀ row ∈ rows, c ∉ (row.filter (told t)).tail := fun row hr => htl' _ (List.mem_map.mpr ⟨row, hr, rfl⟩)
  have hj : (rows.map (·.filter (told t)))[l1.length]? = some (c :: r) := by rw [e]; simp
  rw [List.getElem?_map] at hj
  obtain ⟨row, hrow, hrf⟩ := Option.map_eq_some_iff.mp hj
  have hm : c ∈ row.filter (told t) := by rw [hrf]; exact List.mem_cons_self ..
  obtain ⟨hm1, hm2⟩ := List.mem_filter.mp hm
  have hp : ((l1.length : Int), c) ∈ freeOf rows t rows.length := mem_freeOf.mpr ⟨l1.length, row, hrow, rfl, hm1, (isFree_rem (told_iff.mp hm2)).mpr hrows⟩
  refine ⟨fun e' => by rw [e'] at hp; exact List.not_mem_nil hp, ?_, hrows⟩
  rw [minOf_eq hp fun q hq => ?_]
  obtain ⟨j, xs, e2, hq1, hx⟩ := free_nx hq
  have hcur : (rows.map (·.filter (told t)))[j]? = some (xs.filter (told t)) := by rw [List.getElem?_map, e2]; rfl
  unfold leP
  rcases Nat.lt_trichotomy j l1.length with hlt | heq | hgt
  · rw [e, List.getElem?_append_left hlt] at hcur
    rw [hl1 _ (List.mem_of_getElem? hcur)] at hx; cases hx
  · subst heq
    rw [hrow] at e2; cases e2
    rw [hrf] at hx
    obtain ⟨⟨r', e3⟩, _⟩ := nx_some.mp hx
    cases e3
    exact .inr ⟨hq1.symm, Int.le_refl _⟩
  · left
    show ((l1.length : Nat) : Int) < q.1
    rw [hq1]; exact_mod_cast hgt
theorem drop_filter {c : Int} : ∀ {l : List Int}, c ∉ l.tail → dropH c l = l.filter (fun y => !(c == y))
  | [], _ => rfl
  | x :: r, h => by
    have hr : r.filter (fun y => !(c == y)) = r := List.filter_eq_self.mpr fun y hy => by
      simp only [Bool.not_eq_true', beq_eq_false_iff_ne]
      intro e; exact h (e ▸ hy)
    show (if x = c then r else x :: r) = _
    rw [List.filter_cons, hr]
    by_cases e : x = c
    · rw [if_pos e, if_neg (by simp [e])]
    · rw [if_neg e, if_pos (by simpa using fun h => e h.symm)]
theorem told_snoc (t : List Int) (c y : Int) : told (t ++ [c]) y = (told t y && !(c == y)) := by
  unfold told
  simp only [List.any_append, List.any_cons, List.any_nil, Bool.or_false, Bool.not_or]
theorem c3_coming {rows cur : List (List Int)} {res : List Int} (h : C3R rows res cur) : ComingR rows res ∧ cur = rows.map (·.filter (told res)) := by
  induction h with
  | nil =>
    refine ⟨.nil, ?_⟩
    have : ∀ r : List Int, r.filter (told []) = r := fun r => List.filter_eq_self.mpr fun _ _ => rfl
    simp only [this, List.map_id']
  | @step res cur c hc hn ih =>
    obtain ⟨ih1, ih2⟩ := ih
    subst ih2
    obtain ⟨h1, h2, h3⟩ := next_some hn
    refine ⟨h2 ▸ ComingR.step ih1 h1, ?_⟩
    rw [List.map_map]
    refine List.map_congr_left fun row hr => ?_
    show dropH c (row.filter (told res)) = row.filter (told (res ++ [c]))
    rw [drop_filter (h3 row hr), List.filter_filter]
    refine List.filter_congr fun y _ => ?_
    rw [told_snoc, Bool.and_comm]

/-- the order is settled -/
def nthC (rows : List (List Int)) : Nat → List Int
  | 0 => []
  | n + 1 => nthC rows n ++ [(minOf (freeOf rows (nthC rows n) rows.length)).2]
theorem coming_nth {rows : List (List Int)} {t : List Int} (h : ComingR rows t) : t = nthC rows t.length ∧ ∀ k < t.length, freeOf rows (nthC rows k) rows.length ≠ [] := by
  induction h with
  | nil => exact ⟨rfl, fun k hk => absurd hk (Nat.not_lt_zero k)⟩
  | @step t hc hne ih =>
    obtain ⟨i1, i2⟩ := ih
    have hl : (t ++ [(minOf (freeOf rows t rows.length)).2]).length = t.length + 1 := by simp
    rw [hl]
    refine ⟨?_, fun k hk => ?_⟩
    · show _ = nthC rows t.length ++ [(minOf (freeOf rows (nthC rows t.length) rows.length)).2]
      rw [← i1]
    · rcases Nat.lt_or_ge k t.length with h | h
      · exact i2 k h
      · have : k = t.length := by omega
        rw [this, ← i1]; exact hne
theorem coming_det {rows : List (List Int)} {t1 t2 : List Int} (h1 : ComingR rows t1) (e1 : freeOf rows t1 rows.length = []) (h2 : ComingR rows t2) (e2 : freeOf rows t2 rows.length = []) : t1 = t2 := by
  obtain ⟨a1, b1⟩ := coming_nth h1
  obtain ⟨a2, b2⟩ := coming_nth h2
  rcases Nat.lt_trichotomy t1.length t2.length with h | h | h
  · exact absurd (a1 ▸ e1) (b2 _ h)
  · rw [a1, a2, h]
  · exact absurd (a2 ▸ e2) (b1 _ h)

/-- the front parts -/
theorem free_front {rows : List (List Int)} {t : List Int} {x : Int} (ho : ∀ r ∈ rows, ord r) (hx : x < 4) : isFree (rows.map (·.filter f4)) (t.filter f4) x = true ↔ isFree rows t x = true := by
  have hf : f4 x = true := by simpa using hx
  rw [isFree_iff, isFree_iff]
  refine and_congr ⟨fun h hm => h (List.mem_filter.mpr ⟨hm, hf⟩), fun h hm => h (List.mem_filter.mp hm).1⟩ ?_
  constructor
  · intro h row hr l1 l2 e y hy
    have hor := ho row hr
    rw [e] at hor
    have hy4 : y < 4 := (List.pairwise_append.mp hor).2.2 y hy x (List.mem_cons_self ..) hx
    have := h (row.filter f4) (List.mem_map.mpr ⟨row, hr, rfl⟩) (l1.filter f4) (l2.filter f4) (by rw [e, List.filter_append, List.filter_cons, if_pos hf]) y (List.mem_filter.mpr ⟨hy, by simpa using hy4⟩)
    exact (List.mem_filter.mp this).1
  · intro h row4 hr4 k1 k2 e y hy
    obtain ⟨row, hr, rfl⟩ := List.mem_map.mp hr4
    obtain ⟨l1, l2, e1, e2, e3⟩ := List.filter_eq_append_iff.mp e
    obtain ⟨l1', l2', e4, _, _, _⟩ := List.filter_eq_cons_iff.mp e3
    rw [← e2] at hy
    obtain ⟨hy1, hy2⟩ := List.mem_filter.mp hy
    exact List.mem_filter.mpr ⟨h row hr (l1 ++ l1') l2' (by rw [e1, e4, List.append_assoc]) y (List.mem_append_left _ hy1), hy2⟩
theorem front_sub {rows : List (List Int)} {t : List Int} {q : Int × Int} (ho : ∀ r ∈ rows, ord r) (hq : q ∈ freeOf (rows.map (·.filter f4)) (t.filter f4) (rows.map (·.filter f4)).length) : q ∈ freeOf rows t rows.length := by
  obtain ⟨j, xs, e, h1, h2, h3⟩ := mem_freeOf.mp hq
  rw [List.getElem?_map] at e
  obtain ⟨row, hrow, rfl⟩ := Option.map_eq_some_iff.mp e
  obtain ⟨h4, h5⟩ := List.mem_filter.mp h2
  exact mem_freeOf.mpr ⟨j, row, hrow, h1, h4, (free_front ho (by simpa using h5)).mp h3⟩
theorem coming_front {rows : List (List Int)} {t : List Int} (ho : ∀ r ∈ rows, ord r) (h : ComingR rows t) : ComingR (rows.map (·.filter f4)) (t.filter f4) := by
  induction h with
  | nil => exact .nil
  | @step t hc hne ih =>
    obtain ⟨hm, hmin⟩ := minOf_spec hne
    generalize minOf (freeOf rows t rows.length) = p at *
    rw [List.filter_append, List.filter_cons]
    by_cases h4 : f4 p.2 = true
    · rw [if_pos h4]
      obtain ⟨j, xs, e, h1, h2, h3⟩ := mem_freeOf.mp hm
      have hp : p ∈ freeOf (rows.map (·.filter f4)) (t.filter f4) (rows.map (·.filter f4)).length :=
        mem_freeOf.mpr ⟨j, xs.filter f4, by rw [List.getElem?_map, e]; rfl, h1, List.mem_filter.mpr ⟨h2, h4⟩, (free_front ho (by simpa using h4)).mpr h3⟩
      have := ComingR.step ih (fun e => by rw [e] at hp; exact List.not_mem_nil hp)
      rw [minOf_eq hp fun q hq => hmin q (front_sub ho hq)] at this
      exact this
    · rw [if_neg h4]
      simpa using ih

theorem plain_all {ns : List Int} {due res res2 : List Int} {cur cur2 : List (List Int)} (hc : ComingR (rowsOf ns) due) (hf : freeOf (rowsOf ns) due (rowsOf ns).length = []) (h1 : C3R (rowsOf ns) res cur) (e1 : next cur = none) (h2 : C3R ((rowsOf ns).map (·.filter f4)) res2 cur2) (e2 : next cur2 = none) :
    res = due ∧ cur = (rowsOf ns).map (·.filter (told due)) ∧ res2 = due.filter f4 ∧ cur2 = ((rowsOf ns).map (·.filter (told due))).map (·.filter f4) := by
  have ho := rows_ord ns
  generalize rowsOf ns = rows at *
  obtain ⟨a1, a2⟩ := c3_coming h1
  obtain ⟨b1, b2⟩ := c3_coming h2
  rw [a2] at e1
  rw [b2] at e2
  have hr : res = due := coming_det a1 (next_none e1) hc hf
  have hr2 : res2 = due.filter f4 := coming_det b1 (next_none e2) (coming_front ho hc) (List.eq_nil_iff_forall_not_mem.mpr fun q hq => by
    have := front_sub ho hq
    rw [hf] at this; exact List.not_mem_nil this)
  refine ⟨hr, by rw [a2, hr], hr2, ?_⟩
  rw [b2, hr2, List.map_map, List.map_map]
  refine List.map_congr_left fun row _ => ?_
  show (row.filter f4).filter (told (due.filter f4)) = (row.filter (told due)).filter f4
  rw [List.filter_filter, List.filter_filter]
  refine List.filter_congr fun y _ => ?_
  cases h4 : f4 y with
  | false => simp
  | true =>
    rw [Bool.and_true, Bool.true_and, Bool.eq_iff_iff, told_iff, told_iff]
    exact ⟨fun h hm => h (List.mem_filter.mpr ⟨hm, h4⟩), fun h hm => h (List.mem_filter.mp hm).1⟩
theorem live_nil {cur : List (List Int)} : live cur = [] ↔ cur.flatten = [] := by
  unfold live
  rw [List.filter_eq_nil_iff, List.flatten_eq_nil_iff]
  refine forall_congr' fun xs => forall_congr' fun _ => ?_
  cases xs <;> simp
end Mine

namespace Mine
section
variable {prog : Program} {w : World} {A : Around} {E : Value → Shared → Prop} {s : Shared} {env : Env} {mg mb : Str → Option Value} {g : Heap} {C N : Addr} {mN : Str → Option Value} {c1 c2 c3 c4 sl : Addr}

def lawNs (ns : List Int) : List Int := ns.take 9 ++ [0, 6, 21, 17, 0, 2, 4]

theorem IntsAre.take' {vs : List Value} {ns : List Int} (h : IntsAre vs ns) (k : Nat) : IntsAre (vs.take k) (ns.take k) := h.take k

theorem add7 {X : Addr → Prop} {s₀ : Shared} {B : Addr} {vs : List Value} {ns : List Int} {os : List (Addr × Pr)} {k0 k1 k2 k3 k4 k5 k6 : Nat} {p0 p1 p2 p3 p4 p5 p6 pos : Pos} {Q : Value → Shared → Prop} (O : Own X s₀ s ((B, .list vs) :: os)) (hi : IntsAre vs ns) (hlen : ns.length ≤ 9)
    (h : ∀ D ws s', IntsAre ws (ns ++ [0, 6, 21, 17, 0, 2, 4]) → Own X s₀ s' ((D, .list ws) :: os) → Q (.ref D) s') :
    wpAny (model prog w) A (eval (.List [.Constant (.int 0) k0 p0, .Constant (.int 6) k1 p1, .Constant (.int 21) k2 p2, .Constant (.int 17) k3 p3, .Constant (.int 0) k4 p4, .Constant (.int 2) k5 p5, .Constant (.int 4) k6 p6] pos) env) (fun b s₃ => wpAny (model prog w) A (binaryOp .Add (.ref B) b) Q E s₃) E s := by
  refine wpAny_List ?_
  refine wpAny_items_cons (wpAny_Constant_int (wpAny_items_cons (wpAny_Constant_int (wpAny_items_cons (wpAny_Constant_int (wpAny_items_cons (wpAny_Constant_int ?_)))))))
  refine wpAny_items_cons (wpAny_Constant_int (wpAny_items_cons (wpAny_Constant_int (wpAny_items_cons (wpAny_Constant_int (wpAny_items_nil ⟨Nat.le_of_ble_eq_true rfl, ?_⟩))))))
  have O2 := O.push { cls := .type "list", data := .seq ([Value.int 0 (s.toks), Value.int 6 (s.toks + 1), Value.int 21 (s.toks + 1 + 1), Value.int 17 (s.toks + 1 + 1 + 1), Value.int 0 (s.toks + 1 + 1 + 1 + 1), Value.int 2 (s.toks + 1 + 1 + 1 + 1 + 1), Value.int 4 (s.toks + 1 + 1 + 1 + 1 + 1 + 1)]).toArray } (.list [Value.int 0 (s.toks), Value.int 6 (s.toks + 1), Value.int 21 (s.toks + 1 + 1), Value.int 17 (s.toks + 1 + 1 + 1), Value.int 0 (s.toks + 1 + 1 + 1 + 1), Value.int 2 (s.toks + 1 + 1 + 1 + 1 + 1), Value.int 4 (s.toks + 1 + 1 + 1 + 1 + 1 + 1)]) ⟨0, rfl⟩ (s.toks + 1 + 1 + 1 + 1 + 1 + 1 + 1)
  have hi7 : IntsAre [Value.int 0 (s.toks), Value.int 6 (s.toks + 1), Value.int 21 (s.toks + 1 + 1), Value.int 17 (s.toks + 1 + 1 + 1), Value.int 0 (s.toks + 1 + 1 + 1 + 1), Value.int 2 (s.toks + 1 + 1 + 1 + 1 + 1), Value.int 4 (s.toks + 1 + 1 + 1 + 1 + 1 + 1)] [0, 6, 21, 17, 0, 2, 4] := .cons _ _ (.cons _ _ (.cons _ _ (.cons _ _ (.cons _ _ (.cons _ _ (.cons _ _ .nil))))))
  obtain ⟨o1, ho1, n1, rfl⟩ := O2.nth 1 rfl
  obtain ⟨o2, ho2, n2, rfl⟩ := O2.nth 0 rfl
  have hs20 : sizeLine = 16777216 := rfl
  have hvl := hi.length
  refine PySem.P.add_list ho1 ho2 ?_ (by simp; omega)
  have O3 := O2.push { cls := .type "list", data := .seq (vs.toArray ++ ([Value.int 0 (s.toks), Value.int 6 (s.toks + 1), Value.int 21 (s.toks + 1 + 1), Value.int 17 (s.toks + 1 + 1 + 1), Value.int 0 (s.toks + 1 + 1 + 1 + 1), Value.int 2 (s.toks + 1 + 1 + 1 + 1 + 1), Value.int 4 (s.toks + 1 + 1 + 1 + 1 + 1 + 1)]).toArray) } (.list (vs ++ [Value.int 0 (s.toks), Value.int 6 (s.toks + 1), Value.int 21 (s.toks + 1 + 1), Value.int 17 (s.toks + 1 + 1 + 1), Value.int 0 (s.toks + 1 + 1 + 1 + 1), Value.int 2 (s.toks + 1 + 1 + 1 + 1 + 1), Value.int 4 (s.toks + 1 + 1 + 1 + 1 + 1 + 1)])) ⟨0, by simp⟩ (s.toks + 1 + 1 + 1 + 1 + 1 + 1 + 1)
  exact h _ _ _ (hi.append hi7) (O3.pick 3 [0])

/-- rows = _law_rows(..) -/
theorem law_rows {l cS cD : Addr} {vs : List Value} {ns : List Int} {Q : Flow → Shared → Prop} (G : GF mg mb g) (hg : Sub g s.heap) (hd : A.depth < 940) (hh : A.handled = none) (hu : A.units < 8000) (hE : EnvG env) (hs : env.scope = (defAt 11).scope) {s₁ : Shared} {m : Str → Option Value}
    (hl : s.heap.IsList l vs.toArray) (hi : IntsAre vs ns) (hlen : ns.length ≤ 63) (O0 : Own No s s₁ [(env.locals, .ns m), (cS, .cell none), (cD, .cell none)]) (m0 : m (Str.ofString "script") = some (.ref l)) {st : Stmt} (hst : (defAt 11).body[(0 : Nat)]? = some st)
    (h : ∀ R ads s', ads.length = (rowsOf (lawNs ns)).length → Own No s s' ([(env.locals, .ns (up m (Str.ofString "rows") (.ref R))), (cS, .cell none), (cD, .cell none)] ++ rowOs R ads (rowsOf (lawNs ns))) → Q .next s') :
    wpAny (model prog w) A (exec st env) Q E s₁ := by
  obtain ⟨a8, F8⟩ := G.fn 8 (by decide)
  have hno : ∀ b, ¬ No b := fun _ h => h
  have hgo : ∀ {s' os}, Own No s s' os → Sub g s'.heap := fun O' => hg.kp O'.kp fun _ h => h.elim
  have hs20 : sizeLine = 16777216 := rfl
  have hvl := hi.length
  cases hst
  have hl1 : s₁.heap.IsList l vs.toArray := let ⟨o, e, r⟩ := hl; ⟨o, O0.kp.get _ _ (hno _) e, r⟩
  refine wpAny_Assign_Name (callF ?_)
  refine nameG G (hgo O0) hE (kind_of hs rfl) F8.1 ⟨a8, rfl, Calls.spliced_cons (wpAny_BinOp (wpAny_Subscript_list_slice (nameL (O0.nth 0 rfl) hE (kind_of hs rfl) m0 (evalPart_none_step (evalPart_some_step (wpAny_Constant_int (k := 0) (pos := default) ⟨l, vs.toArray, none, some ((9 : Nat) : Int), rfl, hl1, by simp; omega, .none, .int _ _, ?_⟩))))))⟩
  rw [slicePick_upto']
  have O1 := (O0.push_ { cls := .type "slice", data := .fields #[.none, .int 9 s₁.toks, .none] } s₁.toks).push { cls := .type "list", data := .seq (vs.toArray.toList.take 9).toArray } (.list (vs.take 9)) ⟨0, by simp⟩ (s₁.toks + 1)
  have hSl : ({ s₁ with heap := s₁.heap.push { cls := .type "slice", data := .fields #[.none, .int 9 s₁.toks, .none] }, toks := s₁.toks } : Shared).heap.objs.size = s₁.heap.objs.size + 1 := Heap.size_push ..
  rw [hSl] at O1
  refine add7 O1 (hi.take 9) (by simp; omega) fun D ws s₂ hws O2 => Calls.spliced_nil ⟨?_, ?_⟩
  · obtain ⟨_, o, pm, cd, doc, ho, hdt, _⟩ := F8
    exact ⟨o, _, hgo O2 _ _ ho, hdt⟩
  refine wpAny_mono (rows_spec G (hgo O2) F8 (by omega) hh (by omega) (O2.nth 0 rfl) hws (by simp; omega)) (fun v s₃ hv => ?_) fun _ _ e => e
  obtain ⟨R, ads, rfl, hal, P⟩ := hv
  have O3 := (O2.sub (List.sublist_cons_self ..)).then P
  exact stL O3 0 rfl hE (kind_of hs rfl) fun s₄ O4 _ _ => h R ads s₄ hal O4
end
end Mine

namespace Mine
section
variable {prog : Program} {w : World} {A : Around} {E : Value → Shared → Prop} {s : Shared} {env : Env} {mg mb : Str → Option Value} {g : Heap} {C N : Addr} {mN : Str → Option Value} {c1 c2 c3 c4 sl : Addr}

theorem perm_mid {α : Type} (a b c : List α) : (b ++ (a ++ c)).Perm (a ++ (b ++ c)) := by
  rw [← List.append_assoc, ← List.append_assoc]
  exact List.Perm.append_right c List.perm_append_comm
theorem fn_there {n : Nat} {a : Addr} (F : FnAt mg g n a) (hg : Sub g s.heap) : ∃ o fd, s.heap.get? a = some o ∧ o.data = .func fd := by
  obtain ⟨_, o, pm, cd, doc, ho, hdt, _⟩ := F
  exact ⟨o, _, hg _ _ ho, hdt⟩

theorem law_spec {a l P c : Addr} {vs : List Value} {ns : List Int} (G : GF mg mb g) (K : GC mg g C N mN) (hg : Sub g s.heap) (F : FnAt mg g 11 a) (hd : A.depth < 930) (hh : A.handled = none) (hu : A.units < 7000) (hfr : A.frames = some [])
    (hl : s.heap.IsList l vs.toArray) (hi : IntsAre vs ns) (hlen : ns.length ≤ 63)
    (hcd : ∀ a1 o pm cd doc, mg (defAt 1).name = some (.ref a1) → g.get? a1 = some o → o.data = .func (defFd 1 pm cd doc) → cd = .ref c) (Cd : CodeHd g c P) (hP : s.heap.get? P = some (tabObj #[])) (hgP : g.get? P = none) (hb : g.BuiltinsAt mg P) :
    wpAny (model prog w) A (call (.ref a) [.ref l]) (fun v s' => v = .bool true ∧ ∃ ps, Own (· = P) s s' [(P, .raw (· = tabObj ps))]) E s := by
  refine call_fnC (binds := [(Str.ofString "script", .ref l)]) G hg F (by show A.depth < 1000; omega) (fun _ _ _ => rfl) (fun x hx => by rcases List.mem_singleton.mp hx with rfl; exact .inl rfl) ?_
  intro env s₁ hE hs hL hcs hf hcode x
  clear hcode
  have hfr2 : (A.deeper env).frames = some [env] := Around.frames_deeper hfr
  have hd2 : (A.deeper env).depth < 931 := by show A.depth + 1 < 931; omega
  have hu2 : (A.deeper env).units < 7003 := by show A.units + 3 < 7003; omega
  have hh2 : (A.deeper env).handled = none := hh
  generalize hA : A.deeper env = A2 at *
  have kS0 : env.cells.lookup (Str.ofString "sieve") = some (s.heap.objs.size + 1) := by rw [hcs]; rfl
  have kD0 : env.cells.lookup (Str.ofString "due") = some (s.heap.objs.size + 1 + 1) := by rw [hcs]; rfl
  have O0 := ownC x hL [(Str.ofString "sieve", s.heap.objs.size + 1), (Str.ofString "due", s.heap.objs.size + 1 + 1)]
    (fun p hp => by
      simp only [List.mem_cons, List.not_mem_nil, or_false] at hp
      rcases hp with rfl | rfl <;> assumption) (by simp)
  obtain ⟨cS, kS, hcS⟩ : ∃ cS, env.cells.lookup (Str.ofString "sieve") = some cS ∧ s.heap.objs.size + 1 = cS := ⟨_, kS0, rfl⟩
  obtain ⟨cD, kD, hcD⟩ : ∃ cD, env.cells.lookup (Str.ofString "due") = some cD ∧ s.heap.objs.size + 1 + 1 = cD := ⟨_, kD0, rfl⟩
  have hk : env.kindOf (Str.ofString "script") = some .local := kind_of hs rfl
  have hbl : (bindL env.kindOf [(Str.ofString "script", Value.ref l)] fun _ => none) = up (fun _ => none) (Str.ofString "script") (.ref l) := by
    unfold bindL bindL; rw [if_pos hk]; rfl
  have hbc : (bindC env.kindOf [(Str.ofString "script", Value.ref l)] fun _ => none) = fun _ => none := by
    unfold bindC bindC; rw [if_pos hk]
  simp only [List.map_cons, List.map_nil, hbl, hbc, hcD] at O0
  simp only [hcS] at O0
  clear x hcs kS0 kD0 hcS hcD hbl hbc hk
  have hno : ∀ b, ¬ No b := fun _ h => h
  have hgo : ∀ {s' os}, Own No s s' os → Sub g s'.heap := fun O' => hg.kp O'.kp fun _ h => h.elim
  obtain ⟨a1, F1⟩ := G.fn 1 (by decide)
  obtain ⟨a7, F7⟩ := G.fn 7 (by decide)
  obtain ⟨a9, F9⟩ := G.fn 9 (by decide)
  obtain ⟨a10, F10⟩ := G.fn 10 (by decide)
  have hsm : small (rowsOf (lawNs ns)) := rows_small _ (by unfold lawNs; simp; omega)
  have hbd : ∀ r ∈ rowsOf (lawNs ns), ∀ x ∈ r, 0 ≤ x ∧ x < 8 := rows_bound _
  conv => arg 3; arg 1; whnf
  refine wpAny_execs_cons (law_rows G hg (by omega) hh2 (by omega) hE hs hl hi hlen O0 rfl rfl fun R ads s₂ hal O1 => ?_)
  clear O0
  -- the sieve
  refine wpAny_execs_cons (wpAny_Assign_Name (callF ?_))
  refine nameG G (hgo O1) hE (kind_of hs rfl) F1.1 ⟨a1, rfl, Calls.spliced_cons (Calls.Constant_str (k := 0) (pos := default) (Calls.spliced_nil ⟨fn_there F1 (hgo (O1.tok _)), ?_⟩))⟩
  have O1t := O1.tok (s₂.toks + 1)
  refine wpAny_mono (prep_spec G (hgo O1t) F1 (by omega) hh2 (hcd a1 · · · · F1.1) Cd (O1t.kp.get _ _ (hno _) hP) hgP hb) (fun v s₃ hv => ?_) fun _ _ e => e
  obtain ⟨S, c1, c2, c3, c4, sl, qual, c', t, ps, rfl, P2⟩ := hv
  have O2 := ((O1t.monoX (Y := (· = P)) fun _ h => h.elim).on P2 (fun b e => .inl e) (fun p hp e => by
    rcases O1t.new p hp with h | h
    · exact h
    · rw [e, hP] at h; cases h)).perm List.perm_append_comm
  clear P2 O1 O1t
  refine stC O2 1 rfl hE (kind_of hs rfl) kS fun s₄ O3 _ _ => ?_
  clear O2
  obtain ⟨rest, hrest⟩ : ∃ r, r = rowOs R ads (rowsOf (lawNs ns)) ++ selOs S c1 c2 c3 c4 sl P qual c' t ps := ⟨_, rfl⟩
  obtain ⟨m4, hm4, hrows⟩ : ∃ m, m = up (up (fun _ => none) (Str.ofString "script") (.ref l)) (Str.ofString "rows") (.ref R) ∧ m (Str.ofString "rows") = some (.ref R) := ⟨_, rfl, up_self ..⟩
  have O4 : Own (· = P) s s₄ ((env.locals, .ns m4) :: (cS, .cell (some (.ref S))) :: (cD, .cell none) :: rest) := by rw [hrest, hm4]; exact O3
  clear O3 hm4
  have hgQ : ∀ {s' os}, Own (· = P) s s' os → Sub g s'.heap := fun O' => hg.kp O'.kp fun b e => by rw [e]; exact hgP
  have hSel : ∀ {s' os}, Own (· = P) s s' os → (∀ p ∈ rest, p ∈ os) → SelAt s'.heap S c1 c2 c3 c4 sl := fun O' h => SelAt.of O' (fun p hp => h p (by rw [hrest]; exact List.mem_append_right _ hp))
  have hRw : ∀ {s' os}, Own (· = P) s s' os → (∀ p ∈ rest, p ∈ os) → RowsAt s'.heap R ads (rowsOf (lawNs ns)) := fun O' h => RowsAt.of O' hal (fun p hp => h p (by rw [hrest]; exact List.mem_append_left _ hp))
  have hPm : (P, Pr.raw (· = tabObj ps)) ∈ rest := by rw [hrest]; exact List.mem_append_right _ (List.mem_of_getElem? (i := 7) rfl)
  clear hrest
  generalize hrw : rowsOf (lawNs ns) = rows at *
  have m3 : ∀ {a b c : Addr × Pr} {os : List (Addr × Pr)}, ∀ p ∈ os, p ∈ a :: b :: c :: os := fun p hp => List.mem_cons_of_mem _ (List.mem_cons_of_mem _ (List.mem_cons_of_mem _ hp))
  -- whole
  refine wpAny_execs_cons (assign_comp rfl (swaps_true hE (kind_of hs rfl)) (comp_rows (X := (· = P)) (s₀ := s) (fun xs => xs) hE hh2 (closureFor_none (by decide)) (nameL (O4.nth 0 rfl) hE (kind_of hs rfl) hrows ⟨R, ads, rows, _, rfl, O4, fun s' O' => hRw O' m3, hsm, ?_, ?_⟩)))
  · intro C0 m' s' ad xs hxs hm' had hC O' E' Q' hQ'
    refine callT ?_
    exact nameB G (hgQ O') (hE.comp rfl) (comp_global rfl) (G.no _ (by decide)) (bi_list G) ⟨_, rfl, Calls.spliced_cons (nameL (env := compEnvC _ _ C0 env) hC (hE.comp rfl) (comp_local rfl) hm' (Calls.spliced_nil (copy_list had (by have := hsm.2 xs hxs; omega) hQ')))⟩
  intro C0 W wads m' s₅ hwl O5 E''
  refine wpAny_assign_Name (stL O5.rot 1 rfl hE (kind_of hs rfl) fun s₆ O6 _ _ => ⟨m', _, O6, fun s₇ O7 => ?_⟩)
  have O8 : Own (· = P) s s₇ ((env.locals, .ns (up m4 (Str.ofString "whole") (.ref W))) :: (cS, .cell (some (.ref S))) :: (cD, .cell none) :: (rest ++ rowOs W wads rows)) := by
    rw [List.map_id'] at O7; exact O7
  clear O4 O5 O6 O7
  dsimp only
  -- front
  have w1 : up m4 (Str.ofString "whole") (.ref W) (Str.ofString "rows") = some (.ref R) := (up_ne _ _ (by decide)).trans hrows
  have w2 : up m4 (Str.ofString "whole") (.ref W) (Str.ofString "whole") = some (.ref W) := up_self ..
  generalize up m4 (Str.ofString "whole") (.ref W) = m5 at *
  have l1 : ∀ {a : List (Addr × Pr)}, ∀ p ∈ rest, p ∈ rest ++ a := fun p hp => List.mem_append_left _ hp
  refine wpAny_execs_cons (assign_comp rfl (swaps_true hE (kind_of hs rfl)) (comp_rows (X := (· = P)) (s₀ := s) (fun xs => xs.filter f4) hE hh2 (closure_one kS rfl) (nameL (O8.nth 0 rfl) hE (kind_of hs rfl) w1 ⟨R, ads, rows, _, rfl, O8, fun s' O' => hRw O' fun p hp => m3 p (l1 p hp), hsm, ?_, ?_⟩)))
  · intro C0 m' s' ad xs hxs hm' had hC O' E' Q' hQ'
    refine callF ?_
    refine nameG G (hgQ O') (hE.comp rfl) (comp_global rfl) F7.1 ⟨a7, rfl, Calls.spliced_cons (comp_free (env := env) hE rfl rfl rfl (O'.nth 1 rfl) (Calls.spliced_cons (nameL (env := compEnvC _ _ C0 env) hC (hE.comp rfl) (comp_local rfl) hm' (Calls.spliced_nil ?_))))⟩
    exact sieved_call G K (hgQ O') F7 (by omega) hh2 (hSel O' fun p hp => m3 p (l1 p hp)) had (hbd xs hxs) (by have := hsm.2 xs hxs; omega) hQ'
  intro C1 Fr fads m' s₈ hfl O9 E3
  refine wpAny_assign_Name (stL O9.rot 1 rfl hE (kind_of hs rfl) fun s₉ O10 _ _ => ⟨m', _, O10, fun s₁₀ O11 => ?_⟩)
  have O12 : Own (· = P) s s₁₀ ((env.locals, .ns (up m5 (Str.ofString "front") (.ref Fr))) :: (cS, .cell (some (.ref S))) :: (cD, .cell none) :: (rest ++ rowOs W wads rows ++ rowOs Fr fads (rows.map fun xs => xs.filter f4))) := O11
  clear O8 O9 O10 O11
  dsimp only
  have x1 : up m5 (Str.ofString "front") (.ref Fr) (Str.ofString "rows") = some (.ref R) := (up_ne _ _ (by decide)).trans w1
  have x2 : up m5 (Str.ofString "front") (.ref Fr) (Str.ofString "whole") = some (.ref W) := (up_ne _ _ (by decide)).trans w2
  have x3 : up m5 (Str.ofString "front") (.ref Fr) (Str.ofString "front") = some (.ref Fr) := up_self ..
  generalize up m5 (Str.ofString "front") (.ref Fr) = m6 at *
  have l2 : ∀ {a b : List (Addr × Pr)}, ∀ p ∈ rest, p ∈ rest ++ a ++ b := fun p hp => List.mem_append_left _ (List.mem_append_left _ hp)
  have hFr : ∀ {s' : Shared} {os : List (Addr × Pr)}, Own (· = P) s s' os → (∀ p ∈ rowOs Fr fads (rows.map fun xs => xs.filter f4), p ∈ os) → RowsAt s'.heap Fr fads (rows.map fun xs => xs.filter f4) := fun O' h => RowsAt.of O' (by simpa using hfl) h
  -- the test
  refine wpAny_execs_cons (wpAny_If (wpAny_isTrue_Compare1 (nameL (O12.nth 0 rfl) hE (kind_of hs rfl) x3 (eval_comp rfl (comp_rows (X := (· = P)) (s₀ := s) (fun xs => xs.filter f4) hE hh2 (closureFor_none (by decide)) (nameL (O12.nth 0 rfl) hE (kind_of hs rfl) x1 ⟨R, ads, rows, _, rfl, O12, fun s' O' => hRw O' fun p hp => m3 p (l2 p hp), hsm, ?_, ?_⟩))))))
  · intro C0 m' s' ad xs hxs hm' had hC O' E' Q' hQ'
    obtain ⟨vd, hvd, hvl⟩ := had.ints
    have h20 := hsm.2 xs hxs
    have hs20 : sizeLine = 16777216 := rfl
    refine eval_comp rfl (comp_ints (X := No) (s₀ := s') f4 (hE.comp rfl) hh2 (closureFor_none (by decide)) (nameL (env := compEnvC _ _ C0 env) hC (hE.comp rfl) (comp_local rfl) hm' ⟨ad, vd, xs, [], rfl, Own.refl _ _, hvd, fun s'' O'' => O''.old hvl (hno _), by omega, ?_, ?_⟩))
    · intro y ty C2 s2 mm _ hmm hC2 _ E2 Q2 hQ2
      exact wpAny_isTrue_Compare1 (nameL (env := compEnvC _ _ C2 (compEnvC _ _ C0 env)) hC2 ((hE.comp rfl).comp rfl) (comp_local rfl) hmm (wpAny_Constant_int (lt_int (wpAny_truthy_bool (hQ2 _)))))
    · intro C2 D mm s2 O2
      exact ⟨mm, _, O2, fun s3 O3 => hQ' D s3 O3⟩
  intro C2 D dads m' s₁₁ hdl O13
  refine ⟨m', _, O13, fun s₁₂ O14 => ?_⟩
  have hD : RowsAt s₁₂.heap D dads (rows.map fun xs => xs.filter f4) := RowsAt.of O14 (by simpa using hdl) (fun p hp => by
    rcases List.mem_cons.mp hp with rfl | hp
    · exact List.mem_cons_self ..
    · exact List.mem_cons_of_mem _ (List.mem_append_left _ hp))
  have O15 := O14.sub ((List.sublist_append_right ..).trans (List.sublist_cons_self ..))
  refine ne_rows (hFr O15 fun p hp => m3 p (List.mem_append_right _ hp)) hD (by omega) (wpAny_truthy_bool ?_)
  rw [if_neg (by simp)]
  refine wpAny_execs_nil ?_
  clear O12 O13 O14 hD
  dsimp only
  -- due
  refine wpAny_execs_cons (wpAny_Assign_Name (callF ?_))
  refine nameG G (hgQ O15) hE (kind_of hs rfl) F9.1 ⟨a9, rfl, Calls.spliced_cons (nameL (O15.nth 0 rfl) hE (kind_of hs rfl) x1 (Calls.spliced_nil ⟨fn_there F9 (hgQ O15), ?_⟩))⟩
  refine wpAny_mono (coming_spec G (hgQ O15) F9 (by omega) hh2 (by omega) (hRw O15 fun p hp => m3 p (l2 p hp)) hsm) (fun v s₁₃ hv => ?_) fun _ _ e => e
  obtain ⟨T, due, rfl, PT, hcom, hfree⟩ := hv
  have O16 := O15.then PT
  refine stC O16 2 rfl hE (kind_of hs rfl) kD fun s₁₄ O17 _ _ => ?_
  have O18 : Own (· = P) s s₁₄ ((env.locals, .ns m6) :: (cS, .cell (some (.ref S))) :: (cD, .cell (some (.ref T))) :: (rest ++ rowOs W wads rows ++ rowOs Fr fads (rows.map fun xs => xs.filter f4) ++ [(T, .ints due)])) := O17
  clear O15 O16 O17 PT
  have l3 : ∀ {a b c : List (Addr × Pr)}, ∀ p ∈ rest, p ∈ rest ++ a ++ b ++ c := fun p hp => List.mem_append_left _ (List.mem_append_left _ (List.mem_append_left _ hp))
  -- left
  refine wpAny_execs_cons (assign_comp rfl (swaps_true hE (kind_of hs rfl)) (comp_rows (X := (· = P)) (s₀ := s) (fun xs => xs.filter (told due)) hE hh2 (closure_one kD rfl) (nameL (O18.nth 0 rfl) hE (kind_of hs rfl) x1 ⟨R, ads, rows, _, rfl, O18, fun s' O' => hRw O' fun p hp => m3 p (l3 p hp), hsm, ?_, ?_⟩)))
  · intro C0 m' s' ad xs hxs hm' had hC O' E' Q' hQ'
    obtain ⟨vd, hvd, hvl⟩ := had.ints
    have h20 := hsm.2 xs hxs
    have hs20 : sizeLine = 16777216 := rfl
    have hT : Has s'.heap T (.ints due) := O'.has _ (m3 _ (List.mem_append_right _ (List.mem_cons_self ..)))
    refine eval_comp rfl (comp_ints (X := No) (s₀ := s') (told due) (hE.comp rfl) hh2 (closure_one (env := compEnvC _ _ C0 env) (c := cD) rfl rfl) (nameL (env := compEnvC _ _ C0 env) hC (hE.comp rfl) (comp_local rfl) hm' ⟨ad, vd, xs, [], rfl, Own.refl _ _, hvd, fun s'' O'' => O''.old hvl (hno _), by omega, ?_, ?_⟩))
    · intro y ty C2 s2 mm _ hmm hC2 O2 E2 Q2 hQ2
      obtain ⟨vst', hit', hlt'⟩ := (O2.old hT (hno _)).ints
      exact wpAny_isTrue_Compare1 (nameL (env := compEnvC _ _ C2 (compEnvC _ _ C0 env)) hC2 ((hE.comp rfl).comp rfl) (comp_local rfl) hmm (comp_free (env := compEnvC _ _ C0 env) (hE.comp rfl) rfl rfl rfl (O2.old (O'.nth 2 rfl) (hno _)) (notin_list_ints hlt'.isList hit' (wpAny_truthy_bool (hQ2 s2.toks)))))
    · intro C2 D mm s2 O2
      exact ⟨mm, _, O2, fun s3 O3 => hQ' D s3 O3⟩
  intro C3 Lf lads m' s₁₅ hll O19 E4
  refine wpAny_assign_Name (stL O19.rot 1 rfl hE (kind_of hs rfl) fun s₁₆ O20 _ _ => ⟨m', _, O20, fun s₁₇ O21 => ?_⟩)
  have O22 : Own (· = P) s s₁₇ ((env.locals, .ns (up m6 (Str.ofString "left") (.ref Lf))) :: (cS, .cell (some (.ref S))) :: (cD, .cell (some (.ref T))) :: (rest ++ rowOs W wads rows ++ rowOs Fr fads (rows.map fun xs => xs.filter f4) ++ [(T, .ints due)] ++ rowOs Lf lads (rows.map fun xs => xs.filter (told due)))) := O21
  clear O18 O19 O20 O21
  dsimp only
  have y2 : up m6 (Str.ofString "left") (.ref Lf) (Str.ofString "whole") = some (.ref W) := (up_ne _ _ (by decide)).trans x2
  have y3 : up m6 (Str.ofString "left") (.ref Lf) (Str.ofString "front") = some (.ref Fr) := (up_ne _ _ (by decide)).trans x3
  have y4 : up m6 (Str.ofString "left") (.ref Lf) (Str.ofString "left") = some (.ref Lf) := up_self ..
  generalize up m6 (Str.ofString "left") (.ref Lf) = m7 at *
  have hgX : ∀ b, b = P ∨ s.heap.get? b = none → g.get? b = none := fun b hb => by
    rcases hb with rfl | hb
    · exact hgP
    · cases e : g.get? b with
      | none => rfl
      | some o => rw [hg b o e] at hb; cases hb
  -- merged
  obtain ⟨tl, htl⟩ : ∃ tl, tl = [(T, Pr.ints due)] ++ rowOs Lf lads (rows.map fun xs => xs.filter (told due)) := ⟨_, rfl⟩
  obtain ⟨hdr, hhdr⟩ : ∃ hdr, hdr = (cS, Pr.cell (some (.ref S))) :: (cD, Pr.cell (some (.ref T))) :: rest := ⟨_, rfl⟩
  have O23 : Own (· = P) s s₁₇ ((env.locals, .ns m7) :: (rowOs W wads rows ++ (hdr ++ (rowOs Fr fads (rows.map fun xs => xs.filter f4) ++ tl)))) := by
    refine O22.perm (List.Perm.cons _ ((perm_mid hdr (rowOs W wads rows) _).trans ?_))
    rw [hhdr, htl]
    simp only [List.append_assoc, List.cons_append]
    exact List.Perm.refl _
  clear O22
  refine wpAny_execs_cons (wpAny_Assign_Name (callF ?_))
  refine nameG G (hgQ O23) hE (kind_of hs rfl) F10.1 ⟨a10, rfl, Calls.spliced_cons (nameL (O23.nth 0 rfl) hE (kind_of hs rfl) y2 (Calls.spliced_nil ⟨fn_there F10 (hgQ O23), ?_⟩))⟩
  refine wpAny_mono (merged_step G (hgQ O23) F10 (by omega) hh2 (by omega) hE hf hfr2 O23 hwl hsm hgX) (fun v8 s₁₈ hv => ?_) fun _ _ e => e
  obtain ⟨res, cur, ro8, hC3, O24, hv8⟩ := hv
  refine stL O24 0 rfl hE (kind_of hs rfl) fun s₁₉ O25 _ _ => ?_
  have O26 : Own (· = P) s s₁₉ ((env.locals, .ns (up m7 (Str.ofString "merged") v8)) :: (rowOs Fr fads (rows.map fun xs => xs.filter f4) ++ ((rowOs W wads cur ++ hdr) ++ (tl ++ ro8)))) := by
    refine O25.perm (List.Perm.cons _ ((perm_mid _ _ _).symm.trans ?_))
    simp only [List.append_assoc]
    exact List.Perm.refl _
  clear O23 O24 O25
  have z2 : up m7 (Str.ofString "merged") v8 (Str.ofString "whole") = some (.ref W) := (up_ne _ _ (by decide)).trans y2
  have z3 : up m7 (Str.ofString "merged") v8 (Str.ofString "front") = some (.ref Fr) := (up_ne _ _ (by decide)).trans y3
  have z4 : up m7 (Str.ofString "merged") v8 (Str.ofString "left") = some (.ref Lf) := (up_ne _ _ (by decide)).trans y4
  have z5 : up m7 (Str.ofString "merged") v8 (Str.ofString "merged") = some v8 := up_self ..
  generalize up m7 (Str.ofString "merged") v8 = m8 at *
  have hsmF : small (rows.map fun xs => xs.filter f4) := by
    refine ⟨by simpa using hsm.1, fun r hr => ?_⟩
    obtain ⟨r', hr', rfl⟩ := List.mem_map.mp hr
    exact Nat.le_trans (List.length_filter_le ..) (hsm.2 r' hr')
  -- parts
  refine wpAny_execs_cons (wpAny_Assign_Name (callF ?_))
  refine nameG G (hgQ O26) hE (kind_of hs rfl) F10.1 ⟨a10, rfl, Calls.spliced_cons (nameL (O26.nth 0 rfl) hE (kind_of hs rfl) z3 (Calls.spliced_nil ⟨fn_there F10 (hgQ O26), ?_⟩))⟩
  refine wpAny_mono (merged_step G (hgQ O26) F10 (by omega) hh2 (by omega) hE hf hfr2 O26 (by simpa using hfl) hsmF hgX) (fun v9 s₂₀ hv => ?_) fun _ _ e => e
  obtain ⟨res2, cur2, ro9, hC32, O27, hv9⟩ := hv
  refine stL O27 0 rfl hE (kind_of hs rfl) fun s₂₁ O28 _ _ => ?_
  -- words
  refine wpAny_execs_cons (wpAny_Assign_Name (Calls.Constant_str (k := 0) (pos := default) ?_))
  refine stL (O28.tok _) 0 rfl hE (kind_of hs rfl) fun s₂₂ O29 _ _ => ?_
  have O30 : Own (· = P) s s₂₂ ((env.locals, .ns (up (up m8 (Str.ofString "parts") v9) (Str.ofString "words") (.str (Str.ofString "Inconsistent hierarchy") s₂₁.toks))) :: (rowOs Fr fads cur2 ++ (((rowOs W wads cur ++ hdr) ++ (tl ++ ro8)) ++ ro9))) := O29
  clear O26 O27 O28 O29
  subst hrw
  have hn1 : next cur = none := by
    rcases hv8 with ⟨h, _⟩ | ⟨_, h, _⟩
    · unfold next; rw [h]; rfl
    · exact h
  have hn2 : next cur2 = none := by
    rcases hv9 with ⟨h, _⟩ | ⟨_, h, _⟩
    · unfold next; rw [h]; rfl
    · exact h
  obtain ⟨e1, e2, e3, e4⟩ := plain_all hcom hfree hC3 hn1 hC32 hn2
  have hlv : live cur = [] ↔ ((rowsOf (lawNs ns)).map (·.filter (told due))).flatten = [] := by rw [live_nil, e2]
  have hlv2 : live cur2 = [] ↔ ((rowsOf (lawNs ns)).map (·.filter (told due))).flatten.filter f4 = [] := by rw [live_nil, e4, List.filter_flatten]
  have u2 : up (up m8 (Str.ofString "parts") v9) (Str.ofString "words") (.str (Str.ofString "Inconsistent hierarchy") s₂₁.toks) (Str.ofString "whole") = some (.ref W) := (up_ne _ _ (by decide)).trans ((up_ne _ _ (by decide)).trans z2)
  have u3 : up (up m8 (Str.ofString "parts") v9) (Str.ofString "words") (.str (Str.ofString "Inconsistent hierarchy") s₂₁.toks) (Str.ofString "front") = some (.ref Fr) := (up_ne _ _ (by decide)).trans ((up_ne _ _ (by decide)).trans z3)
  have u4 : up (up m8 (Str.ofString "parts") v9) (Str.ofString "words") (.str (Str.ofString "Inconsistent hierarchy") s₂₁.toks) (Str.ofString "left") = some (.ref Lf) := (up_ne _ _ (by decide)).trans ((up_ne _ _ (by decide)).trans z4)
  have u5 : up (up m8 (Str.ofString "parts") v9) (Str.ofString "words") (.str (Str.ofString "Inconsistent hierarchy") s₂₁.toks) (Str.ofString "merged") = some v8 := (up_ne _ _ (by decide)).trans ((up_ne _ _ (by decide)).trans z5)
  have u6 : up (up m8 (Str.ofString "parts") v9) (Str.ofString "words") (.str (Str.ofString "Inconsistent hierarchy") s₂₁.toks) (Str.ofString "parts") = some v9 := (up_ne _ _ (by decide)).trans (up_self ..)
  have u7 : up (up m8 (Str.ofString "parts") v9) (Str.ofString "words") (.str (Str.ofString "Inconsistent hierarchy") s₂₁.toks) (Str.ofString "words") = some (.str (Str.ofString "Inconsistent hierarchy") s₂₁.toks) := up_self ..
  generalize up (up m8 (Str.ofString "parts") v9) (Str.ofString "words") (.str (Str.ofString "Inconsistent hierarchy") s₂₁.toks) = m9 at *
  obtain ⟨big, hbig⟩ : ∃ big, big = (env.locals, Pr.ns m9) :: (rowOs Fr fads cur2 ++ (((rowOs W wads cur ++ hdr) ++ (tl ++ ro8)) ++ ro9)) := ⟨_, rfl⟩
  have memF : ∀ p ∈ rowOs Fr fads cur2, p ∈ big := fun p hp => by rw [hbig]; exact List.mem_cons_of_mem _ (List.mem_append_left _ hp)
  have memI : ∀ p ∈ ((rowOs W wads cur ++ hdr) ++ (tl ++ ro8)) ++ ro9, p ∈ big := fun p hp => by rw [hbig]; exact List.mem_cons_of_mem _ (List.mem_append_right _ hp)
  have memW : ∀ p ∈ rowOs W wads cur, p ∈ big := fun p hp => memI p (List.mem_append_left _ (List.mem_append_left _ (List.mem_append_left _ hp)))
  have memH : ∀ p ∈ hdr, p ∈ big := fun p hp => memI p (List.mem_append_left _ (List.mem_append_left _ (List.mem_append_right _ hp)))
  have memT : ∀ p ∈ tl, p ∈ big := fun p hp => memI p (List.mem_append_left _ (List.mem_append_right _ (List.mem_append_left _ hp)))
  have mem8 : ∀ p ∈ ro8, p ∈ big := fun p hp => memI p (List.mem_append_left _ (List.mem_append_right _ (List.mem_append_right _ hp)))
  have mem9 : ∀ p ∈ ro9, p ∈ big := fun p hp => memI p (List.mem_append_right _ hp)
  have memL : (env.locals, Pr.ns m9) ∈ big := by rw [hbig]; exact List.mem_cons_self ..
  rw [← hbig] at O30
  clear hbig memI
  have memR : ∀ p ∈ rest, p ∈ big := fun p hp => memH p (by rw [hhdr]; exact List.mem_cons_of_mem _ (List.mem_cons_of_mem _ hp))
  have hLf : RowsAt s₂₂.heap Lf lads ((rowsOf (lawNs ns)).map (·.filter (told due))) := RowsAt.of O30 (by simpa using hll) fun p hp => memT p (by rw [htl]; exact List.mem_append_right _ hp)
  have hW : RowsAt s₂₂.heap W wads ((rowsOf (lawNs ns)).map (·.filter (told due))) := e2 ▸ RowsAt.of O30 (by rw [hC3.len]; exact hwl) memW
  have hF : RowsAt s₂₂.heap Fr fads (((rowsOf (lawNs ns)).map (·.filter (told due))).map (·.filter f4)) := e4 ▸ RowsAt.of O30 (by rw [hC32.len]; simpa using hfl) memF
  refine wpAny_mono (law_tail (cS := cS) (cD := cD) G K (hgQ O30) (by omega) hh2 (by omega) hE hs kS kD (O30.has _ memL) (O30.has (cS, .cell (some (.ref S))) (memH _ (by rw [hhdr]; exact List.mem_cons_self ..))) (O30.has (cD, .cell (some (.ref T))) (memH _ (by rw [hhdr]; exact List.mem_cons_of_mem _ (List.mem_cons_self ..))))
    u4 u5 u6 u7 u2 u3 (O30.has (T, .ints due) (memT _ (by rw [htl]; exact List.mem_cons_self ..))) (hSel O30 memR) hLf hW hF ?_ ?_ ?_ ?_ ?_ (coming_len hsm hcom)) (fun f s' hf => ?_) fun _ _ e => e
  · rcases hv8 with ⟨h, Rs, rfl, hm⟩ | ⟨h, _, tk, rfl⟩
    · exact .inl ⟨hlv.mp h, Rs, rfl, e1 ▸ O30.has _ (mem8 _ hm)⟩
    · exact .inr ⟨fun e => h (hlv.mpr e), tk, rfl⟩
  · rcases hv9 with ⟨h, Rs, rfl, hm⟩ | ⟨h, _, tk, rfl⟩
    · exact .inl ⟨hlv2.mp h, Rs, rfl, e3 ▸ O30.has _ (mem9 _ hm)⟩
    · exact .inr ⟨fun e => h (hlv2.mpr e), tk, rfl⟩
  · refine ⟨by simpa using hsm.1, fun r hr => ?_⟩
    obtain ⟨r', hr', rfl⟩ := List.mem_map.mp hr
    exact Nat.le_trans (List.length_filter_le ..) (hsm.2 r' hr')
  · intro r hr x hx
    obtain ⟨r', hr', rfl⟩ := List.mem_map.mp hr
    exact hbd r' hr' x (List.mem_filter.mp hx).1
  · intro x hx
    obtain ⟨r, hr, hxr⟩ := List.mem_flatten.mp (coming_mem hcom x hx)
    exact hbd r hr x hxr
  · obtain ⟨rfl, PT⟩ := hf
    exact ⟨rfl, ps, (O30.then PT).sub (List.singleton_sublist.mpr (List.mem_append_left _ (memR _ hPm)))⟩
end
end Mine

namespace Mine
open_top hd for PySem.Challenge.rw_nq0025_01

theorem fn_of_K {K : Frag} {g : Heap} {mg : Str → Option Value} (X : K.In g) (Gn : g.Ns mainGlobals mg) {n : Nat} {a c : Addr} {pm doc : Value} {o oc : Obj} {vs : Array Value} {t : Tok} (h1 : nsIn K mainGlobals (defAt n).name = some (some (.ref a))) (h2 : K.lookup a = some o)
    (h3 : o.data = .func (defFd n pm (.ref c) doc)) (h4 : K.lookup c = some oc) (h5 : oc.data = .fields vs) (h6 : vs[1]? = some (.str (defAt n).name t)) : FnAt mg g n a :=
  ⟨mg_of X Gn h1, o, pm, .ref c, doc, X _ _ h2, h3, c, oc, vs, t, rfl, X _ _ h4, h5, h6⟩

theorem joined : PySem.Challenge.rw_nq0025_01.Holds := by
  refine hd ?_
  intro w s₀ s₁ mg mb G Y fa o pm cd doc dV kV ho hd hcd hD hmg hg args vals as hpre hlay hrd hwl hlo
  have KX := km_in_of Y
  have hT16 := km_tabs_of Y 16 (by decide)
  have T := G.T
  clear Y
  wrow_args hpre hlay hrd hwl hlo
  rename_i ns _ _ _ _ _ _ _ l vs _ hl _ _ _ hi _ hlen _
  have hTabs : TabsAt [(20, 16)] s₁.heap := fun q hq => by
    rcases List.mem_singleton.mp hq with rfl
    exact ⟨codeHd_of_K KX (by kernel_rfl), hT16⟩
  have KG := ghost_K hTabs KX (by kernel_rfl)
  have hsub : Sub (ghostOf s₁.heap [(20, 16)]) s₁.heap := fun b o e => of_hideAll _ e
  have hg16 : (ghostOf s₁.heap [(20, 16)]).get? 16 = none := hideAll_none _ (by simp)
  have Gg := ghost_ns hTabs T.g
  have Gb := ghost_ns hTabs T.b
  have TG := ghost_top hTabs T
  have Cd : CodeHd (ghostOf s₁.heap [(20, 16)]) 20 16 := (ghost_code hTabs).1
  have hcds := fun a1 o (pm cd doc : Value) (h1 : mg (defAt 1).name = some (.ref a1)) (h2 : (ghostOf s₁.heap [(20, 16)]).get? a1 = some o) (h3 : o.data = .func (defFd 1 pm cd doc)) =>
    (law_code (x := (defAt 1).name) (c := 20) (P := 16) KG Gg (by kernel_rfl) h1 h2 h3 : cd = .ref 20)
  generalize hgg : ghostOf s₁.heap [(20, 16)] = g at *
  have f1 : FnAt mg g 1 21 := fn_of_K KG Gg (by kernel_rfl) rfl rfl rfl rfl rfl
  have f4' : FnAt mg g 4 47 := fn_of_K KG Gg (by kernel_rfl) rfl rfl rfl rfl rfl
  have f6 : FnAt mg g 6 54 := fn_of_K KG Gg (by kernel_rfl) rfl rfl rfl rfl rfl
  have f7 : FnAt mg g 7 59 := fn_of_K KG Gg (by kernel_rfl) rfl rfl rfl rfl rfl
  have f8 : FnAt mg g 8 64 := fn_of_K KG Gg (by kernel_rfl) rfl rfl rfl rfl rfl
  have f9 : FnAt mg g 9 69 := fn_of_K KG Gg (by kernel_rfl) rfl rfl rfl rfl rfl
  have f10 : FnAt mg g 10 76 := fn_of_K KG Gg (by kernel_rfl) rfl rfl rfl rfl rfl
  have f11 : FnAt mg g 11 81 := fn_of_K KG Gg (by kernel_rfl) rfl rfl rfl rfl rfl
  have e37 := KG 37 _ rfl
  have GFg : GF mg mb g := ⟨Gg, Gb, TG.nolimit, T.builtins, fun n hn => by
      simp only [List.mem_cons, List.not_mem_nil, or_false] at hn
      rcases hn with rfl | rfl | rfl | rfl | rfl | rfl | rfl
      · exact ⟨_, f1⟩
      · exact ⟨_, f4'⟩
      · exact ⟨_, f6⟩
      · exact ⟨_, f7⟩
      · exact ⟨_, f8⟩
      · exact ⟨_, f9⟩
      · exact ⟨_, f10⟩, fun x hx => by
      simp only [List.mem_cons, List.not_mem_nil, or_false] at hx
      rcases hx with rfl | rfl | rfl | rfl | rfl | rfl | rfl | rfl | rfl <;> exact ns_none_of KG Gg (by kernel_rfl)⟩
  have N37 : g.Ns 37 (g.nsMap 37) := .of_isNs (isNs_of_in KG (by kernel_rfl))
  have GCg : GC mg g 38 37 (g.nsMap 37) := ⟨mg_of KG Gg (by kernel_rfl), ⟨⟨_, _, _, _, _, _, _, _, _, _, _, _, KG 38 _ rfl⟩, N37⟩,
    ⟨35, _, _, _, .ref 34, _, by unfold Heap.nsMap; rw [e37]; rfl, KG 35 _ rfl, rfl, rfl, 34, _, _, _, rfl, KG 34 _ rfl, rfl, rfl⟩, fun x hx => by
      simp only [List.mem_cons, List.not_mem_nil, or_false] at hx
      rcases hx with rfl | rfl | rfl | rfl | rfl <;> exact ns_none_of KG N37 (by kernel_rfl)⟩
  obtain ⟨bm, ob, b1, b2, b3, b4, b5, b6⟩ := TG.bmain
  have hB : g.BuiltinsAt mg 16 := by
    refine ⟨bm, ob, b1, b2, fun e => ?_, fun e => ?_, b3, b4, b5, b6⟩
    · obtain ⟨o', es, ep, q1, q2, _⟩ := Gg
      rw [e, q1] at b3; cases b3
      rw [b6] at q2; cases q2
    · rw [e, hg16] at b3; cases b3
  have hfa : fa = 81 := by
    have h1 : mg (defAt 11).name = some (.ref fa) := hmg
    rw [f11.1] at h1; cases h1; rfl
  subst hfa
  refine wpAny_mono (law_spec (ns := ns) GFg GCg hsub f11 (by decide) rfl (by decide) rfl hl hi (by omega) hcds Cd hT16 hg16 hB) (fun v s' hv => ?_) fun _ _ e => e
  obtain ⟨rfl, ps, O⟩ := hv
  obtain ⟨o16, h16, hps⟩ := O.nth 0 rfl
  have hps' : o16 = tabObj ps := hps
  subst hps'
  refine ⟨.inl ⟨_, .bool true, [], rfl, ?_, .bool true, ?_, fun _ => ⟨.nil, fun a ha => absurd ha List.not_mem_nil⟩⟩, ⟨fun b o' e => ?_, fun b o' e => ?_⟩, O.kp.os, O.kp.bare (.of_eq hg)⟩
  · intro cls; rfl
  · wrow_post
  · by_cases hb : b = 16
    · subst hb
      rw [hT16] at e; cases e
      exact .inr (.inl ⟨((hTabs (20, 16) (List.mem_cons_self ..)).1.tab hT16).isCodeTable, rfl, #[], ps, rfl, by rw [Array.empty_append]; exact h16⟩)
    · exact .inl (O.kp.get b o' hb e)
  · by_cases hb : b = 16
    · subst hb; exact ⟨_, h16⟩
    · exact ⟨o', O.kp.get b o' hb e⟩
end Mine

theorem PySem.Challenge.cw_nq0025_01_holds : PySem.Challenge.rw_nq0025_01.Holds :=
  Mine.joined
