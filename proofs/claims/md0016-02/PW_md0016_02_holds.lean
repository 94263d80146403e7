import PyProof.Rows.All
import Wide.All
import OpenK.AllK
import Wide.FinOn
import Lean
import PySem.Challenge.RW_md0016_02
open PySem PySem.W PyProof.Rows
set_option Elab.async false
set_option linter.all false
set_option linter.unusedVariables false
set_option linter.unusedSimpArgs false
namespace Mine
set_option maxRecDepth 100000 in
set_option maxHeartbeats 8000000 in
open_top topw for PySem.Challenge.rw_md0016_02

inductive Loc where
  | val (d : PyData)
  | own (ds : List PyData)

abbrev Locs := List (Str × Loc)
def gt (m : Locs) (x : Str) : Option Loc := List.lookup x m
def st : Locs → Str → Loc → Locs
  | [], x, l => [(x, l)]
  | (y, k) :: r, x, l => if x == y then (y, l) :: r else (y, k) :: st r x l

theorem gt_st (m : Locs) (x : Str) (l : Loc) (y : Str) : gt (st m x l) y = if y = x then some l else gt m y := by
  induction m with
  | nil =>
    unfold st gt
    by_cases h : y = x
    · subst h; simp
    · rw [if_neg h, List.lookup_cons]
      have : (y == x) = false := by simpa using h
      rw [this]
  | cons p r ih =>
    obtain ⟨z, k⟩ := p
    unfold st
    by_cases hz : x = z
    · subst hz
      simp only [beq_self_eq_true, if_true]
      unfold gt
      rw [List.lookup_cons, List.lookup_cons]
      by_cases h : y = x
      · subst h; simp
      · have : (y == x) = false := by simpa using h
        rw [this, if_neg h]
    · have hb : (x == z) = false := by simpa using hz
      rw [hb]
      simp only [Bool.false_eq_true, if_false]
      unfold gt at ih ⊢
      rw [List.lookup_cons, List.lookup_cons]
      by_cases hy : y = z
      · subst hy
        rw [if_neg (fun e => hz e.symm)]
        simp
      · have : (y == z) = false := by simpa using hy
        rw [this]
        exact ih

mutual
inductive Rd (h : Heap) : Value → PyData → List Addr → Prop
  | none : Rd h .none .none []
  | bool (b) : Rd h (.bool b) (.bool b) []
  | int (i t) : Rd h (.int i t) (.int i) []
  | list {a vs xs as} : h.PlainList a vs → RdAll h vs.toList xs as → Rd h (.ref a) (.list xs) (a :: as)
inductive RdAll (h : Heap) : List Value → List PyData → List Addr → Prop
  | nil : RdAll h [] [] []
  | cons {v vs d ds as bs} : Rd h v d as → RdAll h vs ds bs → RdAll h (v :: vs) (d :: ds) (as ++ bs)
end
mutual
theorem Rd.at {h h' : Heap} : ∀ {v : Value} {d : PyData} {as : List Addr}, Rd h v d as → (∀ a ∈ as, ∀ o, h.get? a = some o → h'.get? a = some o) → Rd h' v d as
  | _, _, _, .none, _ => .none
  | _, _, _, .bool b, _ => .bool b
  | _, _, _, .int i t, _ => .int i t
  | _, _, _, .list (a := a) i q, k => .list (i.at (k a (.head _))) (RdAll.at q fun b hb => k b (.tail _ hb))
theorem RdAll.at {h h' : Heap} : ∀ {vs : List Value} {ds : List PyData} {as : List Addr}, RdAll h vs ds as → (∀ a ∈ as, ∀ o, h.get? a = some o → h'.get? a = some o) → RdAll h' vs ds as
  | _, _, _, .nil, _ => .nil
  | _, _, _, .cons r q, k => .cons (Rd.at r fun b hb => k b (List.mem_append_left _ hb)) (RdAll.at q fun b hb => k b (List.mem_append_right _ hb))
end
mutual
theorem Rd.lists {h : Heap} : ∀ {v : Value} {d : PyData} {as : List Addr}, Rd h v d as → ∀ a ∈ as, ∃ vs, h.PlainList a vs
  | _, _, _, .none, _, hm => nomatch hm
  | _, _, _, .bool b, _, hm => nomatch hm
  | _, _, _, .int i t, _, hm => nomatch hm
  | _, _, _, .list i q, b, hm => by
    rcases List.mem_cons.mp hm with rfl | hm
    · exact ⟨_, i⟩
    · exact RdAll.lists q b hm
theorem RdAll.lists {h : Heap} : ∀ {vs : List Value} {ds : List PyData} {as : List Addr}, RdAll h vs ds as → ∀ a ∈ as, ∃ vs, h.PlainList a vs
  | _, _, _, .nil, _, hm => nomatch hm
  | _, _, _, .cons r q, b, hm => by
    rcases List.mem_append.mp hm with hm | hm
    · exact Rd.lists r b hm
    · exact RdAll.lists q b hm
end
theorem Rd.keeps {h h' : Heap} (k : ∀ b o, h.get? b = some o → h'.get? b = some o) {v : Value} {d : PyData} {as : List Addr} (r : Rd h v d as) : Rd h' v d as := r.at fun a _ o => k a o
theorem RdAll.keeps {h h' : Heap} (k : ∀ b o, h.get? b = some o → h'.get? b = some o) {v : List Value} {d : List PyData} {as : List Addr} (r : RdAll h v d as) : RdAll h' v d as := r.at fun a _ o => k a o
theorem RdAll.length {h : Heap} : ∀ {vs : List Value} {ds : List PyData} {as : List Addr}, RdAll h vs ds as → vs.length = ds.length
  | _, _, _, .nil => rfl
  | _, _, _, .cons r q => congrArg (· + 1) q.length
def PI (ns : List Int) : List PyData := ns.map .int
theorem RdAll.ofPI {h : Heap} : ∀ {ns : List Int} {vs : List Value} {as : List Addr}, RdAll h vs (PI ns) as → as = [] ∧ ∀ i (hi : i < ns.length), ∃ t, vs[i]? = some (.int ns[i] t)
  | [], _, _, .nil => ⟨rfl, fun i hi => absurd hi (Nat.not_lt_zero _)⟩
  | n :: ns, _, _, .cons r q => by
    obtain ⟨e, f⟩ := RdAll.ofPI (ns := ns) q
    subst e
    cases r
    refine ⟨rfl, fun i hi => ?_⟩
    cases i with
    | zero => exact ⟨_, rfl⟩
    | succ i => simpa using f i (Nat.lt_of_succ_lt_succ hi)
theorem rdAll_of_ints {h : Heap} : ∀ (ns : List Int) (vs : List Value), vs.length = ns.length → (∀ i (hi : i < ns.length), ∃ t, vs[i]? = some (.int ns[i] t)) → RdAll h vs (PI ns) []
  | [], [], _, _ => .nil
  | n :: ns, v :: vs, hl, f => by
    obtain ⟨t, e⟩ := f 0 (Nat.succ_pos _)
    cases e
    have := rdAll_of_ints (h := h) ns vs (Nat.succ.inj hl) fun i hi => by simpa using f (i + 1) (Nat.succ_lt_succ hi)
    exact .cons (as := []) (.int n t) this

abbrev Owns := List (Str × Addr)

def Bound (env : Env) (h : Heap) (x : Str) (v : Value) : Prop :=
  (env.kindOf x = some .local ∧ ∃ mr, h.Ns env.locals mr ∧ mr x = some v) ∨
  (env.kindOf x = some .cell ∧ ∃ c, env.cells.lookup x = some c ∧ h.IsCell c (some v))

def LocRel (h : Heap) (O : Owns) (x : Str) (v : Value) : Loc → Prop
  | .val d => ∃ as, Rd h v d as ∧ ∀ a ∈ as, ∀ y, (y, a) ∉ O
  | .own ds => ∃ a vs as, v = .ref a ∧ (x, a) ∈ O ∧ h.PlainList a vs ∧ RdAll h vs.toList ds as ∧ ∀ b ∈ as, ∀ y, (y, b) ∉ O

structure St (h₀ : Heap) (env : Env) (O : Owns) (m : Locs) (h : Heap) : Prop where
  ground : ∀ b o, h₀.get? b = some o → h.get? b = some o
  frame : ∃ mr, h.Ns env.locals mr
  cells : ∀ x c, (x, c) ∈ env.cells → ∃ v, h.IsCell c v
  apart : env.cells.Pairwise fun x y => x.2 ≠ y.2
  newL : h₀.get? env.locals = none
  newC : ∀ x c, (x, c) ∈ env.cells → h₀.get? c = none
  newO : ∀ x a, (x, a) ∈ O → h₀.get? a = none
  lists : ∀ x a, (x, a) ∈ O → ∃ vs, h.PlainList a vs
  uniq : ∀ x y a, (x, a) ∈ O → (y, a) ∈ O → x = y
  vars : ∀ x l, gt m x = some l → ∃ v, Bound env h x v ∧ LocRel h O x v l

structure Ext (s s' : Shared) : Prop where
  keep : ∀ b o, s.heap.get? b = some o → s'.heap.get? b = some o
  same : ∃ h tk, s' = { s with heap := h, toks := tk }

theorem Ext.refl (s : Shared) : Ext s s := ⟨fun _ _ e => e, s.heap, s.toks, rfl⟩
theorem Ext.tok (s : Shared) (t : Nat) : Ext s { s with toks := t } := ⟨fun _ _ e => e, s.heap, t, rfl⟩
theorem Ext.trans {s s' s'' : Shared} (a : Ext s s') (b : Ext s' s'') : Ext s s'' := by
  refine ⟨fun x o e => b.keep x o (a.keep x o e), ?_⟩
  obtain ⟨h, tk, rfl⟩ := a.same
  obtain ⟨h', tk', rfl⟩ := b.same
  exact ⟨h', tk', rfl⟩
theorem Ext.push {s s' : Shared} (a : Ext s s') (o : Obj) (t : Nat) : Ext s { s' with heap := s'.heap.push o, toks := t } := by
  refine ⟨fun x ob e => Heap.get?_push_of_some _ (a.keep x ob e), ?_⟩
  obtain ⟨h, tk, rfl⟩ := a.same
  exact ⟨_, t, rfl⟩
theorem Ext.fresh {s s' : Shared} (a : Ext s s') {b : Addr} (e : s'.heap.get? b = none) : s.heap.get? b = none := by
  cases q : s.heap.get? b with
  | none => rfl
  | some o => rw [a.keep b o q] at e; cases e

theorem Bound.keeps {env : Env} {h h' : Heap} {x : Str} {v : Value} (b : Bound env h x v) (k : ∀ a o, h.get? a = some o → h'.get? a = some o) : Bound env h' x v :=
  b.imp (fun ⟨e, mr, n, v⟩ => ⟨e, mr, n.keeps k, v⟩) fun ⟨e, c, l, i⟩ => ⟨e, c, l, i.keeps k⟩
theorem isList_keeps {h h' : Heap} {a : Addr} {vs : Array Value} (x : h.PlainList a vs) (k : ∀ a o, h.get? a = some o → h'.get? a = some o) : h'.PlainList a vs :=
  x.at fun o => k a o
theorem LocRel.keeps {h h' : Heap} {O : Owns} {x : Str} {v : Value} {l : Loc} (r : LocRel h O x v l) (k : ∀ a o, h.get? a = some o → h'.get? a = some o) : LocRel h' O x v l := by
  cases l with
  | val d => obtain ⟨as, r, n⟩ := r; exact ⟨as, Rd.keeps k r, n⟩
  | own ds => obtain ⟨a, vs, as, e, o, i, r, n⟩ := r; exact ⟨a, vs, as, e, o, isList_keeps i k, RdAll.keeps k r, n⟩
theorem St.keeps {h₀ : Heap} {env : Env} {O : Owns} {m : Locs} {h h' : Heap} (S : St h₀ env O m h) (k : ∀ a o, h.get? a = some o → h'.get? a = some o) : St h₀ env O m h' where
  ground b o e := k b o (S.ground b o e)
  frame := let ⟨mr, n⟩ := S.frame; ⟨mr, n.keeps k⟩
  cells x c hm := let ⟨v, i⟩ := S.cells x c hm; ⟨v, i.keeps k⟩
  apart := S.apart
  newL := S.newL
  newC := S.newC
  newO := S.newO
  lists x a hm := let ⟨vs, i⟩ := S.lists x a hm; ⟨vs, isList_keeps i k⟩
  uniq := S.uniq
  vars x l e := let ⟨v, b, r⟩ := S.vars x l e; ⟨v, b.keeps k, r.keeps k⟩
theorem St.ext {h₀ : Heap} {env : Env} {O : Owns} {m : Locs} {s s' : Shared} (S : St h₀ env O m s.heap) (x : Ext s s') : St h₀ env O m s'.heap := S.keeps x.keep

inductive Cls where
  | any | plain | ret | fresh
def Foot (O : Owns) (s : Shared) : Cls → Addr → Prop
  | .any, _ => True
  | .plain, a => ∀ x, (x, a) ∉ O
  | .ret, a => s.heap.get? a = none ∨ ∃ x, (x, a) ∈ O
  | .fresh, a => s.heap.get? a = none

section
variable (p : Program) (w : World) (h₀ : Heap) (A : Around) (env : Env)

def Ev (c : Cls) (m : Locs) (e : Expr) (k : PyData → Prop) : Prop :=
  ∀ (s : Shared) (O : Owns) (Q : Value → Shared → Prop) (E : Value → Shared → Prop), St h₀ env O m s.heap →
    (∀ v d as s', Ext s s' → Rd s'.heap v d as → (∀ a ∈ as, Foot O s c a) → k d → Q v s') → wpAny (model p w) A (eval e env) Q E s
def EvI (m : Locs) (e : Expr) (k : Int → Prop) : Prop :=
  ∀ (s : Shared) (O : Owns) (Q : Value → Shared → Prop) (E : Value → Shared → Prop), St h₀ env O m s.heap →
    (∀ i t s', Ext s s' → k i → Q (.int i t) s') → wpAny (model p w) A (eval e env) Q E s
def EvB (m : Locs) (e : Expr) (k : Bool → Prop) : Prop :=
  ∀ (s : Shared) (O : Owns) (Q : Value → Shared → Prop) (E : Value → Shared → Prop), St h₀ env O m s.heap →
    (∀ b s', Ext s s' → k b → Q (.bool b) s') → wpAny (model p w) A (eval e env) Q E s
def EvN (m : Locs) (e : Expr) (k : List PyData → Prop) : Prop :=
  ∀ (s : Shared) (O : Owns) (Q : Value → Shared → Prop) (E : Value → Shared → Prop), St h₀ env O m s.heap →
    (∀ a vs as ds s', Ext s s' → s.heap.get? a = none → s'.heap.PlainList a vs → RdAll s'.heap vs.toList ds as → (∀ b ∈ as, s.heap.get? b = none ∧ b ≠ a) → k ds → Q (.ref a) s') →
    wpAny (model p w) A (eval e env) Q E s
def Tst (m : Locs) (e : Expr) (k : Bool → Prop) : Prop :=
  ∀ (s : Shared) (O : Owns) (Q : Bool → Shared → Prop) (E : Value → Shared → Prop), St h₀ env O m s.heap →
    (∀ b s', Ext s s' → k b → Q b s') → wpAny (model p w) A (isTrue e env (eval e env)) Q E s
end

section
variable {p : Program} {w : World} {h₀ : Heap} {A : Around} {env : Env} {m : Locs}

theorem ev_int {c : Cls} {e : Expr} {k : PyData → Prop} (h : EvI p w h₀ A env m e fun i => k (.int i)) : Ev p w h₀ A env c m e k := fun s O Q E S hQ =>
  h s O Q E S fun i t s' x hk => hQ _ _ [] s' x (.int i t) (fun _ h => nomatch h) hk
theorem ev_bool {c : Cls} {e : Expr} {k : PyData → Prop} (h : EvB p w h₀ A env m e fun b => k (.bool b)) : Ev p w h₀ A env c m e k := fun s O Q E S hQ =>
  h s O Q E S fun b s' x hk => hQ _ _ [] s' x (.bool b) (fun _ h => nomatch h) hk

theorem evI_const {i : Int} {j : Nat} {pos : Pos} {k : Int → Prop} (h : k i) : EvI p w h₀ A env m (.Constant (.int i) j pos) k := fun s _ _ _ _ hQ =>
  wpAny_Constant_int (hQ _ _ _ (Ext.tok s _) h)
theorem evB_const {b : Bool} {j : Nat} {pos : Pos} {k : Bool → Prop} (h : k b) : EvB p w h₀ A env m (.Constant (.bool b) j pos) k := fun s _ _ _ _ hQ =>
  Constant_bool (hQ _ _ (Ext.refl s) h)

theorem load_bound {s : Shared} {E : Value → Shared → Prop} {x : Str} {pos : Pos} {v : Value} {Q : Value → Shared → Prop} (hk : env.scope.kind = .function) (b : Bound env s.heap x v) (h : Q v s) (hd : (x == ("__debug__" : Str)) = false) :
    wpAny (model p w) A (eval (.Name x pos) env) Q E s := by
  refine wpAny_Name ?_ hd
  rcases b with ⟨hl, mr, n, e⟩ | ⟨hl, c, hc, i⟩
  · exact wpAny_loadName_local hk hl n e h
  · exact wpAny_loadName_cell hk hl hc i h

theorem evI_name {x : Str} {pos : Pos} {i : Int} {k : Int → Prop} (hk : env.scope.kind = .function) (hx : gt m x = some (.val (.int i))) (h : k i) (hd : (x == ("__debug__" : Str)) = false := by decide) :
    EvI p w h₀ A env m (.Name x pos) k := fun s O Q E S hQ => by
  obtain ⟨v, b, as, r, _⟩ := S.vars x _ hx
  cases r
  exact load_bound hk b (hQ _ _ _ (Ext.refl s) h) hd
theorem evB_name {x : Str} {pos : Pos} {i : Bool} {k : Bool → Prop} (hk : env.scope.kind = .function) (hx : gt m x = some (.val (.bool i))) (h : k i) (hd : (x == ("__debug__" : Str)) = false := by decide) :
    EvB p w h₀ A env m (.Name x pos) k := fun s O Q E S hQ => by
  obtain ⟨v, b, as, r, _⟩ := S.vars x _ hx
  cases r
  exact load_bound hk b (hQ _ _ (Ext.refl s) h) hd
theorem ev_name {x : Str} {pos : Pos} {d : PyData} {k : PyData → Prop} (hk : env.scope.kind = .function) (hx : gt m x = some (.val d)) (h : k d) (hd : (x == ("__debug__" : Str)) = false := by decide) :
    Ev p w h₀ A env .plain m (.Name x pos) k := fun s O Q E S hQ => by
  obtain ⟨v, b, as, r, n⟩ := S.vars x _ hx
  exact load_bound hk b (hQ _ _ _ _ (Ext.refl s) r n h) hd
def Loc.data : Loc → PyData
  | .val d => d
  | .own ds => .list ds
theorem reads_list {h : Heap} {a : Addr} {vs : Array Value} {ds : List PyData} {as : List Addr} (i : h.PlainList a vs) (r : RdAll h vs.toList ds as) : Rd h (.ref a) (.list ds) (a :: as) :=
  .list i r
theorem locRel_reads {h : Heap} {O : Owns} {x : Str} {v : Value} {l : Loc} (r : LocRel h O x v l) : ∃ as, Rd h v l.data as := by
  cases l with
  | val d => obtain ⟨as, r, _⟩ := r; exact ⟨as, r⟩
  | own ds => obtain ⟨a, vs, as, rfl, _, i, r, _⟩ := r; exact ⟨_, reads_list i r⟩
theorem ev_nameAny {x : Str} {pos : Pos} {l : Loc} {k : PyData → Prop} (hk : env.scope.kind = .function) (hx : gt m x = some l) (h : k l.data) (hd : (x == ("__debug__" : Str)) = false := by decide) :
    Ev p w h₀ A env .any m (.Name x pos) k := fun s O Q E S hQ => by
  obtain ⟨v, b, r⟩ := S.vars x _ hx
  obtain ⟨as, r⟩ := locRel_reads r
  exact load_bound hk b (hQ _ _ _ _ (Ext.refl s) r (fun _ _ => trivial) h) hd

-- arithmetic
theorem evI_add {l r : Expr} {pos : Pos} {k : Int → Prop} (h : EvI p w h₀ A env m l fun a => EvI p w h₀ A env m r fun b => k (a + b)) : EvI p w h₀ A env m (.BinOp l .Add r pos) k :=
  fun s O Q E S hQ => wpAny_BinOp (h s O _ E S fun _ _ _ x₁ h₁ => h₁ _ O _ E (S.ext x₁) fun _ _ s₂ x₂ h₂ => PySem.P.add_int (hQ _ _ _ ((x₁.trans x₂).trans (Ext.tok s₂ _)) h₂))
theorem evI_sub {l r : Expr} {pos : Pos} {k : Int → Prop} (h : EvI p w h₀ A env m l fun a => EvI p w h₀ A env m r fun b => k (a - b)) : EvI p w h₀ A env m (.BinOp l .Sub r pos) k :=
  fun s O Q E S hQ => wpAny_BinOp (h s O _ E S fun _ _ _ x₁ h₁ => h₁ _ O _ E (S.ext x₁) fun _ _ s₂ x₂ h₂ => PySem.P.sub_int (hQ _ _ _ ((x₁.trans x₂).trans (Ext.tok s₂ _)) h₂))
theorem evI_mul {l r : Expr} {pos : Pos} {k : Int → Prop} (h : EvI p w h₀ A env m l fun a => EvI p w h₀ A env m r fun b => IntMulOk a b ∧ k (a * b)) : EvI p w h₀ A env m (.BinOp l .Mult r pos) k :=
  fun s O Q E S hQ => wpAny_BinOp (h s O _ E S fun _ _ _ x₁ h₁ => h₁ _ O _ E (S.ext x₁) fun _ _ s₂ x₂ h₂ => PySem.P.mul_int (hQ _ _ _ ((x₁.trans x₂).trans (Ext.tok s₂ _)) h₂.2) h₂.1)
theorem evI_div {l r : Expr} {pos : Pos} {k : Int → Prop} (h : EvI p w h₀ A env m l fun a => EvI p w h₀ A env m r fun b => (b ≠ 0 ∧ b.natAbs < 1073741824) ∧ k (a.fdiv b)) : EvI p w h₀ A env m (.BinOp l .FloorDiv r pos) k :=
  fun s O Q E S hQ => wpAny_BinOp (h s O _ E S fun _ _ _ x₁ h₁ => h₁ _ O _ E (S.ext x₁) fun _ _ s₂ x₂ h₂ => floordiv_int h₂.1.1 (hQ _ _ _ ((x₁.trans x₂).trans (Ext.tok s₂ _)) h₂.2) (.inl (PyProof.noPylong_small h₂.1.2)))
theorem evI_mod {l r : Expr} {pos : Pos} {k : Int → Prop} (h : EvI p w h₀ A env m l fun a => EvI p w h₀ A env m r fun b => b ≠ 0 ∧ k (a.fmod b)) : EvI p w h₀ A env m (.BinOp l .Mod r pos) k :=
  fun s O Q E S hQ => wpAny_BinOp (h s O _ E S fun _ _ _ x₁ h₁ => h₁ _ O _ E (S.ext x₁) fun _ _ s₂ x₂ h₂ => mod_int' h₂.1 (hQ _ _ _ ((x₁.trans x₂).trans (Ext.tok s₂ _)) h₂.2))
theorem evI_shl {l r : Expr} {pos : Pos} {k : Int → Prop} (h : EvI p w h₀ A env m l fun a => EvI p w h₀ A env m r fun b => (0 ≤ b ∧ b ≤ 1000000 ∧ a.natAbs < 2 ^ 64) ∧ k (a * 2 ^ b.toNat)) : EvI p w h₀ A env m (.BinOp l .LShift r pos) k :=
  fun s O Q E S hQ => wpAny_BinOp (h s O _ E S fun _ _ _ x₁ h₁ => h₁ _ O _ E (S.ext x₁) fun _ _ s₂ x₂ h₂ => lshift_int_small h₂.1.1 h₂.1.2.1 h₂.1.2.2 (hQ _ _ _ ((x₁.trans x₂).trans (Ext.tok s₂ _)) h₂.2))
theorem evI_and {l r : Expr} {pos : Pos} {k : Int → Prop} (h : EvI p w h₀ A env m l fun a => EvI p w h₀ A env m r fun b => k (Builtin.bitAnd a b)) : EvI p w h₀ A env m (.BinOp l .BitAnd r pos) k :=
  fun s O Q E S hQ => wpAny_BinOp (h s O _ E S fun _ _ _ x₁ h₁ => h₁ _ O _ E (S.ext x₁) fun _ _ s₂ x₂ h₂ => and_int (hQ _ _ _ ((x₁.trans x₂).trans (Ext.tok s₂ _)) h₂))
theorem evI_or {l r : Expr} {pos : Pos} {k : Int → Prop} (h : EvI p w h₀ A env m l fun a => EvI p w h₀ A env m r fun b => k (Builtin.bitOr a b)) : EvI p w h₀ A env m (.BinOp l .BitOr r pos) k :=
  fun s O Q E S hQ => wpAny_BinOp (h s O _ E S fun _ _ _ x₁ h₁ => h₁ _ O _ E (S.ext x₁) fun _ _ s₂ x₂ h₂ => or_int (hQ _ _ _ ((x₁.trans x₂).trans (Ext.tok s₂ _)) h₂))
def b2n (b : Bool) : Int := if b = true then 1 else 0
theorem evI_addBB {l r : Expr} {pos : Pos} {k : Int → Prop} (h : EvB p w h₀ A env m l fun a => EvB p w h₀ A env m r fun b => k (b2n a + b2n b)) : EvI p w h₀ A env m (.BinOp l .Add r pos) k :=
  fun s O Q E S hQ => wpAny_BinOp (h s O _ E S fun a _ x₁ h₁ => h₁ _ O _ E (S.ext x₁) fun b s₂ x₂ h₂ => add_bool (by
    have e : b2i a + b2i b = b2n a + b2n b := by cases a <;> cases b <;> rfl
    rw [e]; exact hQ _ _ _ ((x₁.trans x₂).trans (Ext.tok s₂ _)) h₂))
theorem evI_addIB {l r : Expr} {pos : Pos} {k : Int → Prop} (h : EvI p w h₀ A env m l fun a => EvB p w h₀ A env m r fun b => k (a + b2n b)) : EvI p w h₀ A env m (.BinOp l .Add r pos) k :=
  fun s O Q E S hQ => wpAny_BinOp (h s O _ E S fun _ _ _ x₁ h₁ => h₁ _ O _ E (S.ext x₁) fun _ s₂ x₂ h₂ => add_int_bool (hQ _ _ _ ((x₁.trans x₂).trans (Ext.tok s₂ _)) h₂))

-- comparisons
theorem evB_eq {l r : Expr} {pos : Pos} {k : Bool → Prop} (h : EvI p w h₀ A env m l fun a => EvI p w h₀ A env m r fun b => k (a == b)) (hm : behindInMarks .Eq r = false := by with_unfolding_all rfl) : EvB p w h₀ A env m (.Compare l [.Eq] [r] pos) k :=
  fun s O Q E S hQ => wpAny_Compare1 (h s O _ E S fun _ _ _ x₁ h₁ => h₁ _ O _ E (S.ext x₁) fun _ _ s₂ x₂ h₂ => PySem.P.eq_int (hQ _ _ (x₁.trans x₂) h₂)) hm
theorem tst_eq {l r : Expr} {pos : Pos} {k : Bool → Prop} (h : EvI p w h₀ A env m l fun a => EvI p w h₀ A env m r fun b => k (a == b)) (hm : behindInMarks .Eq r = false := by with_unfolding_all rfl) : Tst p w h₀ A env m (.Compare l [.Eq] [r] pos) k :=
  fun s O Q E S hQ => wpAny_isTrue_Compare1 (h s O _ E S fun _ _ _ x₁ h₁ => h₁ _ O _ E (S.ext x₁) fun _ _ s₂ x₂ h₂ => PySem.P.eq_int (wpAny_truthy_bool (hQ _ _ (x₁.trans x₂) h₂))) hm
theorem tst_ne {l r : Expr} {pos : Pos} {k : Bool → Prop} (h : EvI p w h₀ A env m l fun a => EvI p w h₀ A env m r fun b => k (a != b)) (hm : behindInMarks .NotEq r = false := by with_unfolding_all rfl) : Tst p w h₀ A env m (.Compare l [.NotEq] [r] pos) k :=
  fun s O Q E S hQ => wpAny_isTrue_Compare1 (h s O _ E S fun _ _ _ x₁ h₁ => h₁ _ O _ E (S.ext x₁) fun _ _ s₂ x₂ h₂ => PySem.P.ne_int (wpAny_truthy_bool (hQ _ _ (x₁.trans x₂) h₂))) hm
theorem tst_lt {l r : Expr} {pos : Pos} {k : Bool → Prop} (h : EvI p w h₀ A env m l fun a => EvI p w h₀ A env m r fun b => k (decide (a < b))) (hm : behindInMarks .Lt r = false := by with_unfolding_all rfl) : Tst p w h₀ A env m (.Compare l [.Lt] [r] pos) k :=
  fun s O Q E S hQ => wpAny_isTrue_Compare1 (h s O _ E S fun _ _ _ x₁ h₁ => h₁ _ O _ E (S.ext x₁) fun _ _ s₂ x₂ h₂ => PySem.P.lt_int (wpAny_truthy_bool (hQ _ _ (x₁.trans x₂) h₂))) hm
theorem evB_le {l r : Expr} {pos : Pos} {k : Bool → Prop} (h : EvI p w h₀ A env m l fun a => EvI p w h₀ A env m r fun b => k (decide (a ≤ b))) (hm : behindInMarks .LtE r = false := by with_unfolding_all rfl) : EvB p w h₀ A env m (.Compare l [.LtE] [r] pos) k :=
  fun s O Q E S hQ => wpAny_Compare1 (h s O _ E S fun _ _ _ x₁ h₁ => h₁ _ O _ E (S.ext x₁) fun _ _ s₂ x₂ h₂ => PySem.P.le_int (hQ _ _ (x₁.trans x₂) h₂)) hm
theorem tst_gt {l r : Expr} {pos : Pos} {k : Bool → Prop} (h : EvI p w h₀ A env m l fun a => EvI p w h₀ A env m r fun b => k (decide (a > b))) (hm : behindInMarks .Gt r = false := by with_unfolding_all rfl) : Tst p w h₀ A env m (.Compare l [.Gt] [r] pos) k :=
  fun s O Q E S hQ => wpAny_isTrue_Compare1 (h s O _ E S fun _ _ _ x₁ h₁ => h₁ _ O _ E (S.ext x₁) fun _ _ s₂ x₂ h₂ => PySem.P.gt_int (wpAny_truthy_bool (hQ _ _ (x₁.trans x₂) h₂))) hm
theorem tst_ge {l r : Expr} {pos : Pos} {k : Bool → Prop} (h : EvI p w h₀ A env m l fun a => EvI p w h₀ A env m r fun b => k (decide (a ≥ b))) (hm : behindInMarks .GtE r = false := by with_unfolding_all rfl) : Tst p w h₀ A env m (.Compare l [.GtE] [r] pos) k :=
  fun s O Q E S hQ => wpAny_isTrue_Compare1 (h s O _ E S fun _ _ _ x₁ h₁ => h₁ _ O _ E (S.ext x₁) fun _ _ s₂ x₂ h₂ => PySem.P.ge_int (wpAny_truthy_bool (hQ _ _ (x₁.trans x₂) h₂))) hm

-- tests
theorem tst_not {e : Expr} {pos : Pos} {k : Bool → Prop} (h : Tst p w h₀ A env m e fun b => k (!b)) : Tst p w h₀ A env m (.UnaryOp .Not e pos) k := fun s O Q E S hQ =>
  isTrue_not (h s O _ E S fun _ _ x hk => hQ _ _ x hk)
theorem tst_and_nil {pos : Pos} {k : Bool → Prop} (h : k true) : Tst p w h₀ A env m (.BoolOp .And [] pos) k := fun s _ _ _ _ hQ => isTrue_and_nil (hQ _ _ (Ext.refl s) h)
theorem tst_or_nil {pos : Pos} {k : Bool → Prop} (h : k false) : Tst p w h₀ A env m (.BoolOp .Or [] pos) k := fun s _ _ _ _ hQ => isTrue_or_nil (hQ _ _ (Ext.refl s) h)
theorem tst_and {e : Expr} {rest : List Expr} {pos : Pos} {k : Bool → Prop} (h : Tst p w h₀ A env m e fun b => if b then Tst p w h₀ A env m (.BoolOp .And rest pos) k else k false) : Tst p w h₀ A env m (.BoolOp .And (e :: rest) pos) k := fun s O Q E S hQ =>
  isTrue_and (h s O _ E S fun b s' x hk => by
    cases b with
    | true => exact hk s' O Q E (S.ext x) fun _ _ x' hk' => hQ _ _ (x.trans x') hk'
    | false => exact hQ _ _ x hk)
theorem tst_or {e : Expr} {rest : List Expr} {pos : Pos} {k : Bool → Prop} (h : Tst p w h₀ A env m e fun b => if b then k true else Tst p w h₀ A env m (.BoolOp .Or rest pos) k) : Tst p w h₀ A env m (.BoolOp .Or (e :: rest) pos) k := fun s O Q E S hQ =>
  isTrue_or (h s O _ E S fun b s' x hk => by
    cases b with
    | false => exact hk s' O Q E (S.ext x) fun _ _ x' hk' => hQ _ _ (x.trans x') hk'
    | true => exact hQ _ _ x hk)
theorem tst_I {e : Expr} {k : Bool → Prop} (h : EvI p w h₀ A env m e fun i => k (i != 0)) (he : isTrue e env (eval e env) = (do let v ← eval e env; standAt e.pos; holding [v] (truthy v)) := by rfl) : Tst p w h₀ A env m e k := fun s O Q E S hQ =>
  isTrue_plain (h s O _ E S fun _ _ _ x hk => PySem.P.truthy_int (hQ _ _ x hk)) he
theorem tst_B {e : Expr} {k : Bool → Prop} (h : EvB p w h₀ A env m e k) (he : isTrue e env (eval e env) = (do let v ← eval e env; standAt e.pos; holding [v] (truthy v)) := by rfl) : Tst p w h₀ A env m e k := fun s O Q E S hQ =>
  isTrue_plain (h s O _ E S fun _ _ x hk => wpAny_truthy_bool (hQ _ _ x hk)) he
-- bools as values
theorem evB_notI {e : Expr} {pos : Pos} {k : Bool → Prop} (h : EvI p w h₀ A env m e fun i => k (!(i != 0))) : EvB p w h₀ A env m (.UnaryOp .Not e pos) k := fun s O Q E S hQ =>
  UnaryOp_ (h s O _ E S fun _ _ _ x hk => not_of (PySem.P.truthy_int (hQ _ _ x hk)))
theorem evB_and1 {e : Expr} {pos : Pos} {k : Bool → Prop} (h : EvB p w h₀ A env m e k) : EvB p w h₀ A env m (.BoolOp .And [e] pos) k := fun s O Q E S hQ => BoolOp_one (h s O Q E S hQ)
theorem evB_and {e e' : Expr} {rest : List Expr} {pos : Pos} {k : Bool → Prop} (h : EvB p w h₀ A env m e fun b => if b then EvB p w h₀ A env m (.BoolOp .And (e' :: rest) pos) k else k false) : EvB p w h₀ A env m (.BoolOp .And (e :: e' :: rest) pos) k := fun s O Q E S hQ =>
  BoolOp_and (h s O _ E S fun b s' x hk => wpAny_truthy_bool (by
    cases b with
    | true => exact hk s' O Q E (S.ext x) fun _ _ x' hk' => hQ _ _ (x.trans x') hk'
    | false => exact hQ _ _ x hk))
theorem evI_ite {t a b : Expr} {pos : Pos} {k : Int → Prop} (h : Tst p w h₀ A env m t fun c => if c then EvI p w h₀ A env m a k else EvI p w h₀ A env m b k) : EvI p w h₀ A env m (.IfExp t a b pos) k := fun s O Q E S hQ =>
  IfExp_ (h s O _ E S fun c s' x hk => by
    cases c with
    | true => exact hk s' O Q E (S.ext x) fun _ _ _ x' hk' => hQ _ _ _ (x.trans x') hk'
    | false => exact hk s' O Q E (S.ext x) fun _ _ _ x' hk' => hQ _ _ _ (x.trans x') hk')
end

structure Pres (env : Env) (O : Owns) (s s' : Shared) : Prop where
  keep : ∀ b o, s.heap.get? b = some o → b ≠ env.locals → (∀ x, (x, b) ∉ env.cells) → (∀ x, (x, b) ∉ O) → s'.heap.get? b = some o
  same : ∃ h tk, s' = { s with heap := h, toks := tk }
def Grow (s : Shared) (O O' : Owns) : Prop := ∀ x a, (x, a) ∈ O' → (∃ y, (y, a) ∈ O) ∨ s.heap.get? a = none

theorem Ext.pres {s s' : Shared} (x : Ext s s') (env : Env) (O : Owns) : Pres env O s s' := ⟨fun b o e _ _ _ => x.keep b o e, x.same⟩
theorem Grow.refl (s : Shared) (O : Owns) : Grow s O O := fun x a h => .inl ⟨x, h⟩
theorem Pres.trans {h₀ : Heap} {env : Env} {O O' : Owns} {s s' s'' : Shared} (a : Pres env O s s') (g : Grow s O O') (b : Pres env O' s' s'') : Pres env O s s'' := by
  refine ⟨fun x o e hl hc ho => b.keep x o (a.keep x o e hl hc ho) hl hc fun y hy => ?_, ?_⟩
  · rcases g y x hy with ⟨z, hz⟩ | q
    · exact ho z hz
    · rw [e] at q; cases q
  · obtain ⟨h, tk, rfl⟩ := a.same
    obtain ⟨h', tk', rfl⟩ := b.same
    exact ⟨h', tk', rfl⟩
theorem none_back {h₀ : Heap} {env : Env} {O O' : Owns} {m : Locs} {s s' : Shared} (a : Pres env O s s') (S : St h₀ env O' m s'.heap) {b : Addr} (e : s'.heap.get? b = none) : s.heap.get? b = none ∨ ∃ x, (x, b) ∈ O := by
  cases q : s.heap.get? b with
  | none => exact .inl rfl
  | some o =>
    refine .inr ?_
    refine Classical.byContradiction fun hn => ?_
    have h1 : b ≠ env.locals := fun h => by
      obtain ⟨mr, o', _, _, ho, _⟩ := S.frame
      rw [← h, e] at ho; cases ho
    have h2 : ∀ x, (x, b) ∉ env.cells := fun x hx => by
      obtain ⟨v, o', ho, _⟩ := S.cells x b hx
      rw [e] at ho; cases ho
    rw [a.keep b o q h1 h2 fun x hx => hn ⟨x, hx⟩] at e
    cases e
theorem Grow.trans {h₀ : Heap} {env : Env} {O O' O'' : Owns} {m : Locs} {s s' : Shared} (g : Grow s O O') (a : Pres env O s s') (S : St h₀ env O' m s'.heap) (g' : Grow s' O' O'') : Grow s O O'' := fun x b hb => by
  rcases g' x b hb with ⟨y, hy⟩ | q
  · exact g y b hy
  · exact (none_back a S q).symm

section
variable (p : Program) (w : World) (h₀ : Heap) (A : Around) (env : Env)
def Ex (m : Locs) (b : List Stmt) (N : Locs → Prop) (T : PyData → Prop) : Prop :=
  ∀ (s : Shared) (O : Owns) (Q : Flow → Shared → Prop) (E : Value → Shared → Prop), St h₀ env O m s.heap →
    (∀ m' O' s', Pres env O s s' → Grow s O O' → St h₀ env O' m' s'.heap → N m' → Q .next s') →
    (∀ v d as s', Pres env O s s' → Rd s'.heap v d as → (∀ a ∈ as, s.heap.get? a = none ∨ ∃ x, (x, a) ∈ O) → T d → Q (.ret v) s') →
    wpAny (model p w) A (execs b env) Q E s
def X1 (m : Locs) (b : Stmt) (N : Locs → Prop) (T : PyData → Prop) : Prop :=
  ∀ (s : Shared) (O : Owns) (Q : Flow → Shared → Prop) (E : Value → Shared → Prop), St h₀ env O m s.heap →
    (∀ m' O' s', Pres env O s s' → Grow s O O' → St h₀ env O' m' s'.heap → N m' → Q .next s') →
    (∀ v d as s', Pres env O s s' → Rd s'.heap v d as → (∀ a ∈ as, s.heap.get? a = none ∨ ∃ x, (x, a) ∈ O) → T d → Q (.ret v) s') →
    wpAny (model p w) A (exec b env) Q E s
end

section
variable {p : Program} {w : World} {h₀ : Heap} {A : Around} {env : Env} {m : Locs} {N : Locs → Prop} {T : PyData → Prop}

theorem ex_nil (h : N m) : Ex p w h₀ A env m [] N T := fun s O Q E S hN _ => wpAny_execs_nil (hN m O s (Ext.pres (Ext.refl s) _ _) (Grow.refl _ _) S h)
theorem ret_back {O O' : Owns} {m' : Locs} {s s' : Shared} (a : Pres env O s s') (g : Grow s O O') (S : St h₀ env O' m' s'.heap) {as : List Addr} (h : ∀ a ∈ as, s'.heap.get? a = none ∨ ∃ x, (x, a) ∈ O') :
    ∀ a ∈ as, s.heap.get? a = none ∨ ∃ x, (x, a) ∈ O := fun b hb => by
  rcases h b hb with q | ⟨x, hx⟩
  · exact none_back a S q
  · exact (g x b hx).symm
theorem ex_cons {b : Stmt} {rest : List Stmt} (h : X1 p w h₀ A env m b (fun m' => Ex p w h₀ A env m' rest N T) T) : Ex p w h₀ A env m (b :: rest) N T := fun s O Q E S hN hT => by
  refine wpAny_execs_cons (h s O _ E S (fun m' O' s' a g S' hk => ?_) (fun v d as s' a r f t => hT v d as s' a r f t))
  refine hk s' O' Q E S' (fun m'' O'' s'' a' g' S'' hN' => hN m'' O'' s'' (a.trans (h₀ := h₀) g a') (g.trans a S' g') S'' hN') fun v d as s'' a' r f t => hT v d as s'' (a.trans (h₀ := h₀) g a') r (ret_back a g S' f) t
theorem x1_mono {b : Stmt} {N' : Locs → Prop} (h : X1 p w h₀ A env m b N' T) (k : ∀ m', N' m' → N m') : X1 p w h₀ A env m b N T := fun s O Q E S hN hT =>
  h s O Q E S (fun m' O' s' a g S' hk => hN m' O' s' a g S' (k m' hk)) hT
theorem ex_mono {b : List Stmt} {N' : Locs → Prop} {T' : PyData → Prop} (h : Ex p w h₀ A env m b N' T') (k : ∀ m', N' m' → N m') (kt : ∀ d, T' d → T d) : Ex p w h₀ A env m b N T := fun s O Q E S hN hT =>
  h s O Q E S (fun m' O' s' a g S' hk => hN m' O' s' a g S' (k m' hk)) (fun v d as s' a r f t => hT v d as s' a r f (kt d t))

theorem St.turn {O : Owns} {h h' : Heap} {b : Addr} (S : St h₀ env O m h) (hs : Heap.ExtBut b h h') (hb : h₀.get? b = none)
    (hf : ∃ mr, h'.Ns env.locals mr) (hc : ∀ x c, (x, c) ∈ env.cells → ∃ v, h'.IsCell c v) (hnl : ∀ vs, ¬ h.PlainList b vs) (m' : Locs)
    (hv : ∀ x l, gt m' x = some l → ∃ v, Bound env h' x v ∧ LocRel h O x v l) : St h₀ env O m' h' where
  ground x o e := hs x o (fun q => by rw [q, hb] at e; cases e) (S.ground x o e)
  frame := hf
  cells := hc
  apart := S.apart
  newL := S.newL
  newC := S.newC
  newO := S.newO
  lists x a hm := by
    obtain ⟨vs, i⟩ := S.lists x a hm
    exact ⟨vs, i.extBut hs fun q => hnl vs (q ▸ i)⟩
  uniq := S.uniq
  vars x l e := by
    obtain ⟨v, bd, r⟩ := hv x l e
    refine ⟨v, bd, ?_⟩
    cases l with
    | val d =>
      obtain ⟨as, r, n⟩ := r
      refine ⟨as, r.at fun a ha o ho => hs a o (fun q => ?_) ho, n⟩
      obtain ⟨vs, i⟩ := r.lists a ha
      exact hnl vs (q ▸ i)
    | own ds =>
      obtain ⟨a, vs, as, e1, hm, i, r, n⟩ := r
      refine ⟨a, vs, as, e1, hm, i.extBut hs fun q => hnl vs (q ▸ i), r.at fun b' hb' o' ho' => hs b' o' (fun q => ?_) ho', n⟩
      obtain ⟨vs', i⟩ := r.lists b' hb'
      exact hnl vs' (q ▸ i)

theorem ns_not_list {h : Heap} {a : Addr} {mr : Str → Option Value} (n : h.Ns a mr) (vs : Array Value) : ¬ h.PlainList a vs := fun ⟨k, ho⟩ => by
  obtain ⟨o', es, ep, ho', hd', _⟩ := n
  rw [ho] at ho'; cases ho'
  cases hd'
theorem cell_not_list {h : Heap} {a : Addr} {v : Option Value} (n : h.IsCell a v) (vs : Array Value) : ¬ h.PlainList a vs := fun ⟨k, ho⟩ => by
  obtain ⟨o', ho', hd'⟩ := n
  rw [ho] at ho'; cases ho'
  cases hd'
theorem cell_not_ns {h : Heap} {a : Addr} {v : Option Value} {mr : Str → Option Value} (n : h.IsCell a v) : ¬ h.Ns a mr := fun ⟨o, es, ep, ho, hd, _⟩ => by
  obtain ⟨o', ho', hd'⟩ := n
  rw [ho] at ho'; cases ho'
  rw [hd] at hd'; cases hd'

def Stored (env : Env) (x : Str) : Prop := env.kindOf x = some .local ∨ (env.kindOf x = some .cell ∧ ∃ c, env.cells.lookup x = some c)

theorem store_any {s : Shared} {O : Owns} {E : Value → Shared → Prop} {Q : Unit → Shared → Prop} {x : Str} {v : Value} {l : Loc} (hk : env.scope.kind = .function) (hx : Stored env x)
    (S : St h₀ env O m s.heap) (r : LocRel s.heap O x v l) (h : ∀ s', Pres env O s s' → St h₀ env O (st m x l) s'.heap → Q () s') : wpAny (model p w) A (storeName env x v) Q E s := by
  obtain ⟨mr, hn⟩ := S.frame
  rcases hx with hl | ⟨hl, c, hc⟩
  · refine wpAny_storeName_local hl hn (fun h' hn' hs' => ?_) (by rw [hk]; rfl)
    refine h _ ⟨fun b o e hb _ _ => (hs'.2 b hb).trans e, h', _, rfl⟩ ?_
    refine S.turn (h' := h') hs'.extBut S.newL ⟨_, hn'⟩ (fun y c hm => ?_) (ns_not_list hn) _ fun y ly e => ?_
    · obtain ⟨u, i⟩ := S.cells y c hm
      exact ⟨u, i.sameBut hs' fun q => cell_not_ns i (q ▸ hn)⟩
    · rw [gt_st] at e
      by_cases hy : y = x
      · subst hy
        rw [if_pos rfl] at e
        cases e
        exact ⟨v, .inl ⟨hl, _, hn', by simp⟩, r⟩
      · rw [if_neg hy] at e
        obtain ⟨u, bd, ru⟩ := S.vars y ly e
        refine ⟨u, ?_, ru⟩
        rcases bd with ⟨hk', mr', n', e'⟩ | ⟨hk', c, hc, i⟩
        · refine .inl ⟨hk', _, hn', ?_⟩
          rw [if_neg hy]
          obtain ⟨o1, es1, ep1, g1, d1, _, f1⟩ := hn
          obtain ⟨o2, es2, ep2, g2, d2, _, f2⟩ := n'
          rw [g1] at g2; cases g2
          rw [d1] at d2; cases d2
          rw [← f1, f2]; exact e'
        · exact .inr ⟨hk', c, hc, i.sameBut hs' fun q => cell_not_ns i (q ▸ hn)⟩
  · have hcm := mem_of_lookup hc
    obtain ⟨u₀, i₀⟩ := S.cells x c hcm
    refine wpAny_storeName_cell hk hl hc i₀ fun h' hc' hs' => ?_
    refine h _ ⟨fun b o e _ hb _ => (hs'.2 b fun q => hb x (q ▸ hcm)).trans e, h', _, rfl⟩ ?_
    refine S.turn (h' := h') hs'.extBut (S.newC x c hcm) ⟨mr, hn.sameBut hs' fun q => cell_not_ns i₀ (q ▸ hn)⟩ (fun y c' hm => ?_) (cell_not_list i₀) _ fun y ly e => ?_
    · by_cases q : c' = c
      · exact ⟨_, q ▸ hc'⟩
      · obtain ⟨u, i⟩ := S.cells y c' hm
        exact ⟨u, i.sameBut hs' q⟩
    · rw [gt_st] at e
      by_cases hy : y = x
      · subst hy
        rw [if_pos rfl] at e
        cases e
        exact ⟨v, .inr ⟨hl, c, hc, hc'⟩, r⟩
      · rw [if_neg hy] at e
        obtain ⟨u, bd, ru⟩ := S.vars y ly e
        refine ⟨u, ?_, ru⟩
        rcases bd with ⟨hk', mr', n', e'⟩ | ⟨hk', c', hc1, i⟩
        · exact .inl ⟨hk', mr', n'.sameBut hs' fun q => cell_not_ns i₀ (q ▸ hn), e'⟩
        · exact .inr ⟨hk', c', hc1, i.sameBut hs' fun q => hy (name_of_addr S.apart (mem_of_lookup hc1) (q ▸ hcm))⟩

theorem St.owns {O : Owns} {h h' : Heap} {x : Str} {a : Addr} {vs : Array Value} (S : St h₀ env O m h) (k : ∀ b o, h.get? b = some o → h'.get? b = some o) (hn : h.get? a = none) (hl : h'.PlainList a vs) : St h₀ env ((x, a) :: O) m h' := by
  have S' := S.keeps k
  have no : ∀ y, (y, a) ∉ O := fun y hy => by
    obtain ⟨vs, k, ho⟩ := S.lists y a hy
    rw [hn] at ho; cases ho
  refine ⟨S'.ground, S'.frame, S'.cells, S'.apart, S'.newL, S'.newC, fun y b hm => ?_, fun y b hm => ?_, fun y z b h1 h2 => ?_, fun y l e => ?_⟩
  · rcases List.mem_cons.mp hm with q | hm
    · cases q
      cases q : h₀.get? a with
      | none => rfl
      | some o => rw [S.ground a o q] at hn; cases hn
    · exact S.newO y b hm
  · rcases List.mem_cons.mp hm with q | hm
    · cases q; exact ⟨vs, hl⟩
    · exact S'.lists y b hm
  · rcases List.mem_cons.mp h1 with q1 | h1 <;> rcases List.mem_cons.mp h2 with q2 | h2
    · cases q1; cases q2; rfl
    · cases q1; exact absurd h2 (no z)
    · cases q2; exact absurd h1 (no y)
    · exact S.uniq y z b h1 h2
  · obtain ⟨v, bd, r⟩ := S.vars y l e
    refine ⟨v, bd.keeps k, ?_⟩
    cases l with
    | val d =>
      obtain ⟨as, r, n⟩ := r
      refine ⟨as, r.keeps k, fun b hb z hz => ?_⟩
      rcases List.mem_cons.mp hz with q | hz
      · cases q
        obtain ⟨vs', k, ho⟩ := r.lists _ hb
        rw [hn] at ho; cases ho
      · exact n b hb z hz
    | own ds =>
      obtain ⟨a', vs', as, e1, hm, i, r, n⟩ := r
      refine ⟨a', vs', as, e1, .tail _ hm, isList_keeps i k, r.keeps k, fun b hb z hz => ?_⟩
      rcases List.mem_cons.mp hz with q | hz
      · cases q
        obtain ⟨vs', k, ho⟩ := r.lists _ hb
        rw [hn] at ho; cases ho
      · exact n b hb z hz

-- assignments
theorem x1_asgI {x : Str} {px pos : Pos} {e : Expr} (hk : env.scope.kind = .function) (hx : Stored env x) (h : EvI p w h₀ A env m e fun i => N (st m x (.val (.int i)))) (hs : swapsWith e (some (.Name x px)) pos.line env = pure false := by rfl) :
    X1 p w h₀ A env m (.Assign [.Name x px] e pos) N T := fun s O Q E S hN _ =>
  wpAny_Assign_Name (h s O _ E S fun i t s' x' hk' => store_any hk hx (l := .val (.int i)) (S.ext x') ⟨[], .int i t, fun _ h => nomatch h⟩ fun s'' a S'' => hN _ O s'' ((x'.pres env O).trans (h₀ := h₀) (Grow.refl _ _) a) (Grow.refl _ _) S'' hk') hs
theorem x1_asgB {x : Str} {px pos : Pos} {e : Expr} (hk : env.scope.kind = .function) (hx : Stored env x) (h : EvB p w h₀ A env m e fun i => N (st m x (.val (.bool i)))) (hs : swapsWith e (some (.Name x px)) pos.line env = pure false := by rfl) :
    X1 p w h₀ A env m (.Assign [.Name x px] e pos) N T := fun s O Q E S hN _ =>
  wpAny_Assign_Name (h s O _ E S fun i s' x' hk' => store_any hk hx (l := .val (.bool i)) (S.ext x') ⟨[], .bool i, fun _ h => nomatch h⟩ fun s'' a S'' => hN _ O s'' ((x'.pres env O).trans (h₀ := h₀) (Grow.refl _ _) a) (Grow.refl _ _) S'' hk') hs
theorem x1_asgV {x : Str} {px pos : Pos} {e : Expr} (hk : env.scope.kind = .function) (hx : Stored env x) (h : Ev p w h₀ A env .plain m e fun d => N (st m x (.val d))) (hs : swapsWith e (some (.Name x px)) pos.line env = pure false := by rfl) :
    X1 p w h₀ A env m (.Assign [.Name x px] e pos) N T := fun s O Q E S hN _ =>
  wpAny_Assign_Name (h s O _ E S fun v d as s' x' r f hk' => store_any hk hx (l := .val d) (S.ext x') ⟨as, r, f⟩ fun s'' a S'' => hN _ O s'' ((x'.pres env O).trans (h₀ := h₀) (Grow.refl _ _) a) (Grow.refl _ _) S'' hk') hs
theorem x1_asgN {x : Str} {px pos : Pos} {e : Expr} (hk : env.scope.kind = .function) (hx : Stored env x) (h : EvN p w h₀ A env m e fun ds => N (st m x (.own ds))) (hs : swapsWith e (some (.Name x px)) pos.line env = pure false := by rfl) :
    X1 p w h₀ A env m (.Assign [.Name x px] e pos) N T := fun s O Q E S hN _ =>
  wpAny_Assign_Name (h s O _ E S fun a vs as ds s' x' hnew i r f hk' => by
    have S' := S.owns (x := x) x'.keep hnew i
    have g : Grow s O ((x, a) :: O) := fun y b hb => by
      rcases List.mem_cons.mp hb with q | hb
      · cases q; exact .inr hnew
      · exact .inl ⟨y, hb⟩
    refine store_any (l := .own ds) hk hx S' ⟨a, vs, as, rfl, .head _, i, r, fun b hb y hy => ?_⟩ fun s'' pr S'' => hN _ _ s'' ((x'.pres env O).trans (h₀ := h₀) g pr) g S'' hk'
    rcases List.mem_cons.mp hy with q | hy
    · cases q; exact (f _ hb).2 rfl
    · obtain ⟨vs', k, ho⟩ := S.lists y b hy
      rw [(f b hb).1] at ho; cases ho) hs
theorem x1_if {t : Expr} {b1 b2 : List Stmt} {pos : Pos} (h : Tst p w h₀ A env m t fun b => if b then Ex p w h₀ A env m b1 N T else Ex p w h₀ A env m b2 N T) : X1 p w h₀ A env m (.If t b1 b2 pos) N T := fun s O Q E S hN hT =>
  wpAny_If (h s O _ E S fun b s' x hk => by
    have S' := S.ext x
    have pr := x.pres env O
    cases b with
    | true => exact hk s' O Q E S' (fun m' O' s'' a g S'' n => hN m' O' s'' (pr.trans (h₀ := h₀) (Grow.refl _ _) a) ((Grow.refl _ _).trans pr S' g) S'' n) fun v d as s'' a r f t => hT v d as s'' (pr.trans (h₀ := h₀) (Grow.refl _ _) a) r (ret_back pr (Grow.refl _ _) S' f) t
    | false => exact hk s' O Q E S' (fun m' O' s'' a g S'' n => hN m' O' s'' (pr.trans (h₀ := h₀) (Grow.refl _ _) a) ((Grow.refl _ _).trans pr S' g) S'' n) fun v d as s'' a r f t => hT v d as s'' (pr.trans (h₀ := h₀) (Grow.refl _ _) a) r (ret_back pr (Grow.refl _ _) S' f) t)
theorem x1_ret {e : Expr} {pos : Pos} (h : Ev p w h₀ A env .ret m e T) : X1 p w h₀ A env m (.Return (some e) pos) N T := fun s O Q E S _ hT =>
  wpAny_Return_some (h s O _ E S fun v d as s' x r f t => hT v d as s' (x.pres env O) r f t)
theorem x1_asg2I {x y : Str} {px py pos : Pos} {e : Expr} (hk : env.scope.kind = .function) (hx : Stored env x) (hy : Stored env y) (h : EvI p w h₀ A env m e fun i => N (st (st m x (.val (.int i))) y (.val (.int i))))
    (he : (assignEach [.Name x px, .Name y py] env).map (·.2) = [assign (.Name x px) env, assign (.Name y py) env] := by rfl) (hw : swappedStores [.Name x px, .Name y py] e env = pure none := by rfl) :
    X1 p w h₀ A env m (.Assign [.Name x px, .Name y py] e pos) N T := fun s O Q E S hN _ =>
  wpAny_Assign_two (h s O _ E S fun i t s' x' hk' => wpAny_assign_Name (store_any (l := .val (.int i)) hk hx (S.ext x') ⟨[], .int i t, fun _ h => nomatch h⟩ fun s₂ a₂ S₂ =>
    wpAny_assign_Name (store_any (l := .val (.int i)) hk hy S₂ ⟨[], .int i t, fun _ h => nomatch h⟩ fun s'' a S'' => hN _ O s'' (((x'.pres env O).trans (h₀ := h₀) (Grow.refl _ _) a₂).trans (h₀ := h₀) (Grow.refl _ _) a) (Grow.refl _ _) S'' hk'))) he hw
theorem load_name {s : Shared} {E : Value → Shared → Prop} {x : Str} {v : Value} {Q : Value → Shared → Prop} (hk : env.scope.kind = .function) (b : Bound env s.heap x v) (h : Q v s) : wpAny (model p w) A (loadName env x) Q E s := by
  rcases b with ⟨hl, mr, n, e⟩ | ⟨hl, c, hc, i⟩
  · exact wpAny_loadName_local hk hl n e h
  · exact wpAny_loadName_cell hk hl hc i h
theorem x1_aug_add {x : Str} {px pos : Pos} {a : Int} {e : Expr} (hk : env.scope.kind = .function) (hx : Stored env x) (hg : gt m x = some (.val (.int a))) (h : EvI p w h₀ A env m e fun b => N (st m x (.val (.int (a + b))))) :
    X1 p w h₀ A env m (.AugAssign (.Name x px) .Add e pos) N T := fun s O Q E S hN _ => by
  obtain ⟨v, bd, as, r, _⟩ := S.vars x _ hg
  cases r
  exact wpAny_AugAssign_Name (load_name hk bd (h s O _ E S fun _ _ s₂ x₂ h₂ => PySem.P.iadd_int (store_any (l := .val (.int _)) hk hx (S.ext (x₂.trans (Ext.tok s₂ _))) ⟨[], .int _ _, fun _ h => nomatch h⟩ fun s'' pr S'' => hN _ O s'' (((x₂.trans (Ext.tok s₂ _)).pres env O).trans (h₀ := h₀) (Grow.refl _ _) pr) (Grow.refl _ _) S'' h₂)))
theorem x1_aug_shr {x : Str} {px pos : Pos} {a : Int} {e : Expr} (hk : env.scope.kind = .function) (hx : Stored env x) (hg : gt m x = some (.val (.int a))) (h : EvI p w h₀ A env m e fun b => 0 ≤ b ∧ N (st m x (.val (.int (a.fdiv (2 ^ b.toNat)))))) :
    X1 p w h₀ A env m (.AugAssign (.Name x px) .RShift e pos) N T := fun s O Q E S hN _ => by
  obtain ⟨v, bd, as, r, _⟩ := S.vars x _ hg
  cases r
  exact wpAny_AugAssign_Name (load_name hk bd (h s O _ E S fun _ _ s₂ x₂ h₂ => irshift_int h₂.1 (store_any (l := .val (.int _)) hk hx (S.ext (x₂.trans (Ext.tok s₂ _))) ⟨[], .int _ _, fun _ h => nomatch h⟩ fun s'' pr S'' => hN _ O s'' (((x₂.trans (Ext.tok s₂ _)).pres env O).trans (h₀ := h₀) (Grow.refl _ _) pr) (Grow.refl _ _) S'' h₂.2)))

theorem St.mut {O : Owns} {h h' : Heap} {x : Str} {a : Addr} {vs vs' : Array Value} {ds : List PyData} {as : List Addr} (S : St h₀ env O m h) (hm : (x, a) ∈ O) (hb : Bound env h x (.ref a)) (hs : Heap.SameBut a h h') (hi : h.PlainList a vs)
    (hl : h'.PlainList a vs') (r : RdAll h vs'.toList ds as) (n : ∀ b ∈ as, ∀ y, (y, b) ∉ O) : St h₀ env O (st m x (.own ds)) h' := by
  have cellNe : ∀ {y c v}, h.IsCell c v → (y, c) ∈ env.cells → c ≠ a := fun i _ q => cell_not_list (q ▸ i) vs hi
  have keepB : ∀ {y v}, Bound env h y v → Bound env h' y v := fun bd => by
    rcases bd with ⟨hk', mr, hn, e⟩ | ⟨hk', c, hc, i⟩
    · exact .inl ⟨hk', mr, hn.sameBut hs fun q => ns_not_list (q ▸ hn) vs hi, e⟩
    · exact .inr ⟨hk', c, hc, i.sameBut hs (cellNe i (mem_of_lookup hc))⟩
  refine ⟨fun b o e => (hs.2 b fun q => ?_).trans (S.ground b o e), ?_, fun y c hc => ?_, S.apart, S.newL, S.newC, S.newO, fun y b hb' => ?_, S.uniq, fun y l e => ?_⟩
  · rw [q, S.newO x a hm] at e; cases e
  · obtain ⟨mr, hn⟩ := S.frame
    exact ⟨mr, hn.sameBut hs fun q => ns_not_list (q ▸ hn) vs hi⟩
  · obtain ⟨v, i⟩ := S.cells y c hc
    exact ⟨v, i.sameBut hs (cellNe i hc)⟩
  · by_cases q : b = a
    · exact ⟨vs', q ▸ hl⟩
    · obtain ⟨vs₂, i⟩ := S.lists y b hb'
      exact ⟨vs₂, i.extBut hs.extBut q⟩
  · rw [gt_st] at e
    by_cases hy : y = x
    · subst hy
      rw [if_pos rfl] at e
      cases e
      exact ⟨.ref a, keepB hb, a, vs', as, rfl, hm, hl, r.at fun b hb' o ho => (hs.2 b fun q => n b hb' y (q ▸ hm)).trans ho, n⟩
    · rw [if_neg hy] at e
      obtain ⟨v, bd, ru⟩ := S.vars y l e
      refine ⟨v, keepB bd, ?_⟩
      cases l with
      | val d =>
        obtain ⟨as', r', n'⟩ := ru
        exact ⟨as', r'.at fun b hb' o ho => (hs.2 b fun q => n' b hb' x (q ▸ hm)).trans ho, n'⟩
      | own ds' =>
        obtain ⟨a', vs₂, as', e1, hm', i, r', n'⟩ := ru
        refine ⟨a', vs₂, as', e1, hm', i.extBut hs.extBut fun q => ?_, r'.at fun b hb' o ho => (hs.2 b fun q => n' b hb' x (q ▸ hm)).trans ho, n'⟩
        exact hy (S.uniq y x a' hm' (q ▸ hm))
theorem pi_set {h : Heap} {ns : List Int} {vs : Array Value} {as : List Addr} (r : RdAll h vs.toList (PI ns) as) (i : Nat) (hi : i < ns.length) (n : Int) (t : Tok) : RdAll h (vs.setIfInBounds i (.int n t)).toList (PI (ns.set i n)) [] := by
  obtain ⟨_, f⟩ := r.ofPI
  have hl : vs.toList.length = ns.length := by rw [r.length]; simp [PI]
  refine rdAll_of_ints _ _ (by simpa using hl) fun j hj => ?_
  have hj' : j < ns.length := by simpa using hj
  obtain ⟨u, e⟩ := f j hj'
  have e' : vs[j]? = some (Value.int ns[j] u) := by simpa using e
  by_cases q : i = j
  · subst q
    have : i < vs.size := by simpa using (hl ▸ hi : i < vs.toList.length)
    exact ⟨t, by simp [this]⟩
  · refine ⟨u, ?_⟩
    simp [q, e']
theorem x1_item_add {x : Str} {px pos tpos : Pos} {ns : List Int} {i e : Expr} (hk : env.scope.kind = .function) (hg : gt m x = some (.own (PI ns))) (hf : (ns.length : Int) < 2 ^ 63)
    (h : EvI p w h₀ A env m i fun a => (0 ≤ a ∧ a < ns.length) ∧ EvI p w h₀ A env m e fun b => N (st m x (.own (PI (ns.set a.toNat (ns.getD a.toNat 0 + b))))))
    (hi : ∀ ov iv new, augStore i ov iv new = (do holding [new, ov, iv] (setItem ov iv new); release [new, ov, iv] []; pure .next) := by intros; rfl) (hd : (x == ("__debug__" : Str)) = false := by decide) :
    X1 p w h₀ A env m (.AugAssign (.Subscript (.Name x px) i tpos) .Add e pos) N T := fun s O Q E S hN _ => by
  obtain ⟨v, bd, D, vs, as, rfl, hm, il, r, n⟩ := S.vars x _ hg
  refine wpAny_AugAssign_SubscriptAny (load_bound hk bd (h s O _ E S fun a t s₁ x₁ h₁ => ?_) hd) hi
  obtain ⟨⟨h0, h1⟩, h₁⟩ := h₁
  have il₁ := isList_keeps il x₁.keep
  have r₁ := r.keeps x₁.keep
  have ha : a.toNat < ns.length := by lia
  have hg' : ns.getD a.toNat 0 = ns[a.toNat] := by simp [List.getD, ha]
  obtain ⟨_, f⟩ := r₁.ofPI
  obtain ⟨u, e1⟩ := f a.toNat ha
  have hl : vs.toList.length = ns.length := by rw [r.length]; simp [PI]
  refine wpAny_getItem_list il₁.isList h0 (by lia) (by simpa using e1) ?_
  refine h₁ s₁ O _ E (S.ext x₁) fun b t' s₂ x₂ h₂ => PySem.P.iadd_int ?_
  have x₃ := (x₁.trans x₂).trans (Ext.tok s₂ (s₂.toks + 1))
  have il₃ := isList_keeps il x₃.keep
  obtain ⟨n₃, e₃⟩ := id il₃
  refine ki_setAt (n := n₃) e₃ h0 (by lia) (by rw [← Array.length_toList, hl]; exact h1) ?_
  have hs' := Heap.SameBut.update (s₂.heap) D (Obj.mapSeq (·.setIfInBounds a.toNat (.int (ns.getD a.toNat 0 + b) s₂.toks)))
  have hl' : (s₂.heap.update D (Obj.mapSeq (·.setIfInBounds a.toNat (.int (ns.getD a.toNat 0 + b) s₂.toks)))).PlainList D (vs.setIfInBounds a.toNat (.int (ns.getD a.toNat 0 + b) s₂.toks)) := ⟨_, IsL.update (n := n₃) e₃ _⟩
  rw [← hg']
  generalize s₂.heap.update D (Obj.mapSeq (·.setIfInBounds a.toNat (.int (ns.getD a.toNat 0 + b) s₂.toks))) = h' at hs' hl' ⊢
  refine hN _ O _ ⟨fun c o ec _ _ hc => (hs'.2 c fun q => hc x (q ▸ hm)).trans (x₃.keep c o ec), ?_⟩ (Grow.refl _ _) ?_ h₂
  · obtain ⟨hh, tk, e3⟩ := x₃.same
    exact ⟨h', tk, by have := congrArg (fun z : Shared => ({ z with heap := h' } : Shared)) e3; simpa using this⟩
  · refine (S.ext x₃).mut hm (bd.keeps x₃.keep) hs' il₃ hl' (as := []) ?_ (fun _ h => nomatch h)
    exact pi_set (r.keeps x₃.keep) a.toNat ha _ _
theorem x1_item_sub {x : Str} {px pos tpos : Pos} {ns : List Int} {i e : Expr} (hk : env.scope.kind = .function) (hg : gt m x = some (.own (PI ns))) (hf : (ns.length : Int) < 2 ^ 63)
    (h : EvI p w h₀ A env m i fun a => (0 ≤ a ∧ a < ns.length) ∧ EvI p w h₀ A env m e fun b => N (st m x (.own (PI (ns.set a.toNat (ns.getD a.toNat 0 - b))))))
    (hi : ∀ ov iv new, augStore i ov iv new = (do holding [new, ov, iv] (setItem ov iv new); release [new, ov, iv] []; pure .next) := by intros; rfl) (hd : (x == ("__debug__" : Str)) = false := by decide) :
    X1 p w h₀ A env m (.AugAssign (.Subscript (.Name x px) i tpos) .Sub e pos) N T := fun s O Q E S hN _ => by
  obtain ⟨v, bd, D, vs, as, rfl, hm, il, r, n⟩ := S.vars x _ hg
  refine wpAny_AugAssign_SubscriptAny (load_bound hk bd (h s O _ E S fun a t s₁ x₁ h₁ => ?_) hd) hi
  obtain ⟨⟨h0, h1⟩, h₁⟩ := h₁
  have il₁ := isList_keeps il x₁.keep
  have r₁ := r.keeps x₁.keep
  have ha : a.toNat < ns.length := by lia
  have hg' : ns.getD a.toNat 0 = ns[a.toNat] := by simp [List.getD, ha]
  obtain ⟨_, f⟩ := r₁.ofPI
  obtain ⟨u, e1⟩ := f a.toNat ha
  have hl : vs.toList.length = ns.length := by rw [r.length]; simp [PI]
  refine wpAny_getItem_list il₁.isList h0 (by lia) (by simpa using e1) ?_
  refine h₁ s₁ O _ E (S.ext x₁) fun b t' s₂ x₂ h₂ => PySem.P.isub_int ?_
  have x₃ := (x₁.trans x₂).trans (Ext.tok s₂ (s₂.toks + 1))
  have il₃ := isList_keeps il x₃.keep
  obtain ⟨n₃, e₃⟩ := id il₃
  refine ki_setAt (n := n₃) e₃ h0 (by lia) (by rw [← Array.length_toList, hl]; exact h1) ?_
  have hs' := Heap.SameBut.update (s₂.heap) D (Obj.mapSeq (·.setIfInBounds a.toNat (.int (ns.getD a.toNat 0 - b) s₂.toks)))
  have hl' : (s₂.heap.update D (Obj.mapSeq (·.setIfInBounds a.toNat (.int (ns.getD a.toNat 0 - b) s₂.toks)))).PlainList D (vs.setIfInBounds a.toNat (.int (ns.getD a.toNat 0 - b) s₂.toks)) := ⟨_, IsL.update (n := n₃) e₃ _⟩
  rw [← hg']
  generalize s₂.heap.update D (Obj.mapSeq (·.setIfInBounds a.toNat (.int (ns.getD a.toNat 0 - b) s₂.toks))) = h' at hs' hl' ⊢
  refine hN _ O _ ⟨fun c o ec _ _ hc => (hs'.2 c fun q => hc x (q ▸ hm)).trans (x₃.keep c o ec), ?_⟩ (Grow.refl _ _) ?_ h₂
  · obtain ⟨hh, tk, e3⟩ := x₃.same
    exact ⟨h', tk, by have := congrArg (fun z : Shared => ({ z with heap := h' } : Shared)) e3; simpa using this⟩
  · refine (S.ext x₃).mut hm (bd.keeps x₃.keep) hs' il₃ hl' (as := []) ?_ (fun _ h => nomatch h)
    exact pi_set (r.keeps x₃.keep) a.toNat ha _ _
end

def IterAt (O : Owns) (h : Heap) (it : Addr) (ds : List PyData) : Prop :=
  (∃ l i vs as, h.IsListIter it l i ∧ h.PlainList l vs ∧ RdAll h (vs.toList.drop i) ds as ∧ (∀ y, (y, l) ∉ O) ∧ ∀ a ∈ as, ∀ y, (y, a) ∉ O) ∨
  (∃ (x : Int) (n : Nat), IsRangeIter h it x n 1 ∧ ds = (List.range n).map fun i => PyData.int (x + (i : Nat)))

theorem iter_fields {O : Owns} {h : Heap} {it : Addr} {ds : List PyData} (i : IterAt O h it ds) : ∃ o vs, h.get? it = some o ∧ o.data = .fields vs := by
  rcases i with ⟨l, i, vs, as, ⟨o, ho, _, hd⟩, _⟩ | ⟨x, n, hr, _⟩
  · exact ⟨o, _, ho, hd⟩
  · exact ⟨_, _, hr, rfl⟩
theorem iter_not_list {O : Owns} {h : Heap} {it : Addr} {ds : List PyData} (i : IterAt O h it ds) (vs : Array Value) : ¬ h.PlainList it vs := fun ⟨k, ho⟩ => by
  obtain ⟨o', vs', ho', hd'⟩ := iter_fields i
  rw [ho] at ho'; cases ho'
  cases hd'
theorem iter_not_ns {O : Owns} {h : Heap} {it : Addr} {ds : List PyData} (i : IterAt O h it ds) {mr : Str → Option Value} : ¬ h.Ns it mr := fun ⟨o, es, ep, ho, hd, _⟩ => by
  obtain ⟨o', vs', ho', hd'⟩ := iter_fields i
  rw [ho] at ho'; cases ho'
  rw [hd] at hd'; cases hd'
theorem iter_not_cell {O : Owns} {h : Heap} {it : Addr} {ds : List PyData} (i : IterAt O h it ds) {v : Option Value} : ¬ h.IsCell it v := fun ⟨o, ho, hd⟩ => by
  obtain ⟨o', vs', ho', hd'⟩ := iter_fields i
  rw [ho] at ho'; cases ho'
  rw [hd] at hd'; cases hd'

section
variable {p : Program} {w : World} {h₀ : Heap} {A : Around} {env : Env} {m : Locs} {N : Locs → Prop} {T : PyData → Prop}

theorem IterAt.pres {O O' : Owns} {s s' : Shared} {it : Addr} {ds : List PyData} (i : IterAt O s.heap it ds) (S : St h₀ env O m s.heap) (a : Pres env O s s') (g : Grow s O O') : IterAt O' s'.heap it ds := by
  have keepL : ∀ l vs, s.heap.PlainList l vs → (∀ y, (y, l) ∉ O) → ∀ o, s.heap.get? l = some o → s'.heap.get? l = some o := fun l vs il no o ho =>
    a.keep l o ho (fun q => by obtain ⟨mr, n⟩ := S.frame; exact ns_not_list n vs (q ▸ il)) (fun x hx => by obtain ⟨v, c⟩ := S.cells x l hx; exact cell_not_list c vs il) no
  have keepI : ∀ o, s.heap.get? it = some o → s'.heap.get? it = some o := fun o ho =>
    a.keep it o ho (fun q => by obtain ⟨mr, n⟩ := S.frame; exact iter_not_ns i (q ▸ n)) (fun x hx => by obtain ⟨v, c⟩ := S.cells x it hx; exact iter_not_cell i c) fun x hx => by obtain ⟨vs, il⟩ := S.lists x it hx; exact iter_not_list i vs il
  have noO : ∀ l vs, s.heap.PlainList l vs → (∀ y, (y, l) ∉ O) → ∀ y, (y, l) ∉ O' := fun l vs il no y hy => by
    rcases g y l hy with ⟨z, hz⟩ | q
    · exact no z hz
    · obtain ⟨k, ho⟩ := il; rw [q] at ho; cases ho
  rcases i with ⟨l, i, vs, as, ⟨o, ho, r1⟩, il, r, no, na⟩ | ⟨x, n, hr, e⟩
  · refine .inl ⟨l, i, vs, as, ⟨o, keepI o ho, r1⟩, il.at (keepL l vs il no), r.at fun b hb ob hob => ?_, noO l vs il no, fun b hb => ?_⟩
    · obtain ⟨vs', il'⟩ := r.lists b hb
      exact keepL b vs' il' (na b hb) ob hob
    · obtain ⟨vs', il'⟩ := r.lists b hb
      exact noO b vs' il' (na b hb)
  · exact .inr ⟨x, n, keepI _ hr, e⟩

theorem next_item {O : Owns} {s : Shared} {E : Value → Shared → Prop} {it : Addr} {d : PyData} {ds : List PyData} {Q : Option Value → Shared → Prop} (i : IterAt O s.heap it (d :: ds))
    (hQ : ∀ v as h' tk, Heap.SameBut it s.heap h' → IterAt O h' it ds → Rd h' v d as → (∀ a ∈ as, ∀ y, (y, a) ∉ O) → Q (some v) { s with heap := h', toks := tk }) : wpAny (model p w) A (pyNext (.ref it)) Q E s := by
  rcases id i with ⟨l, j, vs, as, hit, il, r, no, na⟩ | ⟨x, n, hr, e⟩
  · generalize hvs : vs.toList.drop j = tl at r
    cases r with
    | cons rv rr =>
      rename_i v vs' as' bs
      have hj : vs.toList[j]? = some v := by
        have := congrArg (fun l => l[0]?) hvs
        simpa using this
      have hd' : vs.toList.drop (j + 1) = vs' := by
        have := congrArg List.tail hvs
        simpa using this
      refine wpAny_pyNext_list_item hit il.isList (by simpa using hj) fun h' hit' hs' => ?_
      have keep : ∀ b vb, s.heap.PlainList b vb → ∀ o, s.heap.get? b = some o → h'.get? b = some o := fun b vb ib o ho => (hs'.2 b fun q => iter_not_list i vb (q ▸ ib)).trans ho
      refine hQ v as' h' s.toks hs' (.inl ⟨l, j + 1, vs, bs, hit', ?_, ?_, no, fun a ha => na a (List.mem_append_right _ ha)⟩) (rv.at fun b hb o ho => ?_) fun a ha => na a (List.mem_append_left _ ha)
      · exact il.at (keep l vs il)
      · rw [hd']
        exact rr.at fun b hb o ho => by obtain ⟨vb, ib⟩ := rr.lists b hb; exact keep b vb ib o ho
      · obtain ⟨vb, ib⟩ := rv.lists b hb
        exact keep b vb ib o ho
  · cases n with
    | zero => cases e
    | succ n =>
      rw [List.range_succ_eq_map, List.map_cons, List.map_map] at e
      obtain ⟨e1, e2⟩ := List.cons.inj e
      subst e1
      refine wpAny_pyNext_range_item hr (by lia) fun h' hr' hs' => ?_
      have ex : x + ((0 : Nat) : Int) = x := by simp
      refine hQ _ [] h' _ hs' (.inr ⟨x + 1, n, ?_, ?_⟩) (by rw [ex]; exact .int x s.toks) (fun _ h => nomatch h)
      · have : ((n + 1 : Nat) : Int) - 1 = (n : Nat) := by lia
        rw [this] at hr'; exact hr'
      · rw [e2]
        refine List.map_congr_left fun k _ => ?_
        simp only [Function.comp]
        congr 1
        lia
theorem next_none {O : Owns} {s : Shared} {E : Value → Shared → Prop} {it : Addr} {Q : Option Value → Shared → Prop} (hh : A.handled = none) (i : IterAt O s.heap it [])
    (hQ : ∀ h', Heap.ExtBut it s.heap h' → Q none { s with heap := h' }) : wpAny (model p w) A (pyNext (.ref it)) Q E s := by
  rcases id i with ⟨l, j, vs, as, hit, il, r, no, na⟩ | ⟨x, n, hr, e⟩
  · generalize hvs : vs.toList.drop j = tl at r
    cases r
    have hj : vs.toList[j]? = none := by
      have := congrArg (fun l => l[0]?) hvs
      simpa using this
    exact wpAny_pyNext_list_end hh hit il.isList (by simpa using hj) hQ
  · cases n with
    | zero => exact wpAny_pyNext_range_end hh hr (by simp) hQ
    | succ n => rw [List.range_succ_eq_map] at e; cases e

theorem St.iter {O : Owns} {h h' : Heap} {it : Addr} {ds : List PyData} (S : St h₀ env O m h) (i : IterAt O h it ds) (hn : h₀.get? it = none) (hs : Heap.ExtBut it h h') : St h₀ env O m h' := by
  refine S.turn hs hn ?_ (fun x c hc => ?_) (iter_not_list i) m fun x l e => ?_
  · obtain ⟨mr, n⟩ := S.frame
    exact ⟨mr, n.extBut hs fun q => iter_not_ns i (q ▸ n)⟩
  · obtain ⟨v, o, ho, hd⟩ := S.cells x c hc
    exact ⟨v, o, hs c o (fun q => iter_not_cell (v := v) i ⟨o, q ▸ ho, hd⟩) ho, hd⟩
  · obtain ⟨v, bd, r⟩ := S.vars x l e
    refine ⟨v, ?_, r⟩
    rcases bd with ⟨k, mr, n, e'⟩ | ⟨k, c, hc, o, ho, hd⟩
    · exact .inl ⟨k, mr, n.extBut hs fun q => iter_not_ns i (q ▸ n), e'⟩
    · exact .inr ⟨k, c, hc, o, hs c o (fun q => iter_not_cell (v := some v) i ⟨o, q ▸ ho, hd⟩) ho, hd⟩

def It (p : Program) (w : World) (h₀ : Heap) (A : Around) (env : Env) (m : Locs) (e : Expr) (k : List PyData → Prop) : Prop :=
  ∀ (s : Shared) (O : Owns) (Q : Value → Shared → Prop) (E : Value → Shared → Prop), St h₀ env O m s.heap →
    (∀ it ds s', Ext s s' → s.heap.get? it = none → IterAt O s'.heap it ds → k ds → Q (.ref it) s') →
    wpAny (model p w) A (eval e env) (fun x s₁ => wpAny (model p w) A (pyIter x) Q E s₁) E s

def ForW (p : Program) (w : World) (h₀ : Heap) (A : Around) (env : Env) (x : Str) (body : List Stmt) (N : Locs → Prop) (T : PyData → Prop) : List PyData → Locs → Prop
  | [], m => N m
  | d :: ds, m => Ex p w h₀ A env (st m x (.val d)) body (fun m' => ForW p w h₀ A env x body N T ds m') T

theorem x1_for {x : Str} {px pos : Pos} {e : Expr} {body : List Stmt} (hh : A.handled = none) (hk : env.scope.kind = .function) (hx : Stored env x)
    (h : It p w h₀ A env m e fun ds => ForW p w h₀ A env x body N T ds m) (hs : ∀ x, foldedSetIterable e env x = pure x := by intro _; rfl) :
    X1 p w h₀ A env m (.For (.Name x px) e body [] pos) N T := fun s O Q E S hN hT => by
  refine wpAny_For (h s O _ E S fun it ds s₁ x₁ hnew hit hf => ?_) hs
  have hg0 : h₀.get? it = none := by
    cases q : h₀.get? it with
    | none => rfl
    | some o => rw [S.ground it o q] at hnew; cases hnew
  refine codeAny_forLoop (fun n s' => ∃ ds m' O', n = ds.length + 1 ∧ Pres env O s s' ∧ Grow s O O' ∧ St h₀ env O' m' s'.heap ∧ IterAt O' s'.heap it ds ∧ ForW p w h₀ A env x body N T ds m')
    (fun n s₂ hI => ?_) (ds.length + 1) ⟨ds, m, O, rfl, x₁.pres env O, Grow.refl _ _, S.ext x₁, hit, hf⟩
  obtain ⟨ds, m', O', rfl, pr, g, S', it', hf⟩ := hI
  cases ds with
  | nil =>
    refine next_none hh it' fun h' hs' => wpAny_execs_nil ?_
    refine hN m' O' _ ⟨fun b o e h1 h2 h3 => hs' b o (fun q => by rw [q, hnew] at e; cases e) (pr.keep b o e h1 h2 h3), ?_⟩ g (S'.iter it' hg0 hs') hf
    obtain ⟨h1, tk, rfl⟩ := pr.same
    exact ⟨h', tk, rfl⟩
  | cons d ds =>
    refine next_item it' fun v as h' tk hs' it₂ rv nv => ?_
    have S₂ : St h₀ env O' m' h' := S'.iter it' hg0 hs'.extBut
    have pr₂ : Pres env O s { s₂ with heap := h', toks := tk } := by
      refine ⟨fun b o e h1 h2 h3 => hs'.extBut b o (fun q => by rw [q, hnew] at e; cases e) (pr.keep b o e h1 h2 h3), ?_⟩
      obtain ⟨h1, tk, rfl⟩ := pr.same
      exact ⟨h', _, rfl⟩
    refine wpAny_assign_Name (store_any (l := .val d) (s := { s₂ with heap := h', toks := tk }) hk hx S₂ ⟨as, rv, nv⟩ fun s₃ pr₃ S₃ => ?_)
    have it₃ := IterAt.pres (s := { s₂ with heap := h', toks := tk }) it₂ S₂ pr₃ (Grow.refl _ _)
    have pr₃' := pr₂.trans (h₀ := h₀) g pr₃
    refine hf s₃ O' _ _ S₃ (fun m'' O'' s₄ pr₄ g₄ S₄ hk' => ⟨ds.length + 1, by simp, ds, m'', O'', rfl, pr₃'.trans (h₀ := h₀) g pr₄, g.trans pr₃' S₃ g₄, S₄, it₃.pres S₃ pr₄ g₄, hk'⟩) fun v d as s₄ pr₄ r f t => ?_
    exact hT v d as s₄ (pr₃'.trans (h₀ := h₀) g pr₄) r (ret_back pr₃' g S₃ f) t

def WhW (p : Program) (w : World) (h₀ : Heap) (A : Around) (env : Env) (t : Expr) (body : List Stmt) (N : Locs → Prop) (T : PyData → Prop) : Nat → Locs → Prop
  | 0, _ => False
  | n + 1, m => Tst p w h₀ A env m t fun b => if b then Ex p w h₀ A env m body (fun m' => WhW p w h₀ A env t body N T n m') T else N m

theorem x1_while {t : Expr} {pos : Pos} {body : List Stmt} (n : Nat) (h : WhW p w h₀ A env t body N T n m) : X1 p w h₀ A env m (.While t body [] pos) N T := fun s O Q E S hN hT => by
  refine wpAny_While (codeAny_whileLoop (fun n s' => ∃ m' O', Pres env O s s' ∧ Grow s O O' ∧ St h₀ env O' m' s'.heap ∧ WhW p w h₀ A env t body N T n m') (fun n s₂ hI => ?_) n ⟨m, O, (Ext.refl s).pres env O, Grow.refl _ _, S, h⟩)
  obtain ⟨m', O', pr, g, S', hw⟩ := hI
  cases n with
  | zero => exact hw.elim
  | succ n =>
    refine hw s₂ O' _ _ S' fun b s₃ x₃ hb => ?_
    have S₃ := S'.ext x₃
    have pr₃ := pr.trans (h₀ := h₀) g (x₃.pres env O')
    cases b with
    | true =>
      refine hb s₃ O' _ _ S₃ (fun m'' O'' s₄ pr₄ g₄ S₄ hk' => ⟨n, Nat.lt_succ_self n, m'', O'', pr₃.trans (h₀ := h₀) g pr₄, g.trans pr₃ S₃ g₄, S₄, hk'⟩) fun v d as s₄ pr₄ r f t => ?_
      exact hT v d as s₄ (pr₃.trans (h₀ := h₀) g pr₄) r (ret_back pr₃ g S₃ f) t
    | false => exact wpAny_execs_nil (hN m' O' s₃ pr₃ g S₃ hb)
end

structure EnvOk (env : Env) : Prop where
  kind : env.scope.kind = .function
  glob : env.globals = mainGlobals
  blt : env.builtins = builtinsNs

def Bi (h₀ : Heap) (x : Str) (v : Value) : Prop := ∃ mg mb, h₀.Ns mainGlobals mg ∧ mg x = none ∧ h₀.Ns builtinsNs mb ∧ mb x = some v
def Gl (h₀ : Heap) (x : Str) (v : Value) : Prop := ∃ mg, h₀.Ns mainGlobals mg ∧ mg x = some v

section
variable {p : Program} {w : World} {h₀ : Heap} {A : Around} {env : Env} {m : Locs} {N : Locs → Prop} {T : PyData → Prop}

theorem St.noO {O : Owns} {h : Heap} (S : St h₀ env O m h) {a : Addr} (e : h.get? a = none) (x : Str) : (x, a) ∉ O := fun hm => by
  obtain ⟨vs, n, ho⟩ := S.lists x a hm
  rw [e] at ho; cases ho
theorem foot_fresh {O : Owns} {s : Shared} (S : St h₀ env O m s.heap) (c : Cls) {a : Addr} (e : s.heap.get? a = none) : Foot O s c a := by
  cases c with
  | any => trivial
  | plain => exact S.noO e
  | ret => exact .inl e
  | fresh => exact e

def EvP (p : Program) (w : World) (h₀ : Heap) (A : Around) (env : Env) (m : Locs) (e : Expr) (k : List Int → Prop) : Prop :=
  ∀ (s : Shared) (O : Owns) (Q : Value → Shared → Prop) (E : Value → Shared → Prop), St h₀ env O m s.heap →
    (∀ a vs ns s', Ext s s' → s'.heap.PlainList a vs → RdAll s'.heap vs.toList (PI ns) [] → k ns → Q (.ref a) s') → wpAny (model p w) A (eval e env) Q E s

theorem ev_new {c : Cls} {e : Expr} {k : PyData → Prop} (h : EvN p w h₀ A env m e fun ds => k (.list ds)) : Ev p w h₀ A env c m e k := fun s O Q E S hQ =>
  h s O Q E S fun a vs as ds s' x hn i r f hk => hQ _ _ _ s' x (.list i r) (fun b hb => by
    rcases List.mem_cons.mp hb with rfl | hb
    · exact foot_fresh S c hn
    · exact foot_fresh S c (f b hb).1) hk
theorem evP_new {e : Expr} {k : List Int → Prop} (h : EvN p w h₀ A env m e fun ds => ∃ ns, ds = PI ns ∧ k ns) : EvP p w h₀ A env m e k := fun s O Q E S hQ =>
  h s O Q E S fun a vs as ds s' x hn i r f ⟨ns, e, hk⟩ => by
    subst e
    obtain ⟨rfl, _⟩ := r.ofPI
    exact hQ _ _ _ s' x i r hk
theorem evP_name {x : Str} {pos : Pos} {l : Loc} {ns : List Int} {k : List Int → Prop} (ok : EnvOk env) (hx : gt m x = some l) (hl : l.data = .list (PI ns)) (h : k ns) (hd : (x == ("__debug__" : Str)) = false := by decide) :
    EvP p w h₀ A env m (.Name x pos) k := fun s O Q E S hQ => by
  obtain ⟨v, b, r⟩ := S.vars x _ hx
  obtain ⟨as, r⟩ := locRel_reads r
  rw [hl] at r
  cases r with
  | list i q =>
    obtain ⟨rfl, _⟩ := q.ofPI
    exact load_bound ok.kind b (hQ _ _ _ _ (Ext.refl s) i q h) hd

theorem size_pi {h : Heap} {vs : Array Value} {ns : List Int} {as : List Addr} (r : RdAll h vs.toList (PI ns) as) : vs.size = ns.length := by
  rw [← Array.length_toList, r.length]; simp [PI]
theorem size_ds {h : Heap} {vs : Array Value} {ds : List PyData} {as : List Addr} (r : RdAll h vs.toList ds as) : vs.size = ds.length := by
  rw [← Array.length_toList, r.length]

theorem evI_item {b i : Expr} {pos : Pos} {k : Int → Prop} (h : EvP p w h₀ A env m b fun ns => EvI p w h₀ A env m i fun a => (0 ≤ a ∧ a < ns.length ∧ (ns.length : Int) < 2 ^ 63) ∧ k (ns.getD a.toNat 0))
    (hs : ∀ l x u, subscripted i false (.ref l) (.int x u) = operate [.ref l, .int x u] (getItem (.ref l) (.int x u)) := by intros; with_unfolding_all rfl) :
    EvI p w h₀ A env m (.Subscript b i pos) k := fun s O Q E S hQ =>
  Subscript_ (h s O _ E S fun l vs ns s₁ x₁ il r h₁ => h₁ s₁ O _ E (S.ext x₁) fun a t s₂ x₂ ⟨⟨h0, h1, h2⟩, hk⟩ => by
    have il₂ := isList_keeps il x₂.keep
    have ha : a.toNat < ns.length := by lia
    obtain ⟨_, f⟩ := r.ofPI
    obtain ⟨u, e⟩ := f a.toNat ha
    have hg : ns.getD a.toNat 0 = ns[a.toNat] := by simp [List.getD, ha]
    rw [hg] at hk
    exact tail_any il₂.isList.typeIs slot_list_getitem.lookup (wpAny_getItem_list il₂.isList h0 (by lia) (by simpa using e) (hQ _ _ _ (x₁.trans x₂) hk)) (hs l a t))

def EvS (p : Program) (w : World) (h₀ : Heap) (A : Around) (env : Env) (c : Cls) (m : Locs) (pos : Pos) (es : List Expr) (k : List PyData → Prop) : Prop :=
  ∀ (s : Shared) (O : Owns) (Q : List Value → Shared → Prop) (E : Value → Shared → Prop), St h₀ env O m s.heap →
    (∀ vs ds as s', Ext s s' → RdAll s'.heap vs ds as → (∀ a ∈ as, Foot O s c a) → k ds → Q vs s') → wpAny (model p w) A (spliced (backTo pos (starEach es env))) Q E s
theorem evS_nil {c : Cls} {pos : Pos} {k : List PyData → Prop} (h : k []) : EvS p w h₀ A env c m pos [] k := fun s O Q E S hQ => spliced_none (hQ [] [] [] s (Ext.refl s) .nil (fun _ h => nomatch h) h)
theorem foot_back {O : Owns} {s s' : Shared} (x : Ext s s') {c : Cls} {a : Addr} (h : Foot O s' c a) : Foot O s c a := by
  cases c with
  | any => trivial
  | plain => exact h
  | ret => exact h.imp x.fresh id
  | fresh => exact x.fresh h
theorem evS_cons {c : Cls} {pos : Pos} {e : Expr} {es : List Expr} {k : List PyData → Prop} (h : Ev p w h₀ A env c m e fun d => EvS p w h₀ A env c m pos es fun ds => k (d :: ds))
    (he : starEach (e :: es) env = (false, eval e env) :: starEach es env := by rfl) : EvS p w h₀ A env c m pos (e :: es) k := fun s O Q E S hQ =>
  spliced_more (h s O _ E S fun v d as s₁ x₁ r f h₁ => h₁ s₁ O _ E (S.ext x₁) fun vs ds bs s₂ x₂ q g hk => hQ _ _ _ s₂ (x₁.trans x₂) (.cons (r.keeps x₂.keep) q) (fun a ha => by
    rcases List.mem_append.mp ha with ha | ha
    · exact f a ha
    · exact foot_back x₁ (g a ha)) hk) he

theorem new_plain (h : Heap) (vs : List Value) : (h.push { cls := .type "list", data := .seq vs.toArray }).PlainList h.objs.size vs.toArray := ⟨0, Heap.get?_push_size _ rfl⟩
theorem size_none (h : Heap) : h.get? h.objs.size = none := by
  cases q : h.get? h.objs.size with
  | none => rfl
  | some o => exact absurd (Heap.lt_size q) (Nat.lt_irrefl _)
theorem size_ne {h : Heap} {a : Addr} {vs : Array Value} (i : h.PlainList a vs) : a ≠ h.objs.size := fun q => by
  obtain ⟨n, e⟩ := i
  rw [q, size_none] at e; cases e

theorem evN_disp {es : List Expr} {pos : Pos} {k : List PyData → Prop} (h : EvS p w h₀ A env .fresh m pos es fun ds => ds.length ≤ sizeLine ∧ k ds) : EvN p w h₀ A env m (.List es pos) k := fun s O Q E S hQ =>
  List_ (h s O _ E S fun vs ds as s₁ x₁ r f ⟨hz, hk⟩ => wpAny_newObj_type (hQ _ vs.toArray as ds { s₁ with heap := s₁.heap.push { cls := .type "list", data := .seq vs.toArray } } (x₁.push _ s₁.toks) (x₁.fresh (size_none _)) (new_plain _ _) ((show RdAll s₁.heap vs.toArray.toList ds as from r).keeps fun _ _ e => Heap.get?_push_of_some _ e) (fun b hb => ⟨f b hb, fun q => by
    obtain ⟨vb, ib⟩ := r.lists b hb
    exact size_ne ib q⟩) hk) (by show vs.toArray.size ≤ sizeLine; rw [List.size_toArray, r.length]; exact hz))
theorem ev_disp {c : Cls} {es : List Expr} {pos : Pos} {k : PyData → Prop} (h : EvS p w h₀ A env c m pos es fun ds => ds.length ≤ sizeLine ∧ k (.list ds)) : Ev p w h₀ A env c m (.List es pos) k := fun s O Q E S hQ =>
  List_ (h s O _ E S fun vs ds as s₁ x₁ r f ⟨hz, hk⟩ => wpAny_newObj_type (hQ _ _ _ { s₁ with heap := s₁.heap.push { cls := .type "list", data := .seq vs.toArray } } (x₁.push _ s₁.toks) (.list (new_plain _ _) ((show RdAll s₁.heap vs.toArray.toList ds as from r).keeps fun _ _ e => Heap.get?_push_of_some _ e)) (fun b hb => by
    rcases List.mem_cons.mp hb with rfl | hb
    · exact foot_fresh S c (x₁.fresh (size_none _))
    · exact f b hb) hk) (by show vs.toArray.size ≤ sizeLine; rw [List.size_toArray, r.length]; exact hz))

theorem evN_add {l r : Expr} {pos : Pos} {k : List PyData → Prop} (h : EvP p w h₀ A env m l fun ns => EvP p w h₀ A env m r fun ms => ns.length + ms.length ≤ sizeLine ∧ k (PI (ns ++ ms))) : EvN p w h₀ A env m (.BinOp l .Add r pos) k := fun s O Q E S hQ =>
  wpAny_BinOp (h s O _ E S fun a vs ns s₁ x₁ i q h₁ => h₁ s₁ O _ E (S.ext x₁) fun b vs' ms s₂ x₂ i' q' ⟨hz, hk⟩ => by
    obtain ⟨n1, e1⟩ := isList_keeps i x₂.keep
    obtain ⟨n2, e2⟩ := id i'
    refine PySem.P.add_list (n := n1) (n2 := n2) e1 e2 ?_ (by rw [size_pi q, size_pi q']; exact hz)
    refine hQ _ (vs ++ vs') [] _ { s₂ with heap := s₂.heap.push { cls := .type "list", data := .seq (vs ++ vs') } } ((x₁.trans x₂).push _ s₂.toks) ((x₁.trans x₂).fresh (size_none _)) ⟨0, Heap.get?_push_size _ rfl⟩ ?_ (fun _ h => nomatch h) hk
    have q1 := (q.ofPI).2
    have q2 := (q'.ofPI).2
    have l1 := size_pi q
    have l2 := size_pi q'
    refine rdAll_of_ints _ _ (by simp [l1, l2]) fun i hi => ?_
    by_cases hc : i < ns.length
    · obtain ⟨t, e⟩ := q1 i hc
      exact ⟨t, by rw [Array.toList_append, List.getElem?_append_left (by simpa [l1] using hc), e, List.getElem_append_left hc]⟩
    · have hi' : i - ns.length < ms.length := by simp at hi; lia
      obtain ⟨t, e⟩ := q2 (i - ns.length) hi'
      refine ⟨t, ?_⟩
      rw [Array.toList_append, List.getElem?_append_right (by simp [l1]; lia), List.getElem_append_right (by lia)]
      simpa [l1] using e)

theorem pi_replicate {h : Heap} {ns : List Int} {vs : Array Value} (r : RdAll h vs.toList (PI ns) []) : ∀ n : Nat, ∃ zs : List Value, (List.foldl (fun x1 x2 => x1 ++ x2) #[] (List.replicate n vs)).toList = zs ∧ RdAll h zs (PI (List.replicate n ns).flatten) [] := by
  have app : ∀ {us us' : List Value} {ms ms' : List Int}, RdAll h us (PI ms) [] → RdAll h us' (PI ms') [] → RdAll h (us ++ us') (PI (ms ++ ms')) [] := by
    intro us us' ms ms' a b
    obtain ⟨_, fa⟩ := a.ofPI
    obtain ⟨_, fb⟩ := b.ofPI
    have la : us.length = ms.length := by rw [a.length]; simp [PI]
    have lb : us'.length = ms'.length := by rw [b.length]; simp [PI]
    refine rdAll_of_ints _ _ (by simp [la, lb]) fun i hi => ?_
    by_cases hc : i < ms.length
    · obtain ⟨t, e⟩ := fa i hc
      exact ⟨t, by rw [List.getElem?_append_left (by lia), e, List.getElem_append_left hc]⟩
    · have hi' : i - ms.length < ms'.length := by simp at hi; lia
      obtain ⟨t, e⟩ := fb (i - ms.length) hi'
      refine ⟨t, ?_⟩
      rw [List.getElem?_append_right (by lia), List.getElem_append_right (by lia), la, e]
  have gen : ∀ (n : Nat) (acc : Array Value) (ms : List Int), RdAll h acc.toList (PI ms) [] → RdAll h (List.foldl (fun x1 x2 => x1 ++ x2) acc (List.replicate n vs)).toList (PI (ms ++ (List.replicate n ns).flatten)) [] := by
    intro n
    induction n with
    | zero => intro acc ms a; simpa using a
    | succ n ih =>
      intro acc ms a
      rw [List.replicate_succ, List.foldl_cons, List.replicate_succ, List.flatten_cons, ← List.append_assoc]
      refine ih _ _ ?_
      rw [Array.toList_append]
      exact app a r
  exact fun n => ⟨_, rfl, by simpa using gen n #[] [] .nil⟩

theorem evN_mul {l r : Expr} {pos : Pos} {k : List PyData → Prop} (h : EvP p w h₀ A env m l fun ns => EvI p w h₀ A env m r fun n => (ns ≠ [] ∧ 0 ≤ n ∧ n < 2 ^ 63 ∧ ns.length * n.toNat ≤ 2 ^ 24) ∧ k (PI (List.replicate n.toNat ns).flatten)) : EvN p w h₀ A env m (.BinOp l .Mult r pos) k := fun s O Q E S hQ =>
  wpAny_BinOp (h s O _ E S fun a vs ns s₁ x₁ i q h₁ => h₁ s₁ O _ E (S.ext x₁) fun n u s₂ x₂ ⟨⟨hne, h0, h1, hz⟩, hk⟩ => by
    obtain ⟨n1, e1⟩ := isList_keeps i x₂.keep
    have sz := size_pi q
    have he : vs.isEmpty = false := by
      cases ns with
      | nil => exact absurd rfl hne
      | cons z zs => simp [Array.isEmpty, sz]
    refine wpAny_binaryOp_repeat_ref (T := "list") (U := "int") (by decide) ⟨_, e1, rfl⟩ (fun s' => typeIs_int s' n u) noFill_list_mul F.fills_int_mul F.slot_int_rmul repeat_list F.slot_int_index.lookup
      (call_meets F.slot_int_rmul (typeIs_int _ n u) F.entry_int_rmul (F.args_int_rmul_2 _ _) (int___rmul___int_list n u a vs n1)
        ⟨e1, rfl, ⟨_, e1, rfl⟩, call_meets F.slot_list_mul ⟨_, e1, rfl⟩ F.entry_list_mul (F.args_list_mul_2 _ _)
          (AutoListH.list___mul___list_int_3 a vs n1 n u (by simp [Builtin.List.listFitsIndex]; lia) (by rw [sz]; lia) (by simp [Builtin.List.listTooLong, sizeLine]; rw [sz]; lia))
          ⟨e1, ?_⟩⟩)
    obtain ⟨zs, ez, rz⟩ := pi_replicate (q.keeps x₂.keep) n.toNat
    refine hQ _ (List.foldl (fun x1 x2 => x1 ++ x2) #[] (List.replicate (if vs.isEmpty = true then 0 else n.toNat) vs)) [] _ { s₂ with heap := s₂.heap.push { cls := .type "list", data := .seq (List.foldl (fun x1 x2 => x1 ++ x2) #[] (List.replicate (if vs.isEmpty = true then 0 else n.toNat) vs)) } } ((x₁.trans x₂).push _ s₂.toks) ((x₁.trans x₂).fresh (size_none _)) ⟨0, Heap.get?_push_size _ rfl⟩ ?_ (fun _ h => nomatch h) hk
    rw [he]
    simp only [Bool.false_eq_true, if_false]
    rw [ez]
    exact rz.keeps fun _ _ e => Heap.get?_push_of_some _ e)
end

section
variable {p : Program} {w : World} {h₀ : Heap} {A : Around} {env : Env} {m : Locs} {N : Locs → Prop} {T : PyData → Prop}

-- slices
theorem slice_at {b : Expr} {lo hi stp : Option Expr} {sp pos : Pos} {s : Shared} {E : Value → Shared → Prop} {Q : Value → Shared → Prop}
    (h : wpAny (model p w) A (eval b env) (fun o s₁ => wpAny (model p w) A (evalPart lo env) (fun vl s₂ => wpAny (model p w) A (evalPart hi env) (fun vu s₃ => wpAny (model p w) A (evalPart stp env) (fun vt s₄ =>
      ∃ l vs xl xh xt, o = .ref l ∧ s₄.heap.PlainList l vs ∧ vs.size ≤ sizeLine ∧ IsPart vl xl ∧ IsPart vu xh ∧ IsPart vt xt ∧ xt ≠ some 0 ∧
        Q (.ref (s₄.heap.objs.size + 1)) { s₄ with heap := (s₄.heap.push { cls := .type "slice", data := .fields #[vl, vu, vt] }).push { cls := .type "list", data := .seq (slicePick vs xl xh xt) } }) E s₃) E s₂) E s₁) E s)
    (hs : ∀ a c, ∃ ops, subscripted (.Slice lo hi stp sp) false (.ref a) (.ref c) = operate ops (getItem (.ref a) (.ref c))) :
    wpAny (model p w) A (eval (.Subscript b (.Slice lo hi stp sp) pos) env) Q E s := by
  refine Subscript_ (wpAny_mono h (fun o s₁ h₁ => wpAny_Slice (wpAny_mono h₁ (fun vl s₂ h₂ => wpAny_mono h₂ (fun vu s₃ h₃ => wpAny_mono h₃ (fun vt s₄ h₄ => ?_) fun _ _ x => x) fun _ _ x => x) fun _ _ x => x)) fun _ _ x => x)
  obtain ⟨l, vs, xl, xh, xt, rfl, il, hz, pl, ph, pt, h0, hQ⟩ := h₄
  obtain ⟨ops, e⟩ := hs l s₄.heap.objs.size
  have il' : (s₄.heap.push { cls := .type "slice", data := .fields #[vl, vu, vt] }).IsList l vs := il.isList.push _
  refine tail_any (Heap.IsList.typeIs (s := { s₄ with heap := s₄.heap.push { cls := .type "slice", data := .fields #[vl, vu, vt] } }) il') slot_list_getitem.lookup (wpAny_getItem_list_slice il' (Heap.IsSliceOf.new ..) pl ph pt h0 ?_ hz) e
  rw [Heap.size_push]
  exact hQ
theorem slice_ext {s s' : Shared} (x : Ext s s') (o o' : Obj) : Ext s { s' with heap := (s'.heap.push o).push o' } := (x.push o s'.toks).push o' s'.toks
theorem slice_new {s s' : Shared} (x : Ext s s') : s.heap.get? (s'.heap.objs.size + 1) = none := x.fresh (by
  cases q : s'.heap.get? (s'.heap.objs.size + 1) with
  | none => rfl
  | some o => exact absurd (Heap.lt_size q) (Nat.not_lt.mpr (Nat.le_succ _)))
theorem slice_plain (h : Heap) (o : Obj) (vs : Array Value) : ((h.push o).push { cls := .type "list", data := .seq vs }).PlainList (h.objs.size + 1) vs := by
  have := Heap.get?_push_size (h.push o) (o := ({ cls := .type "list", data := .seq vs } : Obj)) rfl
  rw [Heap.size_push] at this
  exact ⟨0, this⟩

theorem evN_all {b : Expr} {sp pos : Pos} {k : List PyData → Prop} (h : EvP p w h₀ A env m b fun ns => ns.length ≤ sizeLine ∧ k (PI ns)) : EvN p w h₀ A env m (.Subscript b (.Slice none none none sp) pos) k := fun s O Q E S hQ =>
  slice_at (h s O _ E S fun a vs ns s₁ x₁ i q ⟨hz, hk⟩ => wpAny_evalPart_none (wpAny_evalPart_none (wpAny_evalPart_none ⟨a, vs, none, none, none, rfl, i, by rw [size_pi q]; exact hz, .none, .none, .none, by simp, by
    rw [slicePick_all]
    exact hQ _ vs [] (PI ns) _ (slice_ext x₁ _ _) (slice_new x₁) (slice_plain _ _ _) (q.keeps fun _ _ e => Heap.get?_push_of_some _ (Heap.get?_push_of_some _ e)) (fun _ h => nomatch h) hk⟩))) (fun _ _ => ⟨_, rfl⟩)
theorem evN_from {b lo : Expr} {sp pos : Pos} {k : List PyData → Prop} (h : EvP p w h₀ A env m b fun ns => EvI p w h₀ A env m lo fun a => (0 ≤ a ∧ ns.length ≤ sizeLine) ∧ k (PI (ns.drop a.toNat))) : EvN p w h₀ A env m (.Subscript b (.Slice (some lo) none none sp) pos) k := fun s O Q E S hQ =>
  slice_at (h s O _ E S fun a vs ns s₁ x₁ i q h₁ => wpAny_evalPart_some (h₁ s₁ O _ E (S.ext x₁) fun n t s₂ x₂ ⟨⟨h0, hz⟩, hk⟩ => wpAny_evalPart_none (wpAny_evalPart_none ⟨a, vs, some n, none, none, rfl, isList_keeps i x₂.keep, by rw [size_pi q]; exact hz, .int _ _, .none, .none, by simp, by
    have e : slicePick vs (some n) none none = (vs.toList.drop n.toNat).toArray := by
      have := slicePick_from' vs n.toNat
      rwa [show ((n.toNat : Nat) : Int) = n by lia] at this
    rw [e]
    refine hQ _ (vs.toList.drop n.toNat).toArray [] (PI (ns.drop n.toNat)) _ (slice_ext (x₁.trans x₂) _ _) (slice_new (x₁.trans x₂)) (slice_plain _ _ _) ?_ (fun _ h => nomatch h) hk
    obtain ⟨_, f⟩ := q.ofPI
    have hl := size_pi q
    refine rdAll_of_ints _ _ (by simp [hl]) fun j hj => ?_
    have hj' : n.toNat + j < ns.length := by simp at hj; lia
    obtain ⟨u, eu⟩ := f (n.toNat + j) hj'
    exact ⟨u, by simpa using eu⟩⟩))) (fun _ _ => ⟨_, rfl⟩)
theorem take_drop_min {α : Type} (l : List α) (n c : Nat) : (l.drop (min n l.length)).take (min c l.length - min n l.length) = (l.drop n).take (c - n) := by
  rcases Nat.le_total l.length n with h | h
  · rw [Nat.min_eq_right h, List.drop_eq_nil_of_le (Nat.le_refl _), List.drop_eq_nil_of_le h, List.take_nil, List.take_nil]
  · rw [Nat.min_eq_left h]
    rcases Nat.le_total c l.length with hc | hc
    · rw [Nat.min_eq_left hc]
    · rw [Nat.min_eq_right hc, List.take_of_length_le (by rw [List.length_drop]; exact Nat.le_refl _), List.take_of_length_le (by rw [List.length_drop]; exact Nat.sub_le_sub_right hc n)]
theorem min_nat {n : Int} (h : 0 ≤ n) (s : Nat) : min n (s : Int) = ((min n.toNat s : Nat) : Int) := by lia
theorem run_pick (vs : Array Value) {n c : Int} (h0 : 0 ≤ n) (h1 : 0 ≤ c) : slicePick vs (some n) (some c) none = ((vs.toList.drop n.toNat).take (c.toNat - n.toNat)).toArray := by
  have e : slicePick vs (some n) (some c) none = ((vs.toList.drop (min n.toNat vs.size)).take (min c.toNat vs.size - min n.toNat vs.size)).toArray := by
    refine kmk_pick_nat _ ?_
    simp only [sliceBounds, Option.getD_none, show (1 : Int) > 0 by decide, if_true, if_neg (Int.not_lt.mpr h0), if_neg (Int.not_lt.mpr h1), min_nat h0, min_nat h1, Int.max_eq_right (Int.natCast_nonneg _)]
  rw [e]
  congr 1
  rw [← Array.length_toList]
  exact take_drop_min vs.toList n.toNat c.toNat
theorem rdPI_drop {h : Heap} : ∀ (n : Nat) {vs : List Value} {ns : List Int}, RdAll h vs (PI ns) [] → RdAll h (vs.drop n) (PI (ns.drop n)) []
  | 0, _, _, r => r
  | n + 1, _, [], .nil => .nil
  | n + 1, _, a :: ns, r => by
    generalize hb : ([] : List Addr) = bs at r
    cases r with
    | cons rv rr =>
      cases rv
      simp at hb
      subst hb
      exact rdPI_drop n rr
theorem rdPI_take {h : Heap} : ∀ (n : Nat) {vs : List Value} {ns : List Int}, RdAll h vs (PI ns) [] → RdAll h (vs.take n) (PI (ns.take n)) []
  | 0, _, _, _ => .nil
  | n + 1, _, [], .nil => .nil
  | n + 1, _, a :: ns, r => by
    generalize hb : ([] : List Addr) = bs at r
    cases r with
    | cons rv rr =>
      cases rv
      simp at hb
      subst hb
      exact RdAll.cons (as := []) (.int _ _) (rdPI_take n rr)
theorem evN_run {b lo hi : Expr} {sp pos : Pos} {k : List PyData → Prop} (h : EvP p w h₀ A env m b fun ns => EvI p w h₀ A env m lo fun a => EvI p w h₀ A env m hi fun c => (0 ≤ a ∧ 0 ≤ c ∧ ns.length ≤ sizeLine) ∧ k (PI ((ns.drop a.toNat).take (c.toNat - a.toNat)))) : EvN p w h₀ A env m (.Subscript b (.Slice (some lo) (some hi) none sp) pos) k := fun s O Q E S hQ =>
  slice_at (h s O _ E S fun a vs ns s₁ x₁ i q h₁ => wpAny_evalPart_some (h₁ s₁ O _ E (S.ext x₁) fun n t s₂ x₂ h₂ => wpAny_evalPart_some (h₂ s₂ O _ E (S.ext (x₁.trans x₂)) fun c u s₃ x₃ ⟨⟨h0, h1, hz⟩, hk⟩ => wpAny_evalPart_none ⟨a, vs, some n, some c, none, rfl, isList_keeps i (x₂.trans x₃).keep, by rw [size_pi q]; exact hz, .int _ _, .int _ _, .none, by simp, by
    rw [run_pick vs h0 h1]
    have x := (x₁.trans x₂).trans x₃
    exact hQ _ _ [] (PI ((ns.drop n.toNat).take (c.toNat - n.toNat))) _ (slice_ext x _ _) (slice_new x) (slice_plain _ _ _) ((rdPI_take (c.toNat - n.toNat) (rdPI_drop n.toNat q)).at fun _ h => nomatch h) (fun _ h => nomatch h) hk⟩))) (fun _ _ => ⟨_, rfl⟩)

-- names of built-ins
theorem load_bi {s : Shared} {O : Owns} {E : Value → Shared → Prop} {x : Str} {pos : Pos} {v : Value} {Q : Value → Shared → Prop} (ok : EnvOk env) (hx : env.kindOf x = some .globalImplicit) (B : Bi h₀ x v) (S : St h₀ env O m s.heap) (h : Q v s)
    (hd : (x == ("__debug__" : Str)) = false) : wpAny (model p w) A (eval (.Name x pos) env) Q E s := by
  obtain ⟨mg, mb, g, e1, b, e2⟩ := B
  exact PySem.Calls.Name_function_global ok.kind hx (PySem.Calls.loadGlobal_builtin (by rw [ok.glob]; exact g.keeps S.ground) e1 (by rw [ok.blt]; exact b.keeps S.ground) e2 h) hd
theorem load_gl {s : Shared} {O : Owns} {E : Value → Shared → Prop} {x : Str} {pos : Pos} {v : Value} {Q : Value → Shared → Prop} (ok : EnvOk env) (hx : env.kindOf x = some .globalImplicit) (B : Gl h₀ x v) (S : St h₀ env O m s.heap) (h : Q v s)
    (hd : (x == ("__debug__" : Str)) = false) : wpAny (model p w) A (eval (.Name x pos) env) Q E s := by
  obtain ⟨mg, g, e1⟩ := B
  exact PySem.Calls.Name_function_global ok.kind hx (PySem.Calls.loadGlobal_global (by rw [ok.glob]; exact g.keeps S.ground) e1 h) hd
theorem call_b1 {s : Shared} {O : Owns} {E : Value → Shared → Prop} {x : Str} {e : Expr} {xp pos : Pos} {id : String} {Q : Value → Shared → Prop} (ok : EnvOk env) (hx : env.kindOf x = some .globalImplicit) (B : Bi h₀ x (.builtin id)) (S : St h₀ env O m s.heap)
    (h : wpAny (model p w) A (eval e env) (fun v s₁ => wpAny (model p w) A (call (.builtin id) [v]) Q E s₁) E s) (hd : (x == ("__debug__" : Str)) = false)
    (he : starEach [e] env = (false, eval e env) :: starEach [] env) : wpAny (model p w) A (eval (.Call (.Name x xp) [e] [] pos) env) Q E s :=
  Call_Name rfl (load_bi ok hx B S (callWith_builtin1 (spliced_more (wpAny_mono h (fun v s₁ h₁ => spliced_none h₁) fun _ _ x => x) he) he rfl) hd)
theorem call_t1 {s : Shared} {O : Owns} {E : Value → Shared → Prop} {x : Str} {e : Expr} {xp pos : Pos} {id : String} {Q : Value → Shared → Prop} (ok : EnvOk env) (hx : env.kindOf x = some .globalImplicit) (B : Bi h₀ x (.type id)) (S : St h₀ env O m s.heap)
    (h : wpAny (model p w) A (eval e env) (fun v s₁ => wpAny (model p w) A (call (.type id) [v]) Q E s₁) E s) (hd : (x == ("__debug__" : Str)) = false)
    (he : starEach [e] env = (false, eval e env) :: starEach [] env) : wpAny (model p w) A (eval (.Call (.Name x xp) [e] [] pos) env) Q E s :=
  Call_Name rfl (load_bi ok hx B S (callWith_type1 (spliced_more (wpAny_mono h (fun v s₁ h₁ => spliced_none h₁) fun _ _ x => x) he) he rfl) hd)

theorem evI_len {x : Str} {e : Expr} {xp pos : Pos} {k : Int → Prop} (ok : EnvOk env) (hx : env.kindOf x = some .globalImplicit) (B : Bi h₀ x (.builtin "len")) (h : Ev p w h₀ A env .any m e fun d => ∃ ds, d = .list ds ∧ (ds.length : Int) < 2 ^ 63 ∧ k ds.length)
    (he : starEach [e] env = (false, eval e env) :: starEach [] env := by rfl) (hd : (x == ("__debug__" : Str)) = false := by decide) : EvI p w h₀ A env m (.Call (.Name x xp) [e] [] pos) k := fun s O Q E S hQ =>
  call_b1 ok hx B S (h s O _ E S fun v d as s₁ x₁ r _ ⟨ds, e, hf, hk⟩ => by
    subst e
    cases r with
    | list i q =>
      rw [← size_ds q] at hf hk
      exact len_list i.isList hf (hQ _ _ _ (x₁.trans (Ext.tok _ _)) hk)) hd he
theorem pi_items {h : Heap} {ns : List Int} {vs : Array Value} (r : RdAll h vs.toList (PI ns) []) : ∃ xs : Array (Int × Tok), vs = intItems xs ∧ xs.toList.map (·.1) = ns := by
  have gen : ∀ (ns : List Int) (vs : List Value), RdAll h vs (PI ns) [] → ∃ xs : List (Int × Tok), vs = xs.map (fun q => Value.int q.1 q.2) ∧ xs.map (·.1) = ns := by
    intro ns
    induction ns with
    | nil => intro vs r; cases r; exact ⟨[], rfl, rfl⟩
    | cons n ns ih =>
      intro vs r
      generalize hb : ([] : List Addr) = bs at r
      cases r with
      | cons rv rr =>
        cases rv
        simp at hb
        subst hb
        obtain ⟨xs, e1, e2⟩ := ih _ rr
        exact ⟨(n, _) :: xs, by rw [List.map_cons, ← e1], by rw [List.map_cons, e2]⟩
  obtain ⟨xs, e1, e2⟩ := gen ns vs.toList r
  refine ⟨xs.toArray, ?_, by simpa using e2⟩
  apply Array.toList_inj.mp
  rw [e1]; simp [intItems]
theorem evI_max {x : Str} {e : Expr} {xp pos : Pos} {k : Int → Prop} (ok : EnvOk env) (hh : A.handled = none) (hx : env.kindOf x = some .globalImplicit) (B : Bi h₀ x (.builtin "max")) (h : EvP p w h₀ A env m e fun ns => ns ≠ [] ∧ ∀ M ∈ ns, (∀ a ∈ ns, a ≤ M) → k M)
    (he : starEach [e] env = (false, eval e env) :: starEach [] env := by rfl) (hd : (x == ("__debug__" : Str)) = false := by decide) : EvI p w h₀ A env m (.Call (.Name x xp) [e] [] pos) k := fun s O Q E S hQ =>
  call_b1 ok hx B S (h s O _ E S fun a vs ns s₁ x₁ i q ⟨hne, hk⟩ => by
    obtain ⟨xs, rfl, e2⟩ := pi_items q
    have hsz : xs.size = ns.length := by rw [← e2]; simp
    have hpos : 0 < xs.size := by rw [hsz]; exact List.length_pos_iff.mpr hne
    refine max_intList hh i.isList hpos fun v h' tk hv hk' => ?_
    obtain ⟨t, rfl⟩ := intItems_at hv
    obtain ⟨h1, h2⟩ := argBest_gt (numAt xs) (xs.size - 1)
    refine hQ _ _ _ (x₁.trans ⟨hk', h', tk, rfl⟩) (hk _ ?_ fun b hb => ?_)
    · rw [numAt_eq, e2]; exact getD_mem (by lia)
    · obtain ⟨j, hj, rfl⟩ := mem_getD hb
      have := h2 j (by lia)
      rw [numAt_eq, e2] at this; exact this) hd he
def rng (n : Nat) : List Int := (List.range n).map fun i : Nat => (i : Int)
-- what loops run over
theorem it_list {e : Expr} {k : List PyData → Prop} (h : Ev p w h₀ A env .plain m e fun d => ∃ ds, d = .list ds ∧ k ds) : It p w h₀ A env m e k := fun s O Q E S hQ =>
  h s O _ E S fun v d as s₁ x₁ r f ⟨ds, e, hk⟩ => by
    subst e
    cases r with
    | list i q =>
      rename_i a vs as
      refine wpAny_pyIter_list i.isList (hQ _ ds { s₁ with heap := s₁.heap.push { cls := .type "list_iterator", data := .fields #[.ref a, .int 0 0] } } (x₁.push _ s₁.toks) (x₁.fresh (size_none _)) (.inl ⟨a, 0, vs, as, ⟨_, Heap.get?_push_size _ rfl, rfl, rfl⟩, isList_keeps i fun _ _ e => Heap.get?_push_of_some _ e, ?_, f a (.head _), fun b hb => f b (.tail _ hb)⟩) hk)
      rw [List.drop_zero]
      exact q.keeps fun _ _ e => Heap.get?_push_of_some _ e
theorem it_new {e : Expr} {k : List PyData → Prop} (h : EvN p w h₀ A env m e k) : It p w h₀ A env m e k := it_list (ev_new fun s O Q E S hQ => h s O Q E S fun a vs as ds s' x hn i r f hk => hQ a vs as ds s' x hn i r f ⟨ds, rfl, hk⟩)
theorem it_range {x : Str} {e : Expr} {xp pos : Pos} {k : List PyData → Prop} (ok : EnvOk env) (hx : env.kindOf x = some .globalImplicit) (B : Bi h₀ x (.type "range")) (h : EvI p w h₀ A env m e fun n => (-(2 ^ 62) ≤ n ∧ n < 2 ^ 62) ∧ k (PI (rng n.toNat)))
    (he : starEach [e] env = (false, eval e env) :: starEach [] env := by rfl) (hd : (x == ("__debug__" : Str)) = false := by decide) : It p w h₀ A env m (.Call (.Name x xp) [e] [] pos) k := fun s O Q E S hQ =>
  call_t1 ok hx B S (h s O _ E S fun n t s₁ x₁ ⟨⟨hlo, hhi⟩, hk⟩ => by
    refine call_range_1 ?_
    refine wpAny_pyIter_range (IsRange.new ..) (small_one (by decide) (by decide) hlo hhi) ?_
    have hsz : Builtin.Range.rangeSize 0 n 1 = (n.toNat : Int) := by rw [rangeSize_one]; split <;> lia
    rw [hsz]
    have x₂ := x₁.push ({ cls := .type "range", data := .fields #[.int 0 s₁.toks, .int n t, .int 1 (s₁.toks + 1)] } : Obj) (s₁.toks + 1 + 1)
    have x₃ := x₂.push ({ cls := .type "range_iterator", data := .fields #[rawInt 0, rawInt (n.toNat : Int), rawInt 1] } : Obj) (s₁.toks + 1 + 1)
    refine hQ _ _ _ x₃ (x₂.fresh (size_none _)) (.inr ⟨0, n.toNat, Heap.get?_push_size _ rfl, ?_⟩) hk
    simp [PI, rng, Function.comp]) hd he
end

structure CompOk (env : Env) (scope : Scope) (cl : List (Str × Addr)) (x : Str) : Prop where
  nocell : ∀ y ∈ scope.names, y.2 ≠ .cell
  kind : scope.kind = .function
  var : scope.names.lookup x = some .local
  names : ∀ y ∈ scope.names, y.2 = .local → scope.names.lookup y.1 = some .local
  clos : closureFor scope env = pure cl
  sub : ∀ q ∈ cl, q ∈ env.cells
  apart : cl.Pairwise fun x y => x.2 ≠ y.2
def Caught (env : Env) (scope : Scope) (cl : List (Str × Addr)) (m mc : Locs) : Prop :=
  ∀ y l, gt mc y = some l → gt m y = some l ∧ env.kindOf y = some .cell ∧ (relabel scope env).names.lookup y = some .cell ∧ ∃ c, cl.lookup y = some c ∧ env.cells.lookup y = some c

section
variable {p : Program} {w : World} {h₀ : Heap} {A : Around} {env : Env} {m : Locs} {N : Locs → Prop} {T : PyData → Prop}

def TstS (p : Program) (w : World) (h₀ : Heap) (A : Around) (env : Env) (m : Locs) : List Expr → (Bool → Prop) → Prop
  | [], k => k true
  | [c], k => Tst p w h₀ A env m c k
  | _, _ => False
def CompW (p : Program) (w : World) (h₀ : Heap) (A : Around) (env : Env) (mc : Locs) (x : Str) (ifs : List Expr) (elt : Expr) (k : List PyData → Prop) : List PyData → List PyData → Prop
  | [], out => k out
  | d :: ds, out => TstS p w h₀ A env (st mc x (.val d)) ifs fun b => if b then Ev p w h₀ A env .fresh (st mc x (.val d)) elt fun r => CompW p w h₀ A env mc x ifs elt k ds (out ++ [r]) else CompW p w h₀ A env mc x ifs elt k ds out

theorem iter_self {O : Owns} {s : Shared} {E : Value → Shared → Prop} {it : Addr} {ds : List PyData} {Q : Value → Shared → Prop} (i : IterAt O s.heap it ds) (h : Q (.ref it) s) : wpAny (model p w) A (pyIter (.ref it)) Q E s := by
  rcases i with ⟨l, i, vs, as, hit, _⟩ | ⟨x, n, hr, _⟩
  · exact wpAny_pyIter_listiter hit h
  · exact wpAny_pyIter_rangeiter hr h

theorem tests_of {s : Shared} {O : Owns} {E : Value → Shared → Prop} {Q : Bool → Shared → Prop} {ifs : List Expr} {k : Bool → Prop} (h : TstS p w h₀ A env m ifs k) (S : St h₀ env O m s.heap) (hQ : ∀ b s', Ext s s' → k b → Q b s') :
    wpAny (model p w) A (forIn ifs true fun c r => if r = true then do let ok ← isTrue c env (eval c env); pure (ForInStep.yield ok) else pure (ForInStep.yield r)) Q E s := by
  match ifs, h with
  | [], h => exact wpAny_tests_nil (hQ _ _ (Ext.refl s) h)
  | [c], h => exact wpAny_tests_one (h s O Q E S hQ)

theorem store_local {s : Shared} {O : Owns} {E : Value → Shared → Prop} {Q : Unit → Shared → Prop} {x : Str} {v : Value} {l : Loc} (hk : env.scope.kind = .function) (hl : env.kindOf x = some .local)
    (S : St h₀ env O m s.heap) (r : LocRel s.heap O x v l) (h : ∀ h' tk, Heap.SameBut env.locals s.heap h' → (∃ mr, h'.Ns env.locals mr) → St h₀ env O (st m x l) h' → Q () { s with heap := h', toks := tk }) : wpAny (model p w) A (storeName env x v) Q E s := by
  obtain ⟨mr, hn⟩ := S.frame
  refine wpAny_storeName_local hl hn (fun h' hn' hs' => ?_) (by rw [hk]; rfl)
  refine h h' _ hs' ⟨_, hn'⟩ ?_
  refine S.turn (h' := h') hs'.extBut S.newL ⟨_, hn'⟩ (fun y c hm => ?_) (ns_not_list hn) _ fun y ly e => ?_
  · obtain ⟨u, i⟩ := S.cells y c hm
    exact ⟨u, i.sameBut hs' fun q => cell_not_ns i (q ▸ hn)⟩
  · rw [gt_st] at e
    by_cases hy : y = x
    · subst hy
      rw [if_pos rfl] at e
      cases e
      exact ⟨v, .inl ⟨hl, _, hn', by simp⟩, r⟩
    · rw [if_neg hy] at e
      obtain ⟨u, bd, ru⟩ := S.vars y ly e
      refine ⟨u, ?_, ru⟩
      rcases bd with ⟨hk', mr', n', e'⟩ | ⟨hk', c, hc, i⟩
      · refine .inl ⟨hk', _, hn', ?_⟩
        rw [if_neg hy]
        obtain ⟨o1, es1, ep1, g1, d1, _, f1⟩ := hn
        obtain ⟨o2, es2, ep2, g2, d2, _, f2⟩ := n'
        rw [g1] at g2; cases g2
        rw [d1] at d2; cases d2
        rw [← f1, f2]; exact e'
      · exact .inr ⟨hk', c, hc, i.sameBut hs' fun q => cell_not_ns i (q ▸ hn)⟩

theorem St.block {O : Owns} {h : Heap} {scope : Scope} {cl : List (Str × Addr)} {x : Str} {mc : Locs} {C : Addr} {mr : Str → Option Value} (S : St h₀ env O m h) (K : CompOk env scope cl x) (hc : Caught env scope cl m mc) (hn : h.Ns C mr) (h0 : h₀.get? C = none) :
    St h₀ (compEnvC scope cl C env) O mc h where
  ground := S.ground
  frame := ⟨mr, hn⟩
  cells y c hm := S.cells y c (K.sub _ hm)
  apart := K.apart
  newL := h0
  newC y c hm := S.newC y c (K.sub _ hm)
  newO := S.newO
  lists := S.lists
  uniq := S.uniq
  vars y l e := by
    obtain ⟨e1, hk, hr, c, hl, hl'⟩ := hc y l e
    obtain ⟨v, bd, r⟩ := S.vars y l e1
    refine ⟨v, .inr ⟨hr, c, hl, ?_⟩, r⟩
    rcases bd with ⟨hk', _⟩ | ⟨hk', c', hc', i⟩
    · rw [hk] at hk'; cases hk'
    · rw [hl'] at hc'; cases hc'; exact i

theorem rdAll_snoc {h : Heap} : ∀ {vs : List Value} {ds : List PyData} {as bs : List Addr} {v : Value} {d : PyData}, RdAll h vs ds as → Rd h v d bs → RdAll h (vs ++ [v]) (ds ++ [d]) (as ++ bs)
  | _, _, _, _, _, _, .nil, r => by simpa using RdAll.cons r .nil
  | _, _, _, _, _, _, .cons q rest, r => by
    have := rdAll_snoc rest r
    rw [List.cons_append, List.cons_append, List.append_assoc]
    exact .cons q this

theorem IterAt.ext {O : Owns} {h h' : Heap} {it : Addr} {ds : List PyData} (i : IterAt O h it ds) (k : ∀ b o, h.get? b = some o → h'.get? b = some o) : IterAt O h' it ds := by
  rcases i with ⟨l, i, vs, as, ⟨o, ho, r1⟩, il, r, no, na⟩ | ⟨x, n, hr, e⟩
  · exact .inl ⟨l, i, vs, as, ⟨o, k _ _ ho, r1⟩, isList_keeps il k, r.keeps k, no, na⟩
  · exact .inr ⟨x, n, k _ _ hr, e⟩
theorem IterAt.but {O : Owns} {h h' : Heap} {it b : Addr} {ds : List PyData} (i : IterAt O h it ds) (hs : Heap.ExtBut b h h') (hi : it ≠ b) (hl : ∀ a vs, h.PlainList a vs → (∀ y, (y, a) ∉ O) → a ≠ b) : IterAt O h' it ds := by
  rcases i with ⟨l, i, vs, as, ⟨o, ho, r1⟩, il, r, no, na⟩ | ⟨x, n, hr, e⟩
  · refine .inl ⟨l, i, vs, as, ⟨o, hs _ _ hi ho, r1⟩, il.extBut hs (hl l vs il no), r.at fun a ha o ho => hs a o ?_ ho, no, na⟩
    obtain ⟨va, ia⟩ := r.lists a ha
    exact hl a va ia (na a ha)
  · exact .inr ⟨x, n, hs _ _ hi hr, e⟩
theorem IterAt.more {O : Owns} {h : Heap} {it D : Addr} {ds : List PyData} (y : Str) (i : IterAt O h it ds) (hn : h.get? D = none) : IterAt ((y, D) :: O) h it ds := by
  have add : ∀ a vs, h.PlainList a vs → (∀ z, (z, a) ∉ O) → ∀ z, (z, a) ∉ (y, D) :: O := fun a vs ⟨n, e⟩ no z hz => by
    rcases List.mem_cons.mp hz with q | hz
    · cases q; rw [hn] at e; cases e
    · exact no z hz
  rcases i with ⟨l, i, vs, as, hi, il, r, no, na⟩ | ⟨x, n, hr, e⟩
  · exact .inl ⟨l, i, vs, as, hi, il, r, add l vs il no, fun a ha => by obtain ⟨va, ia⟩ := r.lists a ha; exact add a va ia (na a ha)⟩
  · exact .inr ⟨x, n, hr, e⟩

theorem comp_block {elt iter : Expr} {x : Str} {px : Pos} {ifs : List Expr} {scope : Scope} {cl : List (Str × Addr)} {pos : Pos} {mc : Locs} {s s₁ : Shared} {O : Owns} {it : Addr} {ds : List PyData} {k : List PyData → Prop} {E : Value → Shared → Prop}
    {RR : Value → Addr → Result → Shared → Prop} (hh : A.handled = none) (K : CompOk env scope cl x) (hc : Caught env scope cl m mc) (S : St h₀ env O m s.heap) (x₁ : Ext s s₁) (hnew : s.heap.get? it = none) (hit : IterAt O s₁.heap it ds) (hz : ds.length ≤ sizeLine)
    (h : ∀ C, CompW p w h₀ A (compEnvC scope cl C env) mc x ifs elt k ds [])
    (hRR : ∀ D C ys as out s', Ext s s' → s.heap.get? D = none → s.heap.get? C = none → D ≠ C → (∃ mr, s'.heap.Ns C mr) → s'.heap.PlainList D ys → RdAll s'.heap ys.toList out as → (∀ b ∈ as, s.heap.get? b = none ∧ b ≠ D ∧ b ≠ C) → k out → RR (.ref D) C (.ok .next) s') :
    wpAny (model p w) A (newList []) (fun acc s₃ => wpAny (model p w) A (newFunctionEnv scope env.globals cl [] env.qual none .none (some env)) (fun cenv s₄ =>
      codeAny (model p w) A (.compStart (.ListComp elt [⟨.Name x px, iter, ifs, 0⟩] scope pos) 0 (.ref it) acc { cenv with scope := relabel scope env }) (RR acc cenv.locals) s₄) E s₃) E s₁ := by
  refine wpAny_newObj_type (wpAny_newFunctionEnv K.nocell (fun _ hy => nomatch hy) (fun h₁ hns₁ hsb₁ => ?_) K.kind)
  dsimp only at hns₁ hsb₁ ⊢
  generalize hH2 : s₁.heap.push { cls := .type "list", dict := none, data := .seq ([] : List Value).toArray } = H2 at hns₁ hsb₁ ⊢
  have hCs : H2.objs.size = s₁.heap.objs.size + 1 := by rw [← hH2, Heap.size_push]
  generalize hD : s₁.heap.objs.size = D at *
  generalize hC : H2.objs.size = C at *
  have hDC : D ≠ C := by rw [hCs]; exact Nat.ne_of_lt (Nat.lt_succ_self _)
  have nD₁ : s₁.heap.get? D = none := hD ▸ size_none _
  have nC₁ : s₁.heap.get? C = none := by
    cases q : s₁.heap.get? C with
    | none => rfl
    | some o => exact absurd (Heap.lt_size q) (by rw [hD, hCs]; exact Nat.not_lt.mpr (Nat.le_succ _))
  have old : ∀ b o, s₁.heap.get? b = some o → h₁.get? b = some o := fun b o e => hsb₁.extBut b o (fun q => by rw [q, nC₁] at e; cases e) (Heap.get?_push_of_some _ (hH2 ▸ Heap.get?_push_of_some _ e))
  have hacc : h₁.PlainList D #[] := ⟨_, hsb₁.extBut _ _ hDC (Heap.get?_push_of_some _ (hH2 ▸ hD ▸ Heap.get?_push_size _ rfl))⟩
  have g0 : ∀ b, s.heap.get? b = none → h₀.get? b = none := fun b e => by
    cases q : h₀.get? b with
    | none => rfl
    | some o => rw [S.ground b o q] at e; cases e
  have nD := x₁.fresh nD₁
  have nC := x₁.fresh nC₁
  have hit₁ : IterAt ((x, D) :: O) h₁ it ds := (hit.more x nD₁).ext old
  have x₂ : Ext s { s₁ with heap := h₁, toks := s₁.toks + ([] : List (Str × Value)).length } := x₁.trans ⟨old, h₁, _, rfl⟩
  have loop : codeAny (model p w) A (.compLoop (.ListComp elt [⟨.Name x px, iter, ifs, 0⟩] scope pos) 0 (.ref it) (.ref D) (compEnvC scope cl C env)) (RR (.ref D) C) { s₁ with heap := h₁, toks := s₁.toks + ([] : List (Str × Value)).length } := by
    refine codeAny_compLoop_tests (fun n s' => ∃ ds' ys as out, n = ds'.length + 1 ∧ Ext s s' ∧ (∃ mr, s'.heap.Ns C mr) ∧ s'.heap.PlainList D ys ∧ RdAll s'.heap ys.toList out as ∧ (∀ b ∈ as, s.heap.get? b = none ∧ b ≠ D ∧ b ≠ C) ∧ IterAt ((x, D) :: O) s'.heap it ds' ∧ ys.size + ds'.length ≤ sizeLine ∧
      CompW p w h₀ A (compEnvC scope cl C env) mc x ifs elt k ds' out) (fun n s₂ hI => ?_) (ds.length + 1) ⟨ds, #[], [], [], rfl, x₂, ⟨_, hns₁⟩, hacc, .nil, (fun _ h => nomatch h), hit₁, by simpa using hz, h C⟩
    obtain ⟨ds', ys, as, out, rfl, x₃, ⟨mr, hn⟩, hacc, r, f, it', hsz, hw⟩ := hI
    have S₃ := S.ext x₃
    cases ds' with
    | nil =>
      refine next_none hh it' fun h' hs' => hRR D C ys as out _ ⟨fun b o e => hs' b o (fun q => by rw [q, hnew] at e; cases e) (x₃.keep b o e), ?_⟩ nD nC hDC ⟨mr, hn.extBut hs' fun q => iter_not_ns it' (q ▸ hn)⟩ (hacc.extBut hs' fun q => iter_not_list it' ys (q ▸ hacc)) (r.at fun b hb o ho => hs' b o (fun q => ?_) ho) f hw
      · obtain ⟨hx, tk, e⟩ := x₃.same
        exact ⟨h', tk, by rw [e]⟩
      · obtain ⟨vb, ib⟩ := r.lists b hb
        exact iter_not_list it' vb (q ▸ ib)
    | cons d ds' =>
      refine next_item it' fun v av h' tk hs' it₂ rv nv => ?_
      have x₄ : Ext s { s₂ with heap := h', toks := tk } := by
        refine ⟨fun b o e => hs'.extBut b o (fun q => by rw [q, hnew] at e; cases e) (x₃.keep b o e), ?_⟩
        obtain ⟨hx, tk', e⟩ := x₃.same
        exact ⟨h', tk, by rw [e]⟩
      have hn₄ : h'.Ns C mr := hn.sameBut hs' fun q => iter_not_ns it' (q ▸ hn)
      have hacc₄ : h'.PlainList D ys := hacc.extBut hs'.extBut fun q => iter_not_list it' ys (q ▸ hacc)
      have r₄ : RdAll h' ys.toList out as := r.at fun b hb o ho => hs'.extBut b o (fun q => by obtain ⟨vb, ib⟩ := r.lists b hb; exact iter_not_list it' vb (q ▸ ib)) ho
      have S₄ : St h₀ (compEnvC scope cl C env) O mc h' := (S.ext x₄).block K hc hn₄ (g0 C nC)
      refine wpAny_assign_Name (store_local (l := .val d) (s := { s₂ with heap := h', toks := tk }) (env := compEnvC scope cl C env) K.kind (lookup_relabel_local K.var) S₄ ⟨av, rv, fun a ha y hy => nv a ha y (.tail _ hy)⟩ fun h₅ tk₅ hs₅ hn₅ S₅ => ?_)
      have hs₅' : Heap.SameBut C h' h₅ := hs₅
      have x₅ : Ext s { s₂ with heap := h₅, toks := tk₅ } := by
        refine ⟨fun b o e => hs₅'.extBut b o (fun q => by rw [q, nC] at e; cases e) (x₄.keep b o e), ?_⟩
        obtain ⟨hx, tk', e⟩ := x₃.same
        exact ⟨h₅, tk₅, by rw [e]⟩
      have hacc₅ : h₅.PlainList D ys := hacc₄.extBut hs₅'.extBut hDC
      have r₅ : RdAll h₅ ys.toList out as := r₄.at fun b hb o ho => hs₅'.extBut b o (f b hb).2.2 ho
      have itC : it ≠ C := fun q => iter_not_ns it₂ (q ▸ hn₄)
      have it₅ : IterAt ((x, D) :: O) h₅ it ds' := it₂.but hs₅'.extBut itC fun a va ia _ q => ns_not_list hn₄ va (q ▸ ia)
      refine tests_of hw S₅ fun b s₆ x₆ hb => ?_
      have x₆' := x₅.trans x₆
      cases b with
      | false =>
        simp only [Bool.false_eq_true, if_false]
        refine ⟨ds'.length + 1, by simp, ds', ys, as, out, rfl, x₆', ?_, isList_keeps hacc₅ x₆.keep, r₅.keeps x₆.keep, f, ?_, by simp only [List.length_cons] at hsz; lia, hb⟩
        · obtain ⟨mr', hn'⟩ := hn₅
          exact ⟨mr', Heap.Ns.keeps hn' x₆.keep⟩
        · exact it₅.ext x₆.keep
      | true =>
        simp only [if_true]
        have S₆ := St.ext (s := { s₂ with heap := h₅, toks := tk₅ }) S₅ x₆
        refine hb s₆ O _ _ S₆ fun v' d' as' s₇ x₇ r' f' hk' => ?_
        have x₇' := x₆'.trans x₇
        have keep₇ : ∀ b o, h₅.get? b = some o → s₇.heap.get? b = some o := fun b o e => x₇.keep b o (x₆.keep b o e)
        have hacc₇ : s₇.heap.PlainList D ys := isList_keeps hacc₅ keep₇
        refine wpAny_list_append_plain hacc₇ (fun h₈ hl₈ hs₈ => ?_) (by simp only [List.length_cons] at hsz; lia)
        have nA : ∀ b ∈ as', s.heap.get? b = none ∧ b ≠ D ∧ b ≠ C := fun b hb => by
          have e6 : s₆.heap.get? b = none := f' b hb
          refine ⟨x₆'.fresh e6, fun q => ?_, fun q => ?_⟩
          · obtain ⟨n, e⟩ := isList_keeps hacc₅ x₆.keep
            rw [← q, e6] at e; cases e
          · obtain ⟨mr', hn'⟩ := hn₅
            obtain ⟨o, _, _, ho, _⟩ := Heap.Ns.keeps hn' x₆.keep
            have : s₆.heap.get? C = some o := ho
            rw [← q, e6] at this; cases this
        have rr := rdAll_snoc (r₅.keeps keep₇) r'
        refine ⟨ds'.length + 1, by simp, ds', ys.push v', as ++ as', out ++ [d'], rfl, ⟨fun b o e => hs₈.extBut b o (fun q => by rw [q, nD] at e; cases e) (x₇'.keep b o e), ?_⟩, ?_, hl₈, ?_, fun b hb => ?_, ?_, by simp only [List.length_cons, Array.size_push] at hsz ⊢; lia, hk'⟩
        · obtain ⟨hx, tk', e⟩ := x₇'.same
          exact ⟨h₈, tk', by rw [e]⟩
        · obtain ⟨mr', hn'⟩ := hn₅
          exact ⟨mr', (Heap.Ns.keeps hn' keep₇).sameBut hs₈ (Ne.symm hDC)⟩
        · rw [Array.toList_push]
          refine rr.at fun b hb o ho => hs₈.extBut b o (fun q => ?_) ho
          rcases List.mem_append.mp hb with hb | hb
          · exact (f b hb).2.1 q
          · exact (nA b hb).2.1 q
        · rcases List.mem_append.mp hb with hb | hb
          · exact f b hb
          · exact nA b hb
        · have it₇ : IterAt ((x, D) :: O) s₇.heap it ds' := it₅.ext keep₇
          exact it₇.but hs₈.extBut (fun q => iter_not_list it₇ ys (q ▸ hacc₇)) fun a va ia no q => no x (q ▸ .head _)
  exact codeAny_compStart_list loop (iter_self (s := { s₁ with heap := h₁, toks := s₁.toks + ([] : List (Str × Value)).length }) hit₁ loop)

theorem evN_comp {elt iter : Expr} {x : Str} {px : Pos} {ifs : List Expr} {scope : Scope} (cl : List (Str × Addr)) {pos : Pos} (mc : Locs) {k : List PyData → Prop} (hh : A.handled = none) (K : CompOk env scope cl x) (hc : Caught env scope cl m mc)
    (h : It p w h₀ A env m iter fun ds => ds.length ≤ sizeLine ∧ ∀ C, CompW p w h₀ A (compEnvC scope cl C env) mc x ifs elt k ds []) (hs : ∀ x, foldedSetIterable iter env x = pure x := by intro _; rfl) :
    EvN p w h₀ A env m (.ListComp elt [⟨.Name x px, iter, ifs, 0⟩] scope pos) k := fun s O Q E S hQ => by
  rw [eval_ListComp]
  refine wpAny_comprehension_free (use := none) rfl hs K.clos K.kind K.names (h s O _ E S fun it ds s₁ x₁ hnew hit ⟨hz, hw⟩ => ?_)
  refine comp_block (RR := fun acc C => compPost (model p w) A E none Q acc C) hh K hc S x₁ hnew hit hz hw ?_
  intro D C ys as out s' x' nD nC hDC ⟨mr, hn⟩ il r f hk
  refine ⟨mr, hn, fun h'' hs'' => hQ D ys as out _ ⟨fun b o e => hs''.extBut b o (fun q => by rw [q, nC] at e; cases e) (x'.keep b o e), ?_⟩ nD (il.extBut hs''.extBut hDC) (r.at fun b hb o ho => hs''.extBut b o (f b hb).2.2 ho) (fun b hb => ⟨(f b hb).1, (f b hb).2.1⟩) hk⟩
  obtain ⟨hx, tk', e⟩ := x'.same
  exact ⟨h'', tk', by rw [e]⟩
theorem x1_asgComp {elt iter : Expr} {x y : Str} {px py : Pos} {ifs : List Expr} {scope : Scope} (cl : List (Str × Addr)) {pos spos : Pos} (mc : Locs) (ok : EnvOk env) (hh : A.handled = none) (K : CompOk env scope cl x) (hc : Caught env scope cl m mc) (hy : env.kindOf y = some .local)
    (hsw : swapsWith (.ListComp elt [⟨.Name x px, iter, ifs, 0⟩] scope pos) (some (.Name y py)) spos.line env = pure true)
    (h : It p w h₀ A env m iter fun ds => ds.length ≤ sizeLine ∧ ∀ C, CompW p w h₀ A (compEnvC scope cl C env) mc x ifs elt (fun out => N (st m y (.own out))) ds []) (hs : ∀ x, foldedSetIterable iter env x = pure x := by intro _; rfl) :
    X1 p w h₀ A env m (.Assign [.Name y py] (.ListComp elt [⟨.Name x px, iter, ifs, 0⟩] scope pos) spos) N T := fun s O Q E S hN _ => by
  rw [exec_Assign_Name_used _ _ _ _ hsw]
  refine wpAny_bind (wpAny_standAt (wpAny_bind ?_))
  show wpAny _ A (do let _ ← comprehension (.ListComp elt [⟨.Name x px, iter, ifs, 0⟩] scope pos) scope env _ (newList []) false (eval iter env) (some (assign (.Name y py) env))) _ _ s
  refine wpAny_bind (wpAny_mono (wpAny_comprehension_free (use := some (assign (.Name y py) env)) (Q := fun _ s' => Q .next s') rfl hs K.clos K.kind K.names (h s O _ E S fun it ds s₁ x₁ hnew hit ⟨hz, hw⟩ => ?_)) (fun _ s' hq => wpAny_pure (wpAny_pure hq)) fun _ _ e => e)
  refine comp_block (RR := fun acc C => compPost (model p w) A E (some (assign (.Name y py) env)) (fun _ s' => Q .next s') acc C) hh K hc S x₁ hnew hit hz hw ?_
  intro D C ys as out s' x' nD nC hDC ⟨mr, hn⟩ il r f hk
  have S' := S.owns (x := y) x'.keep nD il
  have g : Grow s O ((y, D) :: O) := fun z b hb => by
    rcases List.mem_cons.mp hb with q | hb
    · cases q; exact .inr nD
    · exact .inl ⟨z, hb⟩
  have LC : env.locals ≠ C := fun q => by
    obtain ⟨mr, o, _, _, ho, _⟩ := S.frame
    rw [q, nC] at ho; cases ho
  have h0C : h₀.get? C = none := by
    cases q : h₀.get? C with
    | none => rfl
    | some o => rw [S.ground C o q] at nC; cases nC
  show wpAny _ A (assign (.Name y py) env (.ref D)) _ _ _
  refine wpAny_assign_Name (store_local (l := .own out) ok.kind hy S' ⟨D, ys, as, rfl, .head _, il, r, fun b hb z hz => ?_⟩ fun h₂ tk₂ hs₂ hn₂ S₂ => ⟨mr, hn.sameBut hs₂ (Ne.symm LC), fun h₃ hs₃ => ?_⟩)
  · rcases List.mem_cons.mp hz with q | hz
    · cases q; exact (f _ hb).2.1 rfl
    · obtain ⟨vs', k, ho⟩ := S.lists z b hz
      rw [(f b hb).1] at ho; cases ho
  · have hnC₂ : h₂.Ns C mr := hn.sameBut hs₂ (Ne.symm LC)
    have cC : ∀ {c v}, h₂.IsCell c v → c ≠ C := fun i q => cell_not_ns (q ▸ i) hnC₂
    refine hN _ _ _ ⟨fun b o e h1 h2 h3 => hs₃.extBut b o (fun q => by rw [q, nC] at e; cases e) (hs₂.extBut b o h1 (x'.keep b o e)), ?_⟩ g (S₂.turn hs₃.extBut h0C ?_ (fun z c hz => ?_) (ns_not_list hnC₂) _ fun z l e => ?_) hk
    · obtain ⟨hx, tk', e⟩ := x'.same
      exact ⟨h₃, tk₂, by rw [e]⟩
    · obtain ⟨mr', hn'⟩ := hn₂
      exact ⟨mr', hn'.sameBut hs₃ LC⟩
    · obtain ⟨v, i⟩ := S₂.cells z c hz
      exact ⟨v, i.sameBut hs₃ (cC i)⟩
    · obtain ⟨v, bd, ru⟩ := S₂.vars z l e
      refine ⟨v, ?_, ru⟩
      rcases bd with ⟨hk', mr', n', e'⟩ | ⟨hk', c, hc', i⟩
      · exact .inl ⟨hk', mr', n'.sameBut hs₃ LC, e'⟩
      · exact .inr ⟨hk', c, hc', i.sameBut hs₃ (cC i)⟩
end

abbrev Spec := List PyData → (PyData → Prop) → Prop

def Meets (p : Program) (w : World) (h₀ : Heap) (f : Addr) (n : Nat) (R : Spec) : Prop :=
  ∀ (A : Around) (s : Shared) (vs : List Value) (ds : List PyData) (as : List Addr) (k : PyData → Prop) (Q E : Value → Shared → Prop), A.handled = none → A.depth + n ≤ recursionLimit → A.units + 8 * n < cLine →
    (∀ b o, h₀.get? b = some o → s.heap.get? b = some o) → RdAll s.heap vs ds as → R ds k →
    (∀ v d as' s', Ext s s' → Rd s'.heap v d as' → (∀ a ∈ as', s.heap.get? a = none) → k d → Q v s') → wpAny (model p w) A (call (.ref f) vs) Q E s

def FnAt (h₀ : Heap) (f : Addr) : Prop := ∃ o fd, h₀.get? f = some o ∧ o.data = .func fd

section
variable {p : Program} {w : World} {h₀ : Heap} {A : Around} {env : Env} {m : Locs} {N : Locs → Prop} {T : PyData → Prop}

theorem fn_keeper {f : Addr} (hf : FnAt h₀ f) {M : Model} (h : Heap) (g : ∀ b o, h₀.get? b = some o → h.get? b = some o) : ∃ k, (k = Keeper.frame ∨ k = Keeper.machine ∨ k = Keeper.boundFrame) ∧ Looks M h (keeperOf (.ref f)) k := by
  obtain ⟨⟨c, d, dt, sl⟩, fd, ho, hd⟩ := hf
  simp only at hd
  subst hd
  exact ⟨.frame, .inl rfl, (Looks.ld (part := none) (g _ _ ho)).andThen .now⟩

theorem call_args {f : Addr} {n : Nat} {R : Spec} {pos : Pos} {e : Expr} {rest : List Expr} {s : Shared} {O : Owns} {Q E : Value → Shared → Prop} {k : PyData → Prop} (M : Meets p w h₀ f n R) (hf : FnAt h₀ f) (hh : A.handled = none) (hr : A.depth + n ≤ recursionLimit) (hu : A.units + 8 * n < cLine)
    (S : St h₀ env O m s.heap) (h : EvS p w h₀ A env .any m pos (e :: rest) fun ds => R ds k) (hQ : ∀ v d as s', Ext s s' → Rd s'.heap v d as → (∀ a ∈ as, s.heap.get? a = none) → k d → Q v s')
    (he : starEach (e :: rest) env = (false, eval e env) :: starEach rest env) (hp : (backTo pos (starEach rest env)).any (·.1) = false) :
    wpAny (model p w) A (callWith pos (.ref f) [] (backTo pos (starEach (e :: rest) env)) []) Q E s := by
  have h' := h s O (fun vs s₁ => (∀ b o, h₀.get? b = some o → s₁.heap.get? b = some o) ∧ wpAny (model p w) A (call (.ref f) ([] ++ vs) []) Q E s₁) E S fun vs ds as s₁ x₁ r _ hR => ⟨(S.ext x₁).ground, M A s₁ vs ds as k Q E hh hr hu (S.ext x₁).ground r hR fun v d as' s' x' r' f' hk => hQ v d as' s' (x₁.trans x') r' (fun a ha => x₁.fresh (f' a ha)) hk⟩
  rw [he] at h' ⊢
  exact callWith_of (P := fun h => ∀ b o, h₀.get? b = some o → h.get? b = some o) (by show ((false || (backTo pos (starEach rest env)).any (·.1)) || false) = false; rw [hp]; rfl) (fun h g => fn_keeper hf h g) (PySem.Calls.evalArgs_plain h')

theorem ev_call {c : Cls} {x : Str} {xp pos : Pos} {e : Expr} {rest : List Expr} {f : Addr} {n : Nat} {R : Spec} {k : PyData → Prop} (ok : EnvOk env) (M : Meets p w h₀ f n R) (hf : FnAt h₀ f) (hh : A.handled = none) (hr : A.depth + n ≤ recursionLimit) (hu : A.units + 8 * n < cLine)
    (hx : env.kindOf x = some .globalImplicit) (G : Gl h₀ x (.ref f)) (h : EvS p w h₀ A env .any m pos (e :: rest) fun ds => R ds k)
    (he : starEach (e :: rest) env = (false, eval e env) :: starEach rest env := by rfl) (hp : (backTo pos (starEach rest env)).any (·.1) = false := by rfl) (hd : (x == ("__debug__" : Str)) = false := by decide) :
    Ev p w h₀ A env c m (.Call (.Name x xp) (e :: rest) [] pos) k := fun s O Q E S hQ =>
  Call_Name rfl (load_gl ok hx G S (call_args M hf hh hr hu S h (fun v d as s' x' r f' hk => hQ v d as s' x' r (fun a ha => foot_fresh S c (f' a ha)) hk) he hp) hd)

def SmAt (p : Program) (w : World) (h₀ : Heap) (C : Addr) (name : Str) (f : Addr) : Prop :=
  ∀ (A : Around) (s : Shared) (pl : Sem Bool) (Q : Value × List Value → Shared → Prop) (E : Value → Shared → Prop), (∀ b o, h₀.get? b = some o → s.heap.get? b = some o) → (∀ s', Ext s s' → Q (.ref f, []) s') → wpAny (model p w) A (getMethod (.ref C) name pl) Q E s

theorem ev_scall {c : Cls} {x name : Str} {xp apos pos : Pos} {e : Expr} {rest : List Expr} {C f : Addr} {n : Nat} {R : Spec} {k : PyData → Prop} {pl : Sem Bool} (ok : EnvOk env) (M : Meets p w h₀ f n R) (hf : FnAt h₀ f) (hs : SmAt p w h₀ C name f) (hh : A.handled = none) (hr : A.depth + n ≤ recursionLimit) (hu : A.units + 8 * n < cLine)
    (hx : env.kindOf x = some .globalImplicit) (G : Gl h₀ x (.ref C)) (h : EvS p w h₀ A env .any m pos (e :: rest) fun ds => R ds k)
    (hm : eval (.Call (.Attribute (.Name x xp) name apos) (e :: rest) [] pos) env = (do
      let ov ← eval (.Name x xp) env
      standAt apos.atName
      let (f, first) ← holding [ov] (getMethod ov name pl)
      callWith pos f first (backTo pos (starEach (e :: rest) env)) []) := by rfl)
    (he : starEach (e :: rest) env = (false, eval e env) :: starEach rest env := by rfl) (hp : (backTo pos (starEach rest env)).any (·.1) = false := by rfl) (hd : (x == ("__debug__" : Str)) = false := by decide) :
    Ev p w h₀ A env c m (.Call (.Attribute (.Name x xp) name apos) (e :: rest) [] pos) k := fun s O Q E S hQ =>
  MethodCall_ (load_gl ok hx G S (hs A s pl _ E S.ground fun s₁ x₁ => call_args M hf hh hr hu (S.ext x₁) h (fun v d as s' x' r f' hk => hQ v d as s' (x₁.trans x') r (fun a ha => foot_fresh S c (x₁.fresh (f' a ha))) hk) he hp) hd) hm

theorem evB_of {e : Expr} {k : Bool → Prop} (h : Ev p w h₀ A env .any m e fun d => ∃ b, d = .bool b ∧ k b) : EvB p w h₀ A env m e k := fun s O Q E S hQ =>
  h s O Q E S fun v d as s' x r _ ⟨b, e, hk⟩ => by subst e; cases r; exact hQ _ _ x hk
theorem evI_of {e : Expr} {k : Int → Prop} (h : Ev p w h₀ A env .any m e fun d => ∃ b, d = .int b ∧ k b) : EvI p w h₀ A env m e k := fun s O Q E S hQ =>
  h s O Q E S fun v d as s' x r _ ⟨b, e, hk⟩ => by subst e; cases r; exact hQ _ _ _ x hk

def argLocs : List Str → List PyData → Locs
  | x :: xs, d :: ds => (x, .val d) :: argLocs xs ds
  | _, _ => []
theorem argLocs_get {h : Heap} : ∀ {xs : List Str} {vs : List Value} {ds : List PyData} {as : List Addr} {x : Str} {l : Loc}, RdAll h vs ds as → gt (argLocs xs ds) x = some l → ∃ v d as', (x, v) ∈ xs.zip vs ∧ l = .val d ∧ Rd h v d as'
  | [], _, _, _, _, _, _, e => by simp [argLocs, gt] at e
  | _ :: _, _, _, _, _, _, .nil, e => by simp [argLocs, gt] at e
  | y :: xs, _, _, _, x, l, .cons r q, e => by
    unfold argLocs gt at e
    rw [List.lookup_cons] at e
    cases hb : x == y with
    | true =>
      rw [hb] at e
      cases e
      have : x = y := beq_iff_eq.mp hb
      subst this
      exact ⟨_, _, _, .head _, rfl, r⟩
    | false =>
      rw [hb] at e
      obtain ⟨v, d, as', hm, el, r'⟩ := argLocs_get (xs := xs) q e
      exact ⟨v, d, as', .tail _ hm, el, r'⟩

theorem bindL_get {kindOf : Str → Option NameKind} : ∀ {binds : List (Str × Value)} {m : Str → Option Value} {x : Str} {v : Value}, (binds.map (·.1)).Nodup → (x, v) ∈ binds → kindOf x = some .local → bindL kindOf binds m x = some v
  | (y, u) :: r, m, x, v, hn, hm, hk => by
    have hn' := List.nodup_cons.mp hn
    unfold bindL
    rcases List.mem_cons.mp hm with e | hm
    · obtain ⟨rfl, rfl⟩ := Prod.mk.inj e
      rw [if_pos hk]
      have gen : ∀ (r : List (Str × Value)) (m : Str → Option Value), x ∉ r.map (·.1) → m x = some v → bindL kindOf r m x = some v := by
        intro r
        induction r with
        | nil => intro m _ e; exact e
        | cons z r ih =>
          intro m hx e
          obtain ⟨z, u'⟩ := z
          unfold bindL
          refine ih _ (fun h => hx (by simp [h])) ?_
          by_cases hz : kindOf z = some .local
          · rw [if_pos hz]
            have : x ≠ z := fun q => hx (by simp [q])
            simp [this, e]
          · rw [if_neg hz]; exact e
      exact gen r _ hn'.1 (by simp)
    · exact bindL_get hn'.2 hm hk
theorem bindC_get {kindOf : Str → Option NameKind} : ∀ {binds : List (Str × Value)} {m : Str → Option Value} {x : Str} {v : Value}, (binds.map (·.1)).Nodup → (x, v) ∈ binds → kindOf x ≠ some .local → bindC kindOf binds m x = some v
  | (y, u) :: r, m, x, v, hn, hm, hk => by
    have hn' := List.nodup_cons.mp hn
    unfold bindC
    rcases List.mem_cons.mp hm with e | hm
    · obtain ⟨rfl, rfl⟩ := Prod.mk.inj e
      rw [if_neg hk]
      have gen : ∀ (r : List (Str × Value)) (m : Str → Option Value), x ∉ r.map (·.1) → m x = some v → bindC kindOf r m x = some v := by
        intro r
        induction r with
        | nil => intro m _ e; exact e
        | cons z r ih =>
          intro m hx e
          obtain ⟨z, u'⟩ := z
          unfold bindC
          refine ih _ (fun h => hx (by simp [h])) ?_
          by_cases hz : kindOf z = some .local
          · rw [if_pos hz]; exact e
          · rw [if_neg hz]
            have : x ≠ z := fun q => hx (by simp [q])
            simp [this, e]
      exact gen r _ hn'.1 (by simp)
    · exact bindC_get hn'.2 hm hk

structure EnvOf (fd : FuncData) (env : Env) : Prop where
  scope : env.scope = fd.scope
  glob : env.globals = fd.globals
  blt : env.builtins = fd.builtins
  code : env.code = fd.code
  cells : env.cells = cellsFrom (env.locals + 1) fd.scope.names []

theorem meets_def {f : Addr} {n : Nat} {R : Spec} {o : Obj} {fd : FuncData} {body : List Stmt} (xs : List Str) (dv : List Value) (dd : List PyData) (ho : h₀.get? f = some o) (hdata : o.data = .func fd) (hlim : h₀.NoLimit) (hcd : h₀.CodeRec fd.code fd.qualname)
    (hbody : fd.body = .stmts body) (hclo : fd.closure = []) (hk : fd.scope.kind = .function) (hco : fd.scope.isCoroutine = false) (hgen : fd.scope.isGenerator = false)
    (hdd : ∀ h, RdAll h dv dd [])
    (hbind : ∀ (s : Shared) (vs : List Value), (∀ b o, h₀.get? b = some o → s.heap.get? b = some o) → vs.length + dv.length = xs.length → BindsTo s fd ⟨vs, []⟩ (xs.zip (vs ++ dv)))
    (hkinds : ∀ n, ∀ x ∈ xs, fd.scope.names.lookup x = some .local ∨ (fd.scope.names.lookup x = some .cell ∧ ((cellsFrom n fd.scope.names []).lookup x).isSome = true)) (hnd : xs.Nodup) (hcn : ((cellsFrom 0 fd.scope.names []).map (·.1)).Nodup)
    (h : ∀ ds k, R ds k → ds.length + dd.length = xs.length ∧ ∀ A env, EnvOf fd env → A.handled = none → A.depth + n ≤ recursionLimit + 1 → A.units + 8 * n < cLine + 3 → Ex p w h₀ A env (argLocs xs (ds ++ dd)) body (fun _ => False) k) (hn : 0 < n) :
    Meets p w h₀ f n R := fun A s vs ds as k Q E hh hr hu hg r hR hQ => by
  obtain ⟨hlen, hE⟩ := h ds k hR
  have hll : vs.length + dv.length = xs.length := by rw [r.length, (hdd s.heap).length]; exact hlen
  refine wpAny_call (codeAny_call_function (by lia) (hg _ _ ho) hdata hco hgen hbody (hcd.keeps hg) (hbind s vs hg hll _ _ _ _ ?_))
  rw [hclo]
  refine wpAny_newFunctionEnv_cells hk (fun x hx => ?_) fun env he s₁ ic => ⟨(hlim.keeps hg).keeps ic.toInCall.keep, codeAny_func ?_⟩
  · exact hkinds _ x.1 (List.of_mem_zip (a := x.1) (b := x.2) hx).1
  have eo : EnvOf fd env := by subst he; exact ⟨rfl, rfl, rfl, rfl, rfl⟩
  have fr : s.heap.objs.size ≤ env.locals := ic.toInCall.fresh
  have gone : ∀ a, s.heap.objs.size ≤ a → s.heap.get? a = none := fun a ha => by
    cases q : s.heap.get? a with
    | none => rfl
    | some o => exact absurd (Heap.lt_size q) (Nat.not_lt.mpr ha)
  have g0 : ∀ b, s.heap.get? b = none → h₀.get? b = none := fun b e => by
    cases q : h₀.get? b with
    | none => rfl
    | some o => rw [hg b o q] at e; cases e
  have nL := gone _ fr
  have nC : ∀ x c, (x, c) ∈ env.cells → s.heap.get? c = none := fun x c hm => gone c (Nat.le_of_lt (Nat.lt_of_le_of_lt fr (ic.above x c hm)))
  have cellIs : ∀ x c, (x, c) ∈ env.cells → ∃ v, s₁.heap.IsCell c v := fun x c hm => by
    refine ⟨_, ic.cell x c (lookup_of_mem_nodup ?_ hm)⟩
    rw [eo.cells]
    exact cellsFrom_names fd.scope.names 0 (env.locals + 1) [] [] rfl ▸ hcn
  have rr : RdAll s.heap (vs ++ dv) (ds ++ dd) as := by
    have gen : ∀ {vs : List Value} {ds : List PyData} {as : List Addr}, RdAll s.heap vs ds as → RdAll s.heap (vs ++ dv) (ds ++ dd) as := by
      intro vs ds as r
      induction r using RdAll.rec (motive_1 := fun _ _ _ _ => True) with
      | none => trivial
      | bool => trivial
      | int => trivial
      | list => trivial
      | nil => exact hdd _
      | cons r q _ ih => exact .cons r ih
    exact gen r
  have S₁ : St h₀ env [] (argLocs xs (ds ++ dd)) s₁.heap := by
    refine ⟨fun b o e => ic.toInCall.keep b o (hg b o e), ⟨_, ic.toInCall.ns⟩, cellIs, ic.apart, g0 _ nL, fun x c hm => g0 _ (nC x c hm), (fun _ _ h => nomatch h), (fun _ _ h => nomatch h), (fun _ _ _ h => nomatch h), fun x l e => ?_⟩
    obtain ⟨v, d, as', hm, rfl, rd⟩ := argLocs_get rr e
    have hnm : ((xs.zip (vs ++ dv)).map (·.1)).Nodup := by
      have : (xs.zip (vs ++ dv)).map Prod.fst = xs := List.map_fst_zip (by simp; lia)
      rw [this]; exact hnd
    refine ⟨v, ?_, as', rd.keeps ic.toInCall.keep, fun _ _ _ h => nomatch h⟩
    have hkx := hkinds (env.locals + 1) x (List.of_mem_zip hm).1
    have ek : env.kindOf x = fd.scope.names.lookup x := by unfold Env.kindOf; rw [eo.scope]
    rcases hkx with hl | ⟨hl, hc⟩
    · exact .inl ⟨ek.trans hl, _, ic.toInCall.ns, bindL_get hnm hm (ek.trans hl)⟩
    · rw [← eo.cells] at hc
      obtain ⟨c, hc⟩ := Option.isSome_iff_exists.mp hc
      refine .inr ⟨ek.trans hl, c, hc, ?_⟩
      have := ic.cell x c hc
      rwa [bindC_get hnm hm (by rw [ek, hl]; intro q; cases q)] at this
  have x₁ : Ext s s₁ := ⟨ic.toInCall.keep, ic.toInCall.same⟩
  refine hE (A.deeper env) env eo hh (by show A.depth + 1 + n ≤ _; lia) (by show A.units + 3 + 8 * n < _; lia) s₁ [] _ _ S₁ (fun _ _ _ _ _ _ h => h.elim) fun v d as' s' pr rd f' hk => ?_
  refine hQ v d as' s' ⟨fun b o e => pr.keep b o (x₁.keep b o e) (fun q => by rw [q, nL] at e; cases e) (fun x hx => by rw [nC x b hx] at e; cases e) (fun _ h => nomatch h), ?_⟩ rd (fun a ha => ?_) hk
  · obtain ⟨h1, t1, rfl⟩ := x₁.same
    obtain ⟨h2, t2, rfl⟩ := pr.same
    exact ⟨h2, t2, rfl⟩
  · rcases f' a ha with q | ⟨_, h⟩
    · exact x₁.fresh q
    · cases h
theorem vs1 {vs : List Value} (h : vs.length + 0 = 1) : ∃ v, vs = [v] := List.length_eq_one_iff.mp h
theorem vs2 {vs : List Value} (h : vs.length + 0 = 2) : ∃ v v', vs = [v, v'] := by
  rcases vs with _ | ⟨v, _ | ⟨v', _ | ⟨_, _⟩⟩⟩
  · cases h
  · cases h
  · exact ⟨v, v', rfl⟩
  · simp at h
theorem vs3 {vs : List Value} (h : vs.length + 0 = 3) : ∃ v v' v'', vs = [v, v', v''] := by
  rcases vs with _ | ⟨v, vs⟩
  · cases h
  · obtain ⟨v', v'', rfl⟩ := vs2 (vs := vs) (by simpa using h)
    exact ⟨v, v', v'', rfl⟩
end

section
variable {p : Program} {w : World} {h₀ : Heap} {A : Around} {env : Env} {m : Locs} {N : Locs → Prop} {T : PyData → Prop}

theorem pi_any {h : Heap} {ns : List Int} {vs : Array Value} (r : RdAll h vs.toList (PI ns) []) (a : Int) : ∃ e : Value → Bool, (∀ y, y ∈ vs → ∀ t, MeetsSeq.EqGives y (.int a t) (e y)) ∧ vs.any e = ns.contains a := by
  refine ⟨fun v => match v with | .int i _ => i == a | _ => false, fun y hy t => ?_, ?_⟩
  · obtain ⟨xs, rfl, _⟩ := pi_items r
    simp only [intItems, Array.mem_map] at hy
    obtain ⟨q, _, rfl⟩ := hy
    exact MeetsSeq.EqGives.int _ _ _ _
  · obtain ⟨xs, rfl, rfl⟩ := pi_items r
    rw [← Array.any_toList]
    have : (intItems xs).toList = xs.toList.map fun q => Value.int q.1 q.2 := by simp [intItems]
    rw [this]
    induction xs.toList with
    | nil => rfl
    | cons q l ih =>
      simp only [List.map_cons, List.any_cons, List.contains_cons, ih]
      congr 1
      rw [Bool.eq_iff_iff, beq_iff_eq, beq_iff_eq]
      exact ⟨Eq.symm, Eq.symm⟩
theorem tst_notin {l r : Expr} {pos : Pos} {k : Bool → Prop} (h : EvI p w h₀ A env m l fun a => EvP p w h₀ A env m r fun ns => k (!ns.contains a)) (hm : behindInMarks .NotIn r = false := by with_unfolding_all rfl) : Tst p w h₀ A env m (.Compare l [.NotIn] [r] pos) k := fun s O Q E S hQ =>
  wpAny_isTrue_Compare1 (h s O _ E S fun a t s₁ x₁ h₁ => h₁ s₁ O _ E (S.ext x₁) fun b vs ns s₂ x₂ il q hk => by
    obtain ⟨e, he, ea⟩ := pi_any q a
    exact SeqInW.notIn_listW e (fun y hy => he y hy t) il.isList (wpAny_truthy_bool (hQ _ _ (x₁.trans x₂) (by rw [ea]; exact hk)))) hm

def CodeOk (h₀ : Heap) (env : Env) : Prop := ∃ c o vs, env.code = .ref c ∧ h₀.get? c = some o ∧ o.data = .fields vs
theorem in_main {s : Shared} {O : Owns} {E : Value → Shared → Prop} {Q : Bool → Shared → Prop} (hc : CodeOk h₀ env) (S : St h₀ env O m s.heap) (h : ∀ b, Q b s) : wpAny (model p w) A (inMainModule env) Q E s := by
  obtain ⟨c, o, vs, e, ho, hd⟩ := hc
  unfold inMainModule
  try dsimp only
  rw [e]
  split
  · exact wpAny_pure (h _)
  · refine wpAny_bind (wpAny_fieldsOf (S.ground _ _ ho) hd ?_)
    split
    · exact wpAny_bind (wpAny_askSetting (wpAny_pure (h _)))
    · exact wpAny_pure (h _)
theorem set_add {s : Shared} {E : Value → Shared → Prop} {Q : Bool → Shared → Prop} {a : Addr} {F : Int → Bool} {n : Nat} {i : Int} {t : Tok} (hS : s.heap.SetOf (PySem.intKind p w) a F n) (hb : n + 1 < scanBound)
    (h : ∀ b h' tk, Heap.SameBut a s.heap h' → h'.SetOf (PySem.intKind p w) a (fun j => F j || decide (j = i)) (if F i then n else n + 1) → Q b { s with heap := h', toks := tk }) : wpAny (model p w) A (setAdd a (.int i t)) Q E s := by
  unfold setAdd
  refine wpAny_holding (wpAny_bind ((PySem.intKind p w).pyHash (intKind_is _ _ _ _) ?_))
  exact wpAny_setAddHashed_of (s := { s with toks := s.toks + 1 }) (intKind_is _ _ _ _) rfl hS hb fun h' hs hS' => h _ h' _ hs hS'
theorem set_unled {s : Shared} {E : Value → Shared → Prop} {Q : Unit → Shared → Prop} {a : Addr} {F : Int → Bool} {n : Nat} (hS : s.heap.SetOf (PySem.intKind p w) a F n)
    (h : ∀ h', Heap.SameBut a s.heap h' → h'.SetOf (PySem.intKind p w) a F n → Q () { s with heap := h' }) : wpAny (model p w) A (setUnled a) Q E s := by
  obtain ⟨o, es, ep, t, ho, hex, hd, hel, hmem, hb, hf, hn⟩ := hS
  unfold setUnled
  refine wpAny_bind (wpAny_setState_of ho hd hf ?_)
  dsimp only
  refine wpAny_storeSet_of ho hd ?_ (fits_of_scanBound hb)
  have hf' : ({ t with led := false } : SetTable).fits es.size = true := by cases t; exact hf
  obtain ⟨_, hS⟩ := SetOf_store (knd := PySem.intKind p w) ho hex hd hel hmem hb hf'
  rw [hn] at hS
  exact h _ (Heap.SameBut.update ..) hS
theorem set_two {c d : Int} {i j : Nat} {pc pd pos : Pos} {s : Shared} {O : Owns} {E : Value → Shared → Prop} {Q : Value → Shared → Prop} (hc : CodeOk h₀ env) (S : St h₀ env O m s.heap)
    (h : ∀ a s', Ext s s' → s.heap.get? a = none → (∃ n, n < scanBound ∧ s'.heap.SetOf (PySem.intKind p w) a (fun k => (false || decide (k = c)) || decide (k = d)) n) → Q (.ref a) s') :
    wpAny (model p w) A (eval (.Set [.Constant (.int c) i pc, .Constant (.int d) j pd] 0 pos) env) Q E s := by
  rw [arm_eval_Set]
  refine wpAny_bind (wpAny_standAt (wpAny_bind (in_main hc S fun b => ?_)))
  rw [kds_star _ rfl, List.map_map]
  refine kds_core (ts := (evalEach [.Constant (.int c) i pc, .Constant (.int d) j pd] env).map fun t => do let v ← t; standAt pos; pure v) rfl rfl (Nat.le_of_ble_eq_true rfl) rfl fun led => ?_
  refine kds_all pos [.Constant (.int c) i pc, .Constant (.int d) j pd] _ _ ?_
  refine wpAny_Constant_int (wpAny_Constant_int ?_)
  have hz : scanBound > 10 := by decide
  have hS0 : (s.heap.push { cls := .type "set", dict := none, data := .set #[] 0 (.fresh 0 0 led) }).SetOf (PySem.intKind p w) s.heap.objs.size (fun _ => false) 0 := (setObjOf_fresh led).setOf (Heap.get?_push_size _ rfl) (by lia)
  refine kds_fill_cons (set_add (n := 0) hS0 (by lia) fun b₁ h₁ t₁ hs₁ hS₁ => ?_)
  have fr := size_none s.heap
  refine kds_fill_cons (set_add (n := 1) (by simpa using hS₁) (by lia) fun b₂ h₂ t₂ hs₂ hS₂ => ?_)
  refine kds_fill_nil rfl (h _ _ ⟨fun b o e => ?_, h₂, t₂, rfl⟩ fr ⟨_, ?_, hS₂⟩)
  · have hne : b ≠ s.heap.objs.size := fun q => by rw [q, fr] at e; cases e
    exact hs₂.extBut b o hne (hs₁.extBut b o hne (Heap.get?_push_of_some _ e))
  · split <;> lia
theorem evB_inset {l : Expr} {c d : Int} {i j : Nat} {pc pd sp pos : Pos} {k : Bool → Prop} (hc : CodeOk h₀ env) (h : EvI p w h₀ A env m l fun a => k (decide (a = c) || decide (a = d))) :
    EvB p w h₀ A env m (.Compare l [.In] [.Set [.Constant (.int c) i pc, .Constant (.int d) j pd] 0 sp] pos) k := fun s O Q E S hQ =>
  kdi_eval rfl (h s O _ E S fun a t s₁ x₁ hk => set_two hc (S.ext x₁) fun D s₂ x₂ nD ⟨n, hn, hS⟩ => kdi_mark (set_unled hS fun h' hs' hS' => by
    refine wpAny_inSet_of (s := { s₂ with heap := h' }) (intKind_is _ _ _ _) rfl (hS') (hQ _ { s₂ with heap := h', toks := s₂.toks + 1 } (x₁.trans ⟨fun b o e => hs'.extBut b o (fun q => by rw [q, nD] at e; cases e) (x₂.keep b o e), ?_⟩) (by simpa using hk))
    obtain ⟨hx, tk, e⟩ := x₂.same
    exact ⟨h', _, by rw [e]⟩))
theorem tst_inset {l : Expr} {c d : Int} {i j : Nat} {pc pd sp pos : Pos} {k : Bool → Prop} (hc : CodeOk h₀ env) (h : EvI p w h₀ A env m l fun a => k (decide (a = c) || decide (a = d))) :
    Tst p w h₀ A env m (.Compare l [.In] [.Set [.Constant (.int c) i pc, .Constant (.int d) j pd] 0 sp] pos) k := fun s O Q E S hQ =>
  kdi_test rfl (h s O _ E S fun a t s₁ x₁ hk => set_two hc (S.ext x₁) fun D s₂ x₂ nD ⟨n, hn, hS⟩ => kdi_mark (set_unled hS fun h' hs' hS' => by
    refine wpAny_inSet_of (s := { s₂ with heap := h' }) (intKind_is _ _ _ _) rfl (hS') (wpAny_truthy_bool (hQ _ { s₂ with heap := h', toks := s₂.toks + 1 } (x₁.trans ⟨fun b o e => hs'.extBut b o (fun q => by rw [q, nD] at e; cases e) (x₂.keep b o e), ?_⟩) (by simpa using hk)))
    obtain ⟨hx, tk, e⟩ := x₂.same
    exact ⟨h', _, by rw [e]⟩))

def PB (bs : List Bool) : List PyData := bs.map .bool
theorem pb_items {h : Heap} : ∀ {bs : List Bool} {vs : List Value} {as : List Addr}, RdAll h vs (PB bs) as → vs = bs.map Value.bool
  | [], _, _, .nil => rfl
  | b :: bs, _, _, .cons r q => by
    cases r
    rw [List.map_cons, ← pb_items (bs := bs) q]
theorem evI_sumB {x : Str} {e : Expr} {xp pos : Pos} {k : Int → Prop} (ok : EnvOk env) (hh : A.handled = none) (hx : env.kindOf x = some .globalImplicit) (B : Bi h₀ x (.builtin "sum")) (h : Ev p w h₀ A env .any m e fun d => ∃ bs, d = .list (PB bs) ∧ k (bs.map b2n).sum)
    (he : starEach [e] env = (false, eval e env) :: starEach [] env := by rfl) (hd : (x == ("__debug__" : Str)) = false := by decide) : EvI p w h₀ A env m (.Call (.Name x xp) [e] [] pos) k := fun s O Q E S hQ =>
  call_b1 ok hx B S (h s O _ E S fun v d as s₁ x₁ r f0 ⟨bs, e, hk⟩ => by
    subst e
    clear f0
    cases r with
    | list i q =>
      rename_i a vs as
      have ev := pb_items q
      have hlt : a ≠ s₁.heap.objs.size := size_ne i
      refine call_sum_walkAnyB (wpAny_pyIter_list i.isList ⟨_, _, _, _, _, _, _, fun j => (bs.map b2n).getD j 0, rfl, (Walks.list (A := A.in1) hh s₁.heap.objs.size a hlt vs).toS, ⟨⟨_, Heap.get?_push_size _ rfl, rfl, rfl⟩, i.isList.push _⟩, fun b hb => ?_, fun j v hv => ?_, fun s' t' hm => ?_⟩)
      · show b < (s₁.heap.push _).objs.size
        rw [Heap.size_push]
        have ha : a < s₁.heap.objs.size := by obtain ⟨n, e⟩ := i; exact Heap.lt_size e
        rcases List.mem_cons.mp hb with rfl | hb
        · exact Nat.lt_succ_self _
        · rcases List.mem_cons.mp hb with rfl | hb
          · exact Nat.lt_succ_of_lt ha
          · cases hb
      · have e1 : vs.toList[j]? = some v := by simpa using hv
        rw [ev, List.getElem?_map] at e1
        cases hj : bs[j]? with
        | none => rw [hj] at e1; cases e1
        | some b =>
          rw [hj] at e1
          cases e1
          exact .inr ⟨b, rfl, by simp [List.getD, hj, b2n]⟩
      · have e2 : ∀ (ns : List Int) (n : Nat), preSum (fun j => ns.getD j 0) n = (ns.take n).sum := by
          intro ns n
          induction n with
          | zero => simp [preSum]
          | succ n ih => rw [preSum, ih, PySem.sum_take_succ]
        have e3 : vs.size = (bs.map b2n).length := by rw [← Array.length_toList, ev]; simp
        rw [e2, e3, List.take_of_length_le (Nat.le_refl _)]
        obtain ⟨hx, tk, es⟩ := x₁.same
        refine hQ _ _ _ (x₁.trans ⟨fun b o e => hm.heap b o (fun hb => ?_) (Heap.get?_push_of_some _ e), s'.heap, s'.toks, (Moved.eq_with hm).trans rfl⟩) hk
        rcases List.mem_cons.mp hb with q | hb
        · rw [q, size_none] at e; cases e
        · cases hb) hd he
end

section
variable {p : Program} {w : World} {h₀ : Heap} {A : Around} {env : Env} {m : Locs} {N : Locs → Prop} {T : PyData → Prop}
theorem whw_inv {t : Expr} {b : List Stmt} (I : Nat → Locs → Prop) (h0 : ∀ m, ¬ I 0 m) (step : ∀ j m, I (j + 1) m → Tst p w h₀ A env m t fun c => if c then Ex p w h₀ A env m b (fun m' => I j m') T else N m) : ∀ n m, I n m → WhW p w h₀ A env t b N T n m
  | 0, m, h => (h0 m h).elim
  | n + 1, m, h => by
    unfold WhW
    refine fun s O Q E S hQ => step n m h s O Q E S fun c s' x hc => hQ c s' x ?_
    cases c with
    | false => exact hc
    | true => exact ex_mono hc (fun m' hm => whw_inv I h0 step n m' hm) fun _ t => t
theorem forw_inv {x : Str} {b : List Stmt} (I : List PyData → Locs → Prop) (h0 : ∀ m, I [] m → N m) (step : ∀ d ds m, I (d :: ds) m → Ex p w h₀ A env (st m x (.val d)) b (fun m' => I ds m') T) : ∀ ds m, I ds m → ForW p w h₀ A env x b N T ds m
  | [], m, h => h0 m h
  | d :: ds, m, h => by
    unfold ForW
    exact ex_mono (step d ds m h) (fun m' hm => forw_inv I h0 step ds m' hm) fun _ t => t
theorem forw_cons {x : Str} {b : List Stmt} {d : PyData} {ds : List PyData} (h : Ex p w h₀ A env (st m x (.val d)) b (fun m' => ForW p w h₀ A env x b N T ds m') T) : ForW p w h₀ A env x b N T (d :: ds) m := h
theorem forw_nil {x : Str} {b : List Stmt} (h : N m) : ForW p w h₀ A env x b N T [] m := h
theorem compw_cons {x : Str} {ifs : List Expr} {elt : Expr} {k : List PyData → Prop} {d : PyData} {ds out : List PyData} (h : TstS p w h₀ A env (st m x (.val d)) ifs fun b => if b then Ev p w h₀ A env .fresh (st m x (.val d)) elt fun r => CompW p w h₀ A env m x ifs elt k ds (out ++ [r]) else CompW p w h₀ A env m x ifs elt k ds out) : CompW p w h₀ A env m x ifs elt k (d :: ds) out := h
theorem compw_nil {x : Str} {ifs : List Expr} {elt : Expr} {k : List PyData → Prop} {out : List PyData} (h : k out) : CompW p w h₀ A env m x ifs elt k [] out := h
theorem tst_mono {e : Expr} {k k' : Bool → Prop} (t : Tst p w h₀ A env m e k) (h : ∀ b, k b → k' b) : Tst p w h₀ A env m e k' := fun s O Q E S hQ => t s O Q E S fun b s' x hk => hQ b s' x (h b hk)
theorem kind_at {ns : List (Str × NameKind)} {x : Str} {k : NameKind} (h : env.scope.names = ns) (e : ns.lookup x = some k) : env.kindOf x = some k := by
  unfold Env.kindOf; rw [h]; exact e
theorem stored_at {ns : List (Str × NameKind)} {x : Str} (h : env.scope.names = ns) (e : ns.lookup x = some .local) : Stored env x := .inl (kind_at h e)
theorem stored_cell {ns : List (Str × NameKind)} {x : Str} {c : Addr} (h : env.scope.names = ns) (e : ns.lookup x = some .cell) (hc : env.cells.lookup x = some c) : Stored env x := .inr ⟨kind_at h e, c, hc⟩
theorem ex_freeze {x : Str} {ds : List PyData} {b : List Stmt} (hx : gt m x = some (.own ds)) (h : Ex p w h₀ A env (st m x (.val (.list ds))) b N T) : Ex p w h₀ A env m b N T := fun s O Q E S hN hT => by
  obtain ⟨v, bd, a, vs, as, rfl, hm, il, r, n⟩ := S.vars x _ hx
  have sub : ∀ {y c}, (y, c) ∈ O.filter (fun q => q.2 ≠ a) → (y, c) ∈ O := fun h => (List.mem_filter.mp h).1
  have S' : St h₀ env (O.filter (fun q => q.2 ≠ a)) (st m x (.val (.list ds))) s.heap := by
    refine ⟨S.ground, S.frame, S.cells, S.apart, S.newL, S.newC, fun y c h => S.newO y c (sub h), fun y c h => S.lists y c (sub h), fun y z c h h' => S.uniq y z c (sub h) (sub h'), fun y l e => ?_⟩
    rw [gt_st] at e
    by_cases hy : y = x
    · subst hy
      rw [if_pos rfl] at e
      cases e
      refine ⟨.ref a, bd, a :: as, .list il r, fun c hc y' hy' => ?_⟩
      rcases List.mem_cons.mp hc with rfl | hc
      · have := (List.mem_filter.mp hy').2
        simp at this
      · exact n c hc y' (sub hy')
    · rw [if_neg hy] at e
      obtain ⟨u, bd', ru⟩ := S.vars y l e
      refine ⟨u, bd', ?_⟩
      cases l with
      | val d => obtain ⟨as', r', n'⟩ := ru; exact ⟨as', r', fun c hc z hz => n' c hc z (sub hz)⟩
      | own ds' =>
        obtain ⟨a', vs', as', e1, hm', i', r', n'⟩ := ru
        refine ⟨a', vs', as', e1, List.mem_filter.mpr ⟨hm', ?_⟩, i', r', fun c hc z hz => n' c hc z (sub hz)⟩
        have : a' ≠ a := fun q => hy (S.uniq y x a' hm' (q ▸ hm))
        simpa using this
  refine h s _ Q E S' (fun m' O' s' pr g S'' k => hN m' O' s' ⟨fun b o e h1 h2 h3 => pr.keep b o e h1 h2 fun z hz => h3 z (sub hz), pr.same⟩ (fun z c hz => (g z c hz).imp (fun ⟨y, hy⟩ => ⟨y, sub hy⟩) id) S'' k) fun v d as' s' pr rd f t => hT v d as' s' ⟨fun b o e h1 h2 h3 => pr.keep b o e h1 h2 fun z hz => h3 z (sub hz), pr.same⟩ rd (fun c hc => (f c hc).imp id fun ⟨y, hy⟩ => ⟨y, sub hy⟩) t
theorem ex_forget {m' : Locs} {b : List Stmt} (hm : ∀ x l, gt m' x = some l → gt m x = some l) (h : Ex p w h₀ A env m' b N T) : Ex p w h₀ A env m b N T := fun s O Q E S hN hT =>
  h s O Q E ⟨S.ground, S.frame, S.cells, S.apart, S.newL, S.newC, S.newO, S.lists, S.uniq, fun x l e => S.vars x l (hm x l e)⟩ hN hT
end

structure Gnd (K : Frag) (h₀ : Heap) : Prop where
  X : K.In h₀
  top : ∃ mg mb, h₀.Ns mainGlobals mg ∧ h₀.Ns builtinsNs mb ∧ ∀ x : Str, x ≠ "__name__" → mb x = bootBuiltins x
  lim : h₀.NoLimit
theorem Gnd.gl {K : Frag} {h₀ : Heap} (G : Gnd K h₀) {x : Str} {v : Value} (e : nsIn K mainGlobals x = some (some v)) : Gl h₀ x v :=
  let ⟨mg, _, g, _⟩ := G.top; ⟨mg, g, mg_of G.X g e⟩
theorem Gnd.bi {K : Frag} {h₀ : Heap} (G : Gnd K h₀) {x : Str} {v : Value} (e : nsIn K mainGlobals x = some none) (hv : bootBuiltins x = some v) (hn : x ≠ "__name__") : Bi h₀ x v :=
  let ⟨mg, mb, g, b, h⟩ := G.top; ⟨mg, mb, g, mg_none_of G.X g e, b, (h x hn).trans hv⟩

def Has (m : Locs) : Locs → Prop
  | [] => True
  | (x, l) :: r => gt m x = some l ∧ Has m r
theorem Has.get {m : Locs} : ∀ {m' : Locs}, Has m m' → ∀ x l, gt m' x = some l → gt m x = some l
  | [], _, _, _, e => by simp [gt] at e
  | (y, k) :: r, ⟨h1, h2⟩, x, l, e => by
    unfold gt at e
    rw [List.lookup_cons] at e
    split at e
    · rename_i hb; rw [beq_iff_eq.mp hb, ← e]; exact h1
    · exact h2.get x l e
theorem ex_has {p : Program} {w : World} {h₀ : Heap} {A : Around} {env : Env} {m : Locs} {N : Locs → Prop} {T : PyData → Prop} {m' : Locs} {b : List Stmt} (h : Has m m') (e : Ex p w h₀ A env m' b N T) : Ex p w h₀ A env m b N T := ex_forget h.get e
theorem it_cases {c : Bool} {P Q : Prop} (t : c = true → P) (f : c = false → Q) : if c = true then P else Q := by
  cases c with
  | true => exact t rfl
  | false => exact f rfl
theorem it_t {c : Bool} {P Q : Prop} (h : c = true) (t : P) : if c = true then P else Q := by subst h; exact t
theorem it_f {c : Bool} {P Q : Prop} (h : c = false) (f : Q) : if c = true then P else Q := by subst h; exact f

section
variable {p : Program} {w : World} {h₀ : Heap} {A : Around} {env : Env} {m : Locs} {N : Locs → Prop} {T : PyData → Prop}
theorem evI_itemC {b : Expr} {i : Int} {n j : Nat} {cpos pos : Pos} {k : Int → Prop} (hn : i = (n : Int)) (h : EvP p w h₀ A env m b fun ns => (n < ns.length ∧ (ns.length : Int) < 2 ^ 63) ∧ k (ns.getD n 0)) :
    EvI p w h₀ A env m (.Subscript b (.Constant (.int i) j cpos) pos) k := by
  refine evI_item (fun s O Q E S hQ => h s O Q E S fun a vs ns s' x il r ⟨⟨h1, h2⟩, hk⟩ => hQ a vs ns s' x il r (evI_const ?_))
  subst hn
  refine ⟨⟨by lia, by lia, h2⟩, ?_⟩
  rw [Int.toNat_natCast]; exact hk
theorem tst_none {x : Str} {pos : Pos} {k : Bool → Prop} (hk : env.scope.kind = .function) (hx : gt m x = some (.val .none)) (h : k false) (hd : (x == ("__debug__" : Str)) = false := by decide) : Tst p w h₀ A env m (.Name x pos) k := fun s O Q E S hQ => by
  obtain ⟨v, b, as, r, _⟩ := S.vars x _ hx
  cases r
  exact isTrue_plain (load_bound hk b (truthy_none (hQ _ _ (Ext.refl s) h)) hd) rfl

def closes (env : Env) : List (Str × NameKind) → List (Str × Addr) → Option (List (Str × Addr))
  | [], cs => some cs
  | (n, k) :: r, cs => if k == .free then (match env.cells.lookup n with | some a => closes env r ((n, a) :: cs) | none => none) else closes env r cs
theorem closureFor_closes {scope : Scope} {cl : List (Str × Addr)} (h : closes env scope.names [] = some cl) : closureFor scope env = pure cl := by
  have gen : ∀ (f : Str × NameKind → List (Str × Addr) → Sem (ForInStep (List (Str × Addr)))), (∀ n k cs, f (n, k) cs = if k == .free then (do let a ← cellOf env n; pure (.yield ((n, a) :: cs))) else pure (.yield cs)) →
      ∀ (names : List (Str × NameKind)) (cs cl : List (Str × Addr)), closes env names cs = some cl → forIn names cs f = pure cl := by
    intro f hf names
    induction names with
    | nil => intro cs cl h; cases h; rfl
    | cons q r ih =>
      obtain ⟨n, k⟩ := q
      intro cs cl h
      rw [List.forIn_cons, hf]
      unfold closes at h
      by_cases hk : (k == NameKind.free) = true
      · rw [if_pos hk] at h ⊢
        cases hc : env.cells.lookup n with
        | none => rw [hc] at h; cases h
        | some a =>
          rw [hc] at h
          have e : cellOf env n = pure a := by unfold cellOf; rw [hc]
          rw [e]
          simp only [pure_bind]
          exact ih _ _ h
      · rw [if_neg hk] at h ⊢
        simp only [pure_bind]
        exact ih _ _ h
  simp only [closureFor]
  rw [gen _ (fun n k cs => by cases hk : k == NameKind.free <;> simp) scope.names [] cl h]
  rfl
theorem relabel_free {scope : Scope} {x : Str} (hk : env.scope.kind = .function) (hx : env.kindOf x = some .cell) (h : scope.names.lookup x = some .free) : (relabel scope env).names.lookup x = some .cell := by
  show (scope.names.map _).lookup x = _
  generalize scope.names = names at h
  induction names with
  | nil => simp at h
  | cons q r ih =>
    obtain ⟨n, k⟩ := q
    rw [List.map_cons]
    by_cases e : x = n
    · subst e
      rw [List.lookup_cons] at h
      simp only [beq_self_eq_true] at h
      cases h
      simp [hk, hx]
    · have hb : (x == n) = false := by simpa using e
      rw [List.lookup_cons, hb] at h
      have := ih h
      by_cases hc : (k == NameKind.free && env.scope.kind == .function && env.kindOf n == some .cell) = true
      · show List.lookup x ((if (k == NameKind.free && env.scope.kind == .function && env.kindOf n == some .cell) = true then (n, NameKind.cell) else (n, k)) :: _) = _
        rw [if_pos hc, List.lookup_cons, hb]; exact this
      · show List.lookup x ((if (k == NameKind.free && env.scope.kind == .function && env.kindOf n == some .cell) = true then (n, NameKind.cell) else (n, k)) :: _) = _
        rw [if_neg hc, List.lookup_cons, hb]; exact this
theorem caught_nil {scope : Scope} {cl : List (Str × Addr)} : Caught env scope cl m [] := fun y l e => by simp [gt] at e
theorem caught_cons {scope : Scope} {cl : List (Str × Addr)} {mc : Locs} {x : Str} {l : Loc} {c : Addr} (hk : env.scope.kind = .function) (hm : gt m x = some l) (hx : env.kindOf x = some .cell) (hs : scope.names.lookup x = some .free) (hc : cl.lookup x = some c) (hc' : env.cells.lookup x = some c)
    (h : Caught env scope cl m mc) : Caught env scope cl m ((x, l) :: mc) := fun y l' e => by
  unfold gt at e
  rw [List.lookup_cons] at e
  split at e
  · rename_i hb
    rw [beq_iff_eq.mp hb]
    cases e
    exact ⟨hm, hx, relabel_free hk hx hs, c, hc, hc'⟩
  · exact h y l' e
theorem compEnv_ok {scope : Scope} {cl : List (Str × Addr)} {C : Addr} (ok : EnvOk env) (hk : scope.kind = .function) : EnvOk (compEnvC scope cl C env) := ⟨hk, ok.glob, ok.blt⟩
theorem tstS_nil {k : Bool → Prop} (h : k true) : TstS p w h₀ A env m [] k := h
theorem compw_map {x : Str} {elt : Expr} {k : List PyData → Prop} (f : PyData → PyData) : ∀ (ds out : List PyData), (∀ d ∈ ds, Ev p w h₀ A env .fresh (st m x (.val d)) elt fun r => r = f d) → k (out ++ ds.map f) → CompW p w h₀ A env m x [] elt k ds out
  | [], out, _, hk => compw_nil (by simpa using hk)
  | d :: ds, out, h, hk => by
    refine compw_cons (tstS_nil (it_t rfl ?_))
    refine fun s O Q E S hQ => h d (.head _) s O Q E S fun v d' as s' x' r f' e => hQ v d' as s' x' r f' ?_
    subst e
    exact compw_map f ds _ (fun d' hd => h d' (.tail _ hd)) (by simpa using hk)
theorem compw_filter {x : Str} {elt c : Expr} {k : List PyData → Prop} (t : PyData → Bool) (f : PyData → PyData) : ∀ (ds out : List PyData), (∀ d ∈ ds, Tst p w h₀ A env (st m x (.val d)) c fun b => b = t d) → (∀ d ∈ ds, t d = true → Ev p w h₀ A env .fresh (st m x (.val d)) elt fun r => r = f d) → k (out ++ (ds.filter t).map f) → CompW p w h₀ A env m x [c] elt k ds out
  | [], out, _, _, hk => compw_nil (by simpa using hk)
  | d :: ds, out, ht, h, hk => by
    refine compw_cons ?_
    refine tst_mono (ht d (.head _)) fun b e => ?_
    subst e
    cases hb : t d with
    | true =>
      rw [if_pos rfl]
      refine fun s O Q E S hQ => h d (.head _) hb s O Q E S fun v d' as s' x' r f' e => hQ v d' as s' x' r f' ?_
      subst e
      exact compw_filter t f ds _ (fun d' hd => ht d' (.tail _ hd)) (fun d' hd => h d' (.tail _ hd)) (by simpa [List.filter_cons, hb] using hk)
    | false =>
      rw [if_neg Bool.false_ne_true]
      exact compw_filter t f ds _ (fun d' hd => ht d' (.tail _ hd)) (fun d' hd => h d' (.tail _ hd)) (by simpa [List.filter_cons, hb] using hk)
end

section
variable {p : Program} {w : World} {h₀ : Heap} {A : Around} {env : Env} {m : Locs} {N : Locs → Prop} {T : PyData → Prop}
theorem rng_drop (n i : Nat) (h : i < n) : (rng n).drop i = (i : Int) :: (rng n).drop (i + 1) := by
  have hl : (rng n).length = n := by simp [rng]
  rw [List.drop_eq_getElem_cons (by lia)]
  congr 1
  simp [rng]
theorem forw_range {x : Str} {b : List Stmt} (n : Nat) (I : Nat → Locs → Prop) (h0 : ∀ m, I n m → N m) (step : ∀ i m, i < n → I i m → Ex p w h₀ A env (st m x (.val (.int i))) b (fun m' => I (i + 1) m') T) (m : Locs) (h : I 0 m) : ForW p w h₀ A env x b N T (PI (rng n)) m := by
  refine forw_inv (fun ds m => ∃ i, i ≤ n ∧ ds = PI ((rng n).drop i) ∧ I i m) ?_ ?_ _ _ ⟨0, Nat.zero_le _, by simp, h⟩
  · rintro m ⟨i, hi, e, hI⟩
    have hl : (rng n).length = n := by simp [rng]
    have : i = n := by
      have := congrArg List.length e
      simp [PI, hl] at this
      lia
    subst this; exact h0 m hI
  · rintro d ds m ⟨i, hi, e, hI⟩
    have hlt : i < n := by
      rcases Nat.lt_or_ge i n with h | h
      · exact h
      · have hl : (rng n).length = n := by simp [rng]
        rw [List.drop_eq_nil_of_le (by lia)] at e; cases e
    rw [rng_drop n i hlt, PI, List.map_cons] at e
    obtain ⟨rfl, rfl⟩ := List.cons.inj e
    exact ex_mono (step i m hlt hI) (fun m' hm => ⟨i + 1, hlt, rfl, hm⟩) fun _ t => t
theorem swaps_t {elt : Expr} {gs : List Comprehension} {scope : Scope} {pos py : Pos} {y : Str} {l : Nat} (ok : EnvOk env) (hy : env.kindOf y = some .local) (hl : (py.line == pos.line) = true) (hn : (scope.names.any fun (n, k) => n == y && (k == .local || k == .cell)) = false) :
    swapsWith (.ListComp elt gs scope pos) (some (.Name y py)) l env = pure true := by
  have hb : env.blockKind = .function := by unfold Env.blockKind; rw [ok.kind]; rfl
  show (pure (env.blockKind == .function && env.kindOf y == some .local && py.line == pos.line && !(scope.names.any fun (n, k) => n == y && (k == .local || k == .cell))) : Sem Bool) = pure true
  rw [hb, hy, hl, hn]; rfl
theorem compw_env {sc : Scope} {cl : List (Str × Addr)} {C : Addr} {mc : Locs} {x : Str} {ifs : List Expr} {elt : Expr} {k : List PyData → Prop} {ds out : List PyData} (ok : EnvOk env) (hk : sc.kind = .function) (h : ∀ e', EnvOk e' → e'.scope.names = (relabel sc env).names → CompW p w h₀ A e' mc x ifs elt k ds out) : CompW p w h₀ A (compEnvC sc cl C env) mc x ifs elt k ds out := h _ (compEnv_ok ok hk) rfl
end

mutual
theorem Rd.reads {h : Heap} : ∀ {v : Value} {d : PyData} {as : List Addr}, Rd h v d as → Reads h v d as
  | _, _, _, .none => .none
  | _, _, _, .bool b => .bool b
  | _, _, _, .int i t => .int i t
  | _, _, _, .list ⟨n, e⟩ q => .list e rfl rfl (RdAll.reads q)
theorem RdAll.reads {h : Heap} : ∀ {vs : List Value} {ds : List PyData} {as : List Addr}, RdAll h vs ds as → ReadsAll h vs ds as
  | _, _, _, .nil => .nil
  | _, _, _, .cons r q => .cons (Rd.reads r) (RdAll.reads q)
end
theorem RdAll.rev {h : Heap} : ∀ {vs : List Value} {ds : List PyData} {as : List Addr}, RdAll h vs ds as → ∃ bs, RdAll h vs.reverse ds.reverse bs ∧ ∀ b ∈ bs, b ∈ as
  | _, _, _, .nil => ⟨[], .nil, fun _ h => nomatch h⟩
  | _, _, _, .cons (as := a1) r q => by
    obtain ⟨bs, q', f⟩ := RdAll.rev q
    rw [List.reverse_cons, List.reverse_cons]
    refine ⟨bs ++ a1, rdAll_snoc q' r, fun b hb => ?_⟩
    rcases List.mem_append.mp hb with hb | hb
    · exact List.mem_append_right _ (f b hb)
    · exact List.mem_append_left _ hb

section
variable {p : Program} {w : World} {h₀ : Heap} {A : Around} {env : Env} {m : Locs} {N : Locs → Prop} {T : PyData → Prop}

theorem evB_eqD {l r : Expr} {pos : Pos} {k : Bool → Prop} (hu : A.units + 64 < cLine) (h : Ev p w h₀ A env .any m l fun d => Ev p w h₀ A env .any m r fun d' => (SeqAt.shaped d = true ∧ SeqAt.shaped d' = true) ∧ k (PyData.eqv d d'))
    (hm : behindInMarks .Eq r = false := by with_unfolding_all rfl) : EvB p w h₀ A env m (.Compare l [.Eq] [r] pos) k := fun s O Q E S hQ =>
  wpAny_Compare1 (h s O _ E S fun v d as s₁ x₁ r1 _ h₁ => h₁ s₁ O _ E (S.ext x₁) fun v' d' as' s₂ x₂ r2 _ ⟨⟨e1, e2⟩, hk⟩ => eq_dataH (r1.keeps x₂.keep).reads r2.reads e1 e2 hu (hQ _ _ (x₁.trans x₂) hk)) hm
theorem tst_eqD {l r : Expr} {pos : Pos} {k : Bool → Prop} (hu : A.units + 64 < cLine) (h : Ev p w h₀ A env .any m l fun d => Ev p w h₀ A env .any m r fun d' => (SeqAt.shaped d = true ∧ SeqAt.shaped d' = true) ∧ k (PyData.eqv d d'))
    (hm : behindInMarks .Eq r = false := by with_unfolding_all rfl) : Tst p w h₀ A env m (.Compare l [.Eq] [r] pos) k := fun s O Q E S hQ =>
  wpAny_isTrue_Compare1 (h s O _ E S fun v d as s₁ x₁ r1 _ h₁ => h₁ s₁ O _ E (S.ext x₁) fun v' d' as' s₂ x₂ r2 _ ⟨⟨e1, e2⟩, hk⟩ => eq_dataH (r1.keeps x₂.keep).reads r2.reads e1 e2 hu (wpAny_truthy_bool (hQ _ _ (x₁.trans x₂) hk))) hm
theorem tst_isB {l r : Expr} {pos : Pos} {k : Bool → Prop} (h : EvB p w h₀ A env m l fun a => EvB p w h₀ A env m r fun b => k (a == b)) (hm : behindInMarks .Is r = false := by with_unfolding_all rfl) : Tst p w h₀ A env m (.Compare l [.Is] [r] pos) k :=
  fun s O Q E S hQ => wpAny_isTrue_Compare1 (h s O _ E S fun _ _ x₁ h₁ => h₁ _ O _ E (S.ext x₁) fun _ s₂ x₂ h₂ => is_bool (wpAny_truthy_bool (hQ _ _ (x₁.trans x₂) h₂))) hm
theorem evI_neg {i : Int} {j : Nat} {pos pos' : Pos} {k : Int → Prop} (h : k (-i)) : EvI p w h₀ A env m (.UnaryOp .USub (.Constant (.int i) j pos) pos') k := fun s _ _ _ _ hQ =>
  UnaryOp_ (wpAny_Constant_int (neg_int (hQ _ _ _ ((Ext.tok s _).trans (Ext.tok _ _)) h)))
theorem evN_rev {b st : Expr} {sp pos : Pos} {k : List PyData → Prop} (h : EvP p w h₀ A env m b fun ns => EvI p w h₀ A env m st fun i => i = -1 ∧ ns.length ≤ sizeLine ∧ k (PI ns.reverse)) : EvN p w h₀ A env m (.Subscript b (.Slice none none (some st) sp) pos) k := fun s O Q E S hQ =>
  slice_at (h s O _ E S fun a vs ns s₁ x₁ i q h₁ => wpAny_evalPart_none (wpAny_evalPart_none (wpAny_evalPart_some (h₁ s₁ O _ E (S.ext x₁) fun n t s₂ x₂ ⟨en, hz, hk⟩ => by
    subst en
    refine ⟨a, vs, none, none, some (-1), rfl, isList_keeps i x₂.keep, by rw [size_pi q]; exact hz, .none, .none, .int _ _, by simp, ?_⟩
    rw [krv_pick]
    obtain ⟨bs, q', f⟩ := q.rev
    have eb : bs = [] := by
      cases bs with
      | nil => rfl
      | cons z zs => exact absurd (f z (.head _)) (by simp)
    subst eb
    refine hQ _ vs.toList.reverse.toArray [] (PI ns.reverse) _ (slice_ext (x₁.trans x₂) _ _) (slice_new (x₁.trans x₂)) (slice_plain _ _ _) ?_ (fun _ h => nomatch h) hk
    have e : PI ns.reverse = (PI ns).reverse := by simp [PI]
    rw [e]
    exact (show RdAll s₁.heap vs.toList.reverse.toArray.toList (PI ns).reverse [] from q').keeps fun _ _ e => Heap.get?_push_of_some _ (Heap.get?_push_of_some _ (x₂.keep _ _ e)))))) (fun _ _ => ⟨_, rfl⟩)
theorem ev_revD {b st : Expr} {sp pos : Pos} {k : PyData → Prop} (h : Ev p w h₀ A env .plain m b fun d => ∃ ds, d = .list ds ∧ EvI p w h₀ A env m st fun i => i = -1 ∧ ds.length ≤ sizeLine ∧ k (.list ds.reverse)) : Ev p w h₀ A env .plain m (.Subscript b (.Slice none none (some st) sp) pos) k := fun s O Q E S hQ =>
  slice_at (h s O _ E S fun v d as s₁ x₁ r f ⟨ds, ed, h₁⟩ => wpAny_evalPart_none (wpAny_evalPart_none (wpAny_evalPart_some (h₁ s₁ O _ E (S.ext x₁) fun n t s₂ x₂ ⟨en, hz, hk⟩ => by
    subst en
    subst ed
    cases r with
    | list i q =>
      rename_i a vs as
      refine ⟨a, vs, none, none, some (-1), rfl, isList_keeps i x₂.keep, by rw [size_ds q]; exact hz, .none, .none, .int _ _, by simp, ?_⟩
      rw [krv_pick]
      obtain ⟨bs, q', fb⟩ := q.rev
      refine hQ _ (.list ds.reverse) (_ :: bs) _ (slice_ext (x₁.trans x₂) _ _) (.list (slice_plain _ _ _) ((show RdAll s₁.heap vs.toList.reverse.toArray.toList ds.reverse bs from q').keeps fun _ _ e => Heap.get?_push_of_some _ (Heap.get?_push_of_some _ (x₂.keep _ _ e)))) (fun b hb => ?_) hk
      rcases List.mem_cons.mp hb with rfl | hb
      · exact foot_fresh S .plain (slice_new (x₁.trans x₂))
      · exact f b (.tail _ (fb b hb)))))) (fun _ _ => ⟨_, rfl⟩)
theorem evN_list {x : Str} {e : Expr} {xp pos : Pos} {k : List PyData → Prop} (ok : EnvOk env) (hx : env.kindOf x = some .globalImplicit) (B : Bi h₀ x (.type "list")) (h : EvP p w h₀ A env m e fun ns => ns.length ≤ sizeLine ∧ k (PI ns))
    (he : starEach [e] env = (false, eval e env) :: starEach [] env := by rfl) (hd : (x == ("__debug__" : Str)) = false := by decide) : EvN p w h₀ A env m (.Call (.Name x xp) [e] [] pos) k := fun s O Q E S hQ =>
  call_t1 ok hx B S (h s O _ E S fun a vs ns s₁ x₁ i q ⟨hz, hk⟩ => by
    obtain ⟨n, ho⟩ := id i
    refine call_list_seq (hsz := by rw [size_pi q]; exact hz) a (.inl rfl) ho rfl rfl fun h' c' hk' hD => ?_
    exact hQ _ vs [] _ { s₁ with heap := h' } (x₁.trans ⟨hk', h', s₁.toks, rfl⟩) (x₁.fresh (size_none _)) ⟨c', hD⟩ (q.keeps hk') (fun _ h => nomatch h) hk) hd he
theorem tst_list {e : Expr} {k : Bool → Prop} (h : Ev p w h₀ A env .any m e fun d => ∃ ds, d = .list ds ∧ (ds.length : Int) < 2 ^ 63 ∧ k (!ds.isEmpty)) (he : isTrue e env (eval e env) = (do let v ← eval e env; standAt e.pos; holding [v] (truthy v)) := by rfl) : Tst p w h₀ A env m e k := fun s O Q E S hQ =>
  isTrue_plain (h s O _ E S fun v d as s₁ x₁ r f0 ⟨ds, ed, hz, hk⟩ => by
    subst ed
    clear f0
    cases r with
    | list i q =>
      rename_i a vs as
      have e : (!vs.isEmpty) = !ds.isEmpty := by
        have := size_ds q
        cases ds <;> simp [Array.isEmpty, this]
      refine wpAny_truthy_list i.isList (by rw [size_ds q]; exact hz) (hQ _ { s₁ with toks := s₁.toks + 1 + 1 } (x₁.trans (Ext.tok _ _)) ?_)
      rw [e]; exact hk) he
theorem ev_nameRet {x : Str} {pos : Pos} {ns : List Int} {k : PyData → Prop} (hk : env.scope.kind = .function) (hx : gt m x = some (.own (PI ns))) (h : k (.list (PI ns))) (hd : (x == ("__debug__" : Str)) = false := by decide) :
    Ev p w h₀ A env .ret m (.Name x pos) k := fun s O Q E S hQ => by
  obtain ⟨v, b, a, vs, as, rfl, hm, i, r, n⟩ := S.vars x _ hx
  obtain ⟨rfl, _⟩ := r.ofPI
  refine load_bound hk b (hQ _ _ [a] _ (Ext.refl s) (.list i r) (fun c hc => ?_) h) hd
  rcases List.mem_singleton.mp hc with rfl
  exact .inr ⟨x, hm⟩

theorem inter_f (ok : EnvOk env) : interactive env = false := by unfold interactive; rw [ok.kind]; rfl
theorem noDict {h : Heap} {a : Addr} {vs : Array Value} (i : h.PlainList a vs) : h.NoDictAt (.ref a) := let ⟨_, e⟩ := i; ⟨_, e, rfl⟩
theorem x1_append {x : Str} {e : Expr} {xp apos cpos pos : Pos} {pl : Sem Bool} {ds : List PyData} (ok : EnvOk env) (hg : gt m x = some (.own ds)) (hz : ds.length ≤ sizeLine) (h : Ev p w h₀ A env .plain m e fun d => N (st m x (.own (ds ++ [d]))))
    (hm : eval (.Call (.Attribute (.Name x xp) "append" apos) [e] [] cpos) env = (do
      let ov ← eval (.Name x xp) env
      standAt apos.atName
      let (f, first) ← holding [ov] (getMethod ov "append" pl)
      callWith cpos f first (backTo cpos (starEach [e] env)) []) := by rfl)
    (he : backTo cpos (starEach [e] env) = [(false, eval e env)] := by rfl) (hd : (x == ("__debug__" : Str)) = false := by decide)
    (hs : swapsWith (.Call (.Attribute (.Name x xp) "append" apos) [e] [] cpos) none pos.line env = pure false := by rfl) :
    X1 p w h₀ A env m (.Expr (.Call (.Attribute (.Name x xp) "append" apos) [e] [] cpos) pos) N T := fun s O Q E S hN _ => by
  obtain ⟨v, bd, D, vs, as, rfl, hmO, il, r, n⟩ := S.vars x _ hg
  refine wpAny_Expr (MethodCall_ (load_bound ok.kind bd (getMethod_list_of PySem.F.slot_list_append PySem.F.type_list_append il.isList (noDict il) ?_) hd) hm) (inter_f ok) hs
  rw [he]
  refine PySem.P.append_list (h s O _ E S fun v d as' s₁ x₁ r' f' hk => ?_)
  have il₁ := isList_keeps il x₁.keep
  obtain ⟨n₁, e₁⟩ := id il₁
  refine ⟨vs, n₁, by rw [size_ds r]; exact hz, e₁, ?_⟩
  have hs' := Heap.SameBut.update (s₁.heap) D (Obj.mapSeq (·.push v))
  have hl' : (s₁.heap.update D (Obj.mapSeq (·.push v))).PlainList D (vs.push v) := ⟨_, IsL.update (n := n₁) e₁ _⟩
  generalize s₁.heap.update D (Obj.mapSeq (·.push v)) = h' at hs' hl' ⊢
  refine hN _ O _ ⟨fun c o ec _ _ hc => (hs'.2 c fun q => hc x (q ▸ hmO)).trans (x₁.keep c o ec), ?_⟩ (Grow.refl _ _) ?_ hk
  · obtain ⟨hh, tk, e3⟩ := x₁.same
    exact ⟨h', tk, by rw [e3]⟩
  · refine (S.ext x₁).mut hmO (bd.keeps x₁.keep) hs' il₁ hl' (as := as ++ as') ?_ fun b hb => ?_
    · rw [Array.toList_push]
      exact rdAll_snoc (r.keeps x₁.keep) r'
    · rcases List.mem_append.mp hb with hb | hb
      · exact n b hb
      · exact f' b hb
end

section
variable {p : Program} {w : World} {h₀ : Heap} {A : Around} {env : Env} {m : Locs} {N : Locs → Prop} {T : PyData → Prop}

def isI (a : Int) : Value → Bool
  | .int i _ => i == a
  | _ => false
theorem not_before {l : List Int} {a : Int} : ∀ {i : Nat} (h : i < l.length), i < l.idxOf a → l[i] ≠ a := by
  induction l with
  | nil => intro i h; simp at h
  | cons b l ih =>
    intro i h hi
    rw [List.idxOf_cons] at hi
    by_cases e : b = a
    · subst e; simp at hi
    · have hb : (b == a) = false := by simpa using e
      rw [hb] at hi
      cases i with
      | zero => simpa using e
      | succ i =>
        simp only [List.getElem_cons_succ]
        exact ih (by simpa using h) (by simp at hi; lia)
theorem x1_remove {x : Str} {e : Expr} {xp apos cpos pos : Pos} {pl : Sem Bool} {ns : List Int} (ok : EnvOk env) (hg : gt m x = some (.own (PI ns))) (hz : ns.length ≤ sizeLine) (h : EvI p w h₀ A env m e fun a => a ∈ ns ∧ N (st m x (.own (PI (ns.erase a)))))
    (hm : eval (.Call (.Attribute (.Name x xp) "remove" apos) [e] [] cpos) env = (do
      let ov ← eval (.Name x xp) env
      standAt apos.atName
      let (f, first) ← holding [ov] (getMethod ov "remove" pl)
      callWith cpos f first (backTo cpos (starEach [e] env)) []) := by rfl)
    (he : backTo cpos (starEach [e] env) = [(false, eval e env)] := by rfl) (hd : (x == ("__debug__" : Str)) = false := by decide)
    (hs : swapsWith (.Call (.Attribute (.Name x xp) "remove" apos) [e] [] cpos) none pos.line env = pure false := by rfl) :
    X1 p w h₀ A env m (.Expr (.Call (.Attribute (.Name x xp) "remove" apos) [e] [] cpos) pos) N T := fun s O Q E S hN _ => by
  obtain ⟨v, bd, D, vs, as, rfl, hmO, il, r, n⟩ := S.vars x _ hg
  refine wpAny_Expr (MethodCall_ (load_bound ok.kind bd (getMethod_list_of PySem.F.slot_list_remove PySem.F.type_list_remove il.isList (noDict il) ?_) hd) hm) (inter_f ok) hs
  rw [he]
  refine PySem.P.remove_list (h s O _ E S fun a t s₁ x₁ ⟨ha, hk⟩ => ?_)
  have il₁ := isList_keeps il x₁.keep
  obtain ⟨n₁, e₁⟩ := id il₁
  have sz := size_pi r
  have hj : ns.idxOf a < ns.length := List.idxOf_lt_length_iff.mpr ha
  obtain ⟨_, f⟩ := r.ofPI
  have item : ∀ (j : Nat) (hj' : j < vs.size), ∃ u, vs[j] = .int (ns[j]'(by lia)) u := fun j hj' => by
    obtain ⟨u, e1⟩ := f j (by lia)
    refine ⟨u, ?_⟩
    rw [Array.getElem?_toList, Array.getElem?_eq_getElem hj'] at e1
    exact Option.some.inj e1
  refine ⟨vs, n₁, isI a, ns.idxOf a, by lia, by lia, e₁, fun y hy => ?_, ?_, fun j hj' hlt => ?_, ?_⟩
  · obtain ⟨j, hj', rfl⟩ := Array.mem_iff_getElem.mp hy
    obtain ⟨u, e1⟩ := item j hj'
    rw [e1]
    exact MeetsSeq.EqGives.int _ _ _ _
  · obtain ⟨u, e1⟩ := item (ns.idxOf a) (by lia)
    rw [e1]
    simp [isI, List.getElem_idxOf]
  · obtain ⟨u, e1⟩ := item j hj'
    rw [e1]
    have := not_before (by lia) hlt
    simpa [isI] using this
  have hs' := Heap.SameBut.update (s₁.heap) D (Obj.mapSeq (·.eraseIdxIfInBounds (ns.idxOf a)))
  have hl' : (s₁.heap.update D (Obj.mapSeq (·.eraseIdxIfInBounds (ns.idxOf a)))).PlainList D (vs.eraseIdxIfInBounds (ns.idxOf a)) := ⟨_, IsL.update (n := n₁) e₁ _⟩
  generalize s₁.heap.update D (Obj.mapSeq (·.eraseIdxIfInBounds (ns.idxOf a))) = h' at hs' hl' ⊢
  refine hN _ O _ ⟨fun c o ec _ _ hc => (hs'.2 c fun q => hc x (q ▸ hmO)).trans (x₁.keep c o ec), ?_⟩ (Grow.refl _ _) ?_ hk
  · obtain ⟨hh, tk, e3⟩ := x₁.same
    exact ⟨h', tk, by rw [e3]⟩
  · refine (S.ext x₁).mut hmO (bd.keeps x₁.keep) hs' il₁ hl' (as := []) ?_ fun _ h => nomatch h
    rw [List.erase_eq_eraseIdx_of_idxOf rfl]
    have hle : (ns.eraseIdx (ns.idxOf a)).length = ns.length - 1 := by rw [List.length_eraseIdx, if_pos hj]
    have etl : (vs.eraseIdxIfInBounds (ns.idxOf a)).toList = vs.toList.eraseIdx (ns.idxOf a) := by simp [Array.toList_eraseIdxIfInBounds]
    refine rdAll_of_ints _ _ (by rw [etl, hle, List.length_eraseIdx, if_pos (by simpa [sz] using hj), Array.length_toList, sz]) fun j hj' => ?_
    rw [etl, List.getElem?_eraseIdx]
    rw [hle] at hj'
    by_cases hlt : j < ns.idxOf a
    · obtain ⟨u, e1⟩ := f j (by lia)
      refine ⟨u, ?_⟩
      rw [if_pos hlt, e1, List.getElem_eraseIdx_of_lt _ hlt]
    · obtain ⟨u, e1⟩ := f (j + 1) (by lia)
      refine ⟨u, ?_⟩
      rw [if_neg hlt, e1, List.getElem_eraseIdx_of_ge _ (by lia)]

theorem meets_def2 {f : Addr} {n : Nat} {R : Spec} {o : Obj} {fd : FuncData} {body : List Stmt} (xs : List Str) (dv : Nat → List Value) (dd : Nat → List PyData) (ho : h₀.get? f = some o) (hdata : o.data = .func fd) (hlim : h₀.NoLimit) (hcd : h₀.CodeRec fd.code fd.qualname)
    (hbody : fd.body = .stmts body) (hclo : fd.closure = []) (hk : fd.scope.kind = .function) (hco : fd.scope.isCoroutine = false) (hgen : fd.scope.isGenerator = false)
    (hdd : ∀ j h, RdAll h (dv j) (dd j) [])
    (hbind : ∀ (s : Shared) (vs : List Value), (∀ b o, h₀.get? b = some o → s.heap.get? b = some o) → vs.length + (dv vs.length).length = xs.length → BindsTo s fd ⟨vs, []⟩ (xs.zip (vs ++ dv vs.length)))
    (hkinds : ∀ n, ∀ x ∈ xs, fd.scope.names.lookup x = some .local ∨ (fd.scope.names.lookup x = some .cell ∧ ((cellsFrom n fd.scope.names []).lookup x).isSome = true)) (hnd : xs.Nodup) (hcn : ((cellsFrom 0 fd.scope.names []).map (·.1)).Nodup)
    (hone : ∀ j j', j + (dv j).length = xs.length → j' + (dv j).length = xs.length → j' = j)
    (h : ∀ ds k, R ds k → ds.length + (dd ds.length).length = xs.length ∧ ∀ A env, EnvOf fd env → A.handled = none → A.depth + n ≤ recursionLimit + 1 → A.units + 8 * n < cLine + 3 → Ex p w h₀ A env (argLocs xs (ds ++ dd ds.length)) body (fun _ => False) k) (hn : 0 < n) :
    Meets p w h₀ f n R := fun A s vs ds as k Q E hh hr hu hg r hR hQ => by
  have hl := (h ds k hR).1
  have hdl : (dv ds.length).length = (dd ds.length).length := (hdd ds.length s.heap).length
  refine meets_def (R := fun ds' k' => ds'.length = ds.length ∧ R ds' k') xs (dv ds.length) (dd ds.length) ho hdata hlim hcd hbody hclo hk hco hgen (hdd _) (fun s vs g e => ?_) hkinds hnd hcn (fun ds' k' hR' => ?_) hn A s vs ds as k Q E hh hr hu hg r ⟨rfl, hR⟩ hQ
  · have : vs.length = ds.length := hone ds.length vs.length (by lia) e
    rw [← this] at e ⊢
    exact hbind s vs g e
  · have := h ds' k' hR'.2
    rw [hR'.1] at this
    rw [hR'.1]
    exact this
end

theorem St.forget {h₀ : Heap} {env : Env} {O : Owns} {m m' : Locs} {h : Heap} (S : St h₀ env O m h) (hm : ∀ x l, gt m' x = some l → gt m x = some l) : St h₀ env O m' h :=
  ⟨S.ground, S.frame, S.cells, S.apart, S.newL, S.newC, S.newO, S.lists, S.uniq, fun x l e => S.vars x l (hm x l e)⟩
theorem forget_st {m : Locs} {x : Str} {v : Loc} (h : gt m x = none) : ∀ y l, gt m y = some l → gt (st m x v) y = some l := fun y l e => by
  rw [gt_st, if_neg (fun q => by rw [q, h] at e; cases e)]; exact e
theorem St.mutA {h₀ : Heap} {env : Env} {m : Locs} {O : Owns} {h h' : Heap} {z : Str} {a : Addr} {vs vs' : Array Value} (S : St h₀ env O m h) (hm : (z, a) ∈ O) (hz : gt m z = none) (hs : Heap.SameBut a h h') (hi : h.PlainList a vs) (hl : h'.PlainList a vs') : St h₀ env O m h' := by
  have cellNe : ∀ {y c v}, h.IsCell c v → (y, c) ∈ env.cells → c ≠ a := fun i _ q => cell_not_list (q ▸ i) vs hi
  have keepB : ∀ {y v}, Bound env h y v → Bound env h' y v := fun bd => by
    rcases bd with ⟨hk', mr, hn, e⟩ | ⟨hk', c, hc, i⟩
    · exact .inl ⟨hk', mr, hn.sameBut hs fun q => ns_not_list (q ▸ hn) vs hi, e⟩
    · exact .inr ⟨hk', c, hc, i.sameBut hs (cellNe i (mem_of_lookup hc))⟩
  refine ⟨fun b o e => (hs.2 b fun q => ?_).trans (S.ground b o e), ?_, fun y c hc => ?_, S.apart, S.newL, S.newC, S.newO, fun y b hb' => ?_, S.uniq, fun y l e => ?_⟩
  · rw [q, S.newO z a hm] at e; cases e
  · obtain ⟨mr, hn⟩ := S.frame
    exact ⟨mr, hn.sameBut hs fun q => ns_not_list (q ▸ hn) vs hi⟩
  · obtain ⟨v, i⟩ := S.cells y c hc
    exact ⟨v, i.sameBut hs (cellNe i hc)⟩
  · by_cases q : b = a
    · exact ⟨vs', q ▸ hl⟩
    · obtain ⟨vs₂, i⟩ := S.lists y b hb'
      exact ⟨vs₂, i.extBut hs.extBut q⟩
  · obtain ⟨v, bd, ru⟩ := S.vars y l e
    refine ⟨v, keepB bd, ?_⟩
    cases l with
    | val d =>
      obtain ⟨as', r', n'⟩ := ru
      exact ⟨as', r'.at fun b hb' o ho => (hs.2 b fun q => n' b hb' z (q ▸ hm)).trans ho, n'⟩
    | own ds' =>
      obtain ⟨a', vs₂, as', e1, hm', i, r', n'⟩ := ru
      refine ⟨a', vs₂, as', e1, hm', i.extBut hs.extBut fun q => ?_, r'.at fun b hb' o ho => (hs.2 b fun q => n' b hb' z (q ▸ hm)).trans ho, n'⟩
      have : y = z := S.uniq y z a' hm' (q ▸ hm)
      rw [this, hz] at e; cases e

section
variable {p : Program} {w : World} {h₀ : Heap} {A : Around} {env : Env} {m : Locs} {N : Locs → Prop} {T : PyData → Prop}

def CompI (p : Program) (w : World) (h₀ : Heap) (A : Around) (env : Env) (m : Locs) (y : Str) (elt : Expr) (K : List Int → Prop) : List PyData → List Int → Prop
  | [], out => K out
  | e :: es, out => out.length ≤ sizeLine ∧ EvI p w h₀ A env (st m y (.val e)) elt fun r => CompI p w h₀ A env m y elt K es (out ++ [r])
def CompW2 (p : Program) (w : World) (h₀ : Heap) (A : Around) (env : Env) (mc : Locs) (x y : Str) (iter2 elt : Expr) (k : List Int → Prop) : List PyData → List Int → Prop
  | [], out => k out
  | d :: ds, out => It p w h₀ A env (st mc x (.val d)) iter2 fun es => CompI p w h₀ A env (st mc x (.val d)) y elt (fun out' => CompW2 p w h₀ A env mc x y iter2 elt k ds out') es out

theorem compTurn_two0 (elt t1 i1 t2 i2 : Expr) (scope : Scope) (pos : Pos) (it acc : Value) (env : Env) :
    compTurn (.ListComp elt [⟨t1, i1, [], 0⟩, ⟨t2, i2, [], 0⟩] scope pos) 0 it acc env = (standAt i1.pos >>= fun _ => pyNext it >>= fun r => match r with
      | none => pure (.done .next)
      | some v => letOwnedTupleGo t1 it v >>= fun _ => assign t1 env v >>= fun _ =>
        eval i2 env >>= fun x => standAt i2.pos >>= fun _ => foldedSetIterable i2 env x >>= fun x => (holding [x] (pyIter x)) >>= fun it2 => runOwn (.compStart (.ListComp elt [⟨t1, i1, [], 0⟩, ⟨t2, i2, [], 0⟩] scope pos) 1 it2 acc env) env >>= fun _ =>
          again (.compLoop (.ListComp elt [⟨t1, i1, [], 0⟩, ⟨t2, i2, [], 0⟩] scope pos) 0 it acc env)) := by rfl
theorem compTurn_two1 (elt t1 i1 t2 i2 : Expr) (scope : Scope) (pos : Pos) (it acc : Value) (env : Env) :
    compTurn (.ListComp elt [⟨t1, i1, [], 0⟩, ⟨t2, i2, [], 0⟩] scope pos) 1 it acc env = (standAt i2.pos >>= fun _ => pyNext it >>= fun r => match r with
      | none => pure (.done .next)
      | some v => letOwnedTupleGo t2 it v >>= fun _ => assign t2 env v >>= fun _ =>
        (eval elt env >>= fun x => call (.builtin "list.append") [acc, x] >>= fun _ => pure ()) >>= fun _ =>
          again (.compLoop (.ListComp elt [⟨t1, i1, [], 0⟩, ⟨t2, i2, [], 0⟩] scope pos) 1 it acc env)) := by rfl

abbrev two (elt : Expr) (x y : Str) (px py : Pos) (i1 i2 : Expr) (scope : Scope) (pos : Pos) : Expr := .ListComp elt [⟨.Name x px, i1, [], 0⟩, ⟨.Name y py, i2, [], 0⟩] scope pos

theorem loop_two1 {elt i1 i2 : Expr} {x y : Str} {px py : Pos} {scope : Scope} {pos : Pos} {it acc : Value} {R : Result → Shared → Prop} {s : Shared} (I : Nat → Shared → Prop)
    (turn : ∀ n s, I n s → ∀ E, wpAny (model p w) A (pyNext it) (fun r s₁ => match r with
      | none => R (.ok .next) s₁
      | some v => wpAny (model p w) A (assign (.Name y py) env v) (fun _ s₂ => wpAny (model p w) A (eval elt env) (fun x s₃ =>
          wpAny (model p w) A (call (.builtin "list.append") [acc, x]) (fun _ s₄ => ∃ m, m < n ∧ I m s₄) E s₃) E s₂) E s₁) E s)
    (n : Nat) (h : I n s) : codeAny (model p w) A (.compLoop (two elt x y px py i1 i2 scope pos) 1 it acc env) R s := by
  refine codeAny_loop rfl I (fun n s hI => ?_) n h
  show wpAny _ _ ((compTurn (two elt x y px py i1 i2 scope pos) 1 it acc env).onRaise (fun x => do noteFrame x env; theTreesLotGoes x)) _ _ s
  refine wpAny_noted ?_
  rw [compTurn_two1]
  refine wpAny_bind (wpAny_standAt (wpAny_bind (wpAny_mono (turn n s hI _) (fun r s₁ h₁ => ?_) fun _ _ h' => h')))
  cases r with
  | none => exact wpAny_pure h₁
  | some v =>
    refine wpAny_bind (wpAny_of_eq (show letOwnedTupleGo (.Name y py) it v = pure () from rfl) ?_)
    exact wpAny_bind (wpAny_mono h₁ (fun _ s₂ h₂ => wpAny_bind (wpAny_bind (wpAny_mono h₂ (fun x s₃ h₃ => wpAny_bind (wpAny_mono h₃
      (fun _ s₄ h₄ => wpAny_pure (wpAny_pure ⟨rfl, h₄⟩)) fun _ _ h' => h')) fun _ _ h' => h'))) fun _ _ h' => h')

theorem start_two1 {elt i1 i2 : Expr} {x y : Str} {px py : Pos} {scope : Scope} {pos : Pos} {it acc : Value} {R : Result → Shared → Prop} {s : Shared}
    (h0 : codeAny (model p w) A (.compLoop (two elt x y px py i1 i2 scope pos) 1 it acc env) R s)
    (h : ∀ E, wpAny (model p w) A (pyIter it) (fun it' s' => codeAny (model p w) A (.compLoop (two elt x y px py i1 i2 scope pos) 1 it' acc env) R s') E s) :
    codeAny (model p w) A (.compStart (two elt x y px py i1 i2 scope pos) 1 it acc env) R s := by
  refine codeAny_of_tree ?_
  show wpAny _ _ ((compStart (two elt x y px py i1 i2 scope pos) 1 it acc env).onRaise (fun x => do noteFrame x env; standAt theWindowsPlace)) _ _ s
  refine wpAny_notedAt ?_
  unfold compStart
  show wpAny _ _ (ask >>= _) _ _ s
  refine wpAny_bind (wpAny_askSetting (wpAny_ite ?_))
  split
  · first
      | exact wpAny_bind (wpAny_pure (wpAny_pure (And.intro rfl h0)))
      | exact wpAny_pure (And.intro rfl h0)
  · first
      | exact wpAny_bind (wpAny_rule (wpAny_bind (wpAny_standAt (wpAny_bind (wpAny_mono (h _) (fun it' s' h' => wpAny_pure (And.intro rfl h')) fun _ _ x => x)))))
      | (refine wpAny_bind (wpAny_rule ?_); show wpAny _ _ (standAt i2.pos >>= _) _ _ s; exact wpAny_bind (wpAny_standAt (wpAny_bind (wpAny_mono (h _) (fun it' s' h' => wpAny_pure (And.intro rfl h')) fun _ _ x => x))))

theorem loop_two0 {elt i1 i2 : Expr} {x y : Str} {px py : Pos} {scope : Scope} {pos : Pos} {it acc : Value} {R : Result → Shared → Prop} {s : Shared} (hs2 : ∀ v, foldedSetIterable i2 env v = pure v) (I : Nat → Shared → Prop)
    (turn : ∀ n s, I n s → ∀ E, wpAny (model p w) A (pyNext it) (fun r s₁ => match r with
      | none => R (.ok .next) s₁
      | some v => wpAny (model p w) A (assign (.Name x px) env v) (fun _ s₂ => wpAny (model p w) A (eval i2 env) (fun xv s₃ =>
          wpAny (model p w) A (pyIter xv) (fun it2 s₄ => codeAny (model p w) A (.compStart (two elt x y px py i1 i2 scope pos) 1 it2 acc env) (fun r s₅ => r = .ok .next ∧ ∃ m, m < n ∧ I m s₅) s₄) E s₃) E s₂) E s₁) E s)
    (n : Nat) (h : I n s) : codeAny (model p w) A (.compLoop (two elt x y px py i1 i2 scope pos) 0 it acc env) R s := by
  refine codeAny_loop rfl I (fun n s hI => ?_) n h
  show wpAny _ _ ((compTurn (two elt x y px py i1 i2 scope pos) 0 it acc env).onRaise (fun x => do noteFrame x env; theTreesLotGoes x)) _ _ s
  refine wpAny_noted ?_
  rw [compTurn_two0]
  refine wpAny_bind (wpAny_standAt (wpAny_bind (wpAny_mono (turn n s hI _) (fun r s₁ h₁ => ?_) fun _ _ h' => h')))
  cases r with
  | none => exact wpAny_pure h₁
  | some v =>
    refine wpAny_bind (wpAny_of_eq (show letOwnedTupleGo (.Name x px) it v = pure () from rfl) ?_)
    refine wpAny_bind (wpAny_mono h₁ (fun _ s₂ h₂ => wpAny_bind (wpAny_mono h₂ (fun xv s₃ h₃ => wpAny_bind (wpAny_standAt (wpAny_bind (wpAny_of_eq (hs2 xv) (wpAny_bind (wpAny_holding (wpAny_mono h₃ (fun it2 s₄ h₄ => ?_) fun _ _ h' => h'))))))) fun _ _ h' => h')) fun _ _ h' => h')
    refine wpAny_bind (wpAny_runOwn (codeAny_mono h₄ fun r s₅ h₅ => ?_))
    obtain ⟨rfl, h₅⟩ := h₅
    exact wpAny_pure ⟨rfl, h₅⟩
end

section
variable {p : Program} {w : World} {h₀ : Heap} {A : Around} {env : Env} {m : Locs} {N : Locs → Prop} {T : PyData → Prop}
theorem inner_two {elt i1 i2 : Expr} {x y : Str} {px py : Pos} {scope : Scope} {pos : Pos} {s s₁ : Shared} {O : Owns} {it it2 D : Addr} {z : Str} {ds es : List PyData} {out : List Int} {ys : Array Value} {K : List Int → Prop} {R : Result → Shared → Prop}
    (hh : A.handled = none) (hkf : env.scope.kind = .function) (hy : env.kindOf y = some .local) (hym : gt m y = none) (hzm : gt m z = none) (hzy : z ≠ y) (hD : (z, D) ∈ O) (nD : s.heap.get? D = none) (nC : s.heap.get? env.locals = none)
    (x₁ : Ext s s₁) (S : St h₀ env O m s₁.heap) (hnew : s.heap.get? it = none) (hnew2 : s.heap.get? it2 = none) (hne : it ≠ it2) (i1t : IterAt O s₁.heap it ds) (i2t : IterAt O s₁.heap it2 es) (hacc : s₁.heap.PlainList D ys) (r : RdAll s₁.heap ys.toList (PI out) [])
    (g0 : ∀ b, s.heap.get? b = none → h₀.get? b = none)
    (hw : CompI p w h₀ A env m y elt K es out)
    (hR : ∀ ys out s', Ext s s' → St h₀ env O m s'.heap → IterAt O s'.heap it ds → s'.heap.PlainList D ys → RdAll s'.heap ys.toList (PI out) [] → K out → R (.ok .next) s') :
    codeAny (model p w) A (.compStart (two elt x y px py i1 i2 scope pos) 1 (.ref it2) (.ref D) env) R s₁ := by
  have loop : codeAny (model p w) A (.compLoop (two elt x y px py i1 i2 scope pos) 1 (.ref it2) (.ref D) env) R s₁ := by
    refine loop_two1 (fun n s' => ∃ es ys out, n = es.length + 1 ∧ Ext s s' ∧ St h₀ env O m s'.heap ∧ IterAt O s'.heap it ds ∧ IterAt O s'.heap it2 es ∧ s'.heap.PlainList D ys ∧ RdAll s'.heap ys.toList (PI out) [] ∧ CompI p w h₀ A env m y elt K es out)
      (fun n s₂ hI E => ?_) (es.length + 1) ⟨es, ys, out, rfl, x₁, S, i1t, i2t, hacc, r, hw⟩
    obtain ⟨es, ys, out, rfl, x₂, S₂, i1t, i2t, hacc, r, hw⟩ := hI
    cases es with
    | nil =>
      refine next_none hh i2t fun h' hs' => hR ys out { s₂ with heap := h' } ⟨fun b o e => hs' b o (fun q => by rw [q, hnew2] at e; cases e) (x₂.keep b o e), ?_⟩ (S₂.iter i2t (g0 _ hnew2) hs') (i1t.but hs' hne fun a va ia _ q => iter_not_list i2t va (q ▸ ia)) (hacc.extBut hs' fun q => iter_not_list i2t ys (q ▸ hacc)) ?_ hw
      · obtain ⟨hx, tk, e⟩ := x₂.same
        exact ⟨h', tk, by rw [e]⟩
      · exact r.at fun _ h => nomatch h
    | cons e es =>
      refine next_item i2t fun v av h' tk hs' it₂ rv nv => ?_
      have S₃ : St h₀ env O m h' := S₂.iter i2t (g0 _ hnew2) hs'.extBut
      have i1' : IterAt O h' it ds := i1t.but hs'.extBut hne fun a va ia _ q => iter_not_list i2t va (q ▸ ia)
      have hacc₃ : h'.PlainList D ys := hacc.extBut hs'.extBut fun q => iter_not_list i2t ys (q ▸ hacc)
      refine wpAny_assign_Name (store_local (l := .val e) (s := { s₂ with heap := h', toks := tk }) hkf hy S₃ ⟨av, rv, nv⟩ fun h₅ tk₅ hs₅ hn₅ S₅ => ?_)
      obtain ⟨mr, hn₃⟩ := S₃.frame
      have x₅ : Ext s { s₂ with heap := h₅, toks := tk₅ } := by
        refine ⟨fun b o e => hs₅.extBut b o (fun q => by rw [q, nC] at e; cases e) (hs'.extBut b o (fun q => by rw [q, hnew2] at e; cases e) (x₂.keep b o e)), ?_⟩
        obtain ⟨hx, tk', e⟩ := x₂.same
        exact ⟨h₅, tk₅, by rw [e]⟩
      have i1₅ : IterAt O h₅ it ds := i1'.but hs₅.extBut (fun q => iter_not_ns i1' (q ▸ hn₃)) fun a va ia _ q => ns_not_list hn₃ va (q ▸ ia)
      have i2₅ : IterAt O h₅ it2 es := it₂.but hs₅.extBut (fun q => iter_not_ns it₂ (q ▸ hn₃)) fun a va ia _ q => ns_not_list hn₃ va (q ▸ ia)
      have hacc₅ : h₅.PlainList D ys := hacc₃.extBut hs₅.extBut fun q => ns_not_list hn₃ ys (q ▸ hacc₃)
      obtain ⟨hz, hw⟩ := hw
      refine hw _ O _ E S₅ fun i t s₆ x₆ hk => ?_
      have hacc₆ : s₆.heap.PlainList D ys := isList_keeps hacc₅ x₆.keep
      have szo : ys.size = out.length := size_pi r
      refine wpAny_list_append_plain hacc₆ (fun h₈ hl₈ hs₈ => ?_) (by rw [szo]; exact hz)
      have S₆ := (St.ext (s := { s₂ with heap := h₅, toks := tk₅ }) S₅ x₆).forget (forget_st (v := .val e) hym)
      have x₆' := x₅.trans x₆
      refine ⟨es.length + 1, by simp, es, ys.push (.int i t), out ++ [i], rfl, ⟨fun b o e => hs₈.extBut b o (fun q => by rw [q, nD] at e; cases e) (x₆'.keep b o e), ?_⟩, S₆.mutA hD hzm hs₈ hacc₆ hl₈, ?_, ?_, hl₈, ?_, hk⟩
      · obtain ⟨hx, tk', e⟩ := x₆'.same
        exact ⟨h₈, tk', by rw [e]⟩
      · exact (i1₅.ext x₆.keep).but hs₈.extBut (fun q => iter_not_list (i1₅.ext x₆.keep) ys (q ▸ hacc₆)) fun a va ia no q => no z (q ▸ hD)
      · exact (i2₅.ext x₆.keep).but hs₈.extBut (fun q => iter_not_list (i2₅.ext x₆.keep) ys (q ▸ hacc₆)) fun a va ia no q => no z (q ▸ hD)
      · have e1 : PI (out ++ [i]) = PI out ++ [.int i] := by simp [PI]
        rw [Array.toList_push, e1]
        have r8 : RdAll h₈ ys.toList (PI out) [] := r.at fun _ h => nomatch h
        have := rdAll_snoc (v := .int i t) r8 (.int i t)
        simpa using this
  exact start_two1 loop fun E => iter_self i2t loop

theorem comp2_block {elt iter iter2 : Expr} {x y : Str} {px py : Pos} {scope : Scope} {cl : List (Str × Addr)} {pos : Pos} {mc : Locs} {s s₁ : Shared} {O : Owns} {it : Addr} {ds : List PyData} {k : List Int → Prop} {E : Value → Shared → Prop} (z : Str)
    {RR : Value → Addr → Result → Shared → Prop} (hh : A.handled = none) (K : CompOk env scope cl x) (hyl : scope.names.lookup y = some .local) (hc : Caught env scope cl m mc) (hxm : gt mc x = none) (hym : gt mc y = none) (hzm : gt mc z = none) (hyx : y ≠ x) (hzx : z ≠ x) (hzy : z ≠ y)
    (S : St h₀ env O m s.heap) (x₁ : Ext s s₁) (hnew : s.heap.get? it = none) (hit : IterAt O s₁.heap it ds) (hs2 : ∀ C v, foldedSetIterable iter2 (compEnvC scope cl C env) v = pure v)
    (h : ∀ C, CompW2 p w h₀ A (compEnvC scope cl C env) mc x y iter2 elt k ds [])
    (hRR : ∀ D C ys out s', Ext s s' → s.heap.get? D = none → s.heap.get? C = none → D ≠ C → (∃ mr, s'.heap.Ns C mr) → s'.heap.PlainList D ys → RdAll s'.heap ys.toList (PI out) [] → k out → RR (.ref D) C (.ok .next) s') :
    wpAny (model p w) A (newList []) (fun acc s₃ => wpAny (model p w) A (newFunctionEnv scope env.globals cl [] env.qual none .none (some env)) (fun cenv s₄ =>
      codeAny (model p w) A (.compStart (two elt x y px py iter iter2 scope pos) 0 (.ref it) acc { cenv with scope := relabel scope env }) (RR acc cenv.locals) s₄) E s₃) E s₁ := by
  refine wpAny_newObj_type (wpAny_newFunctionEnv K.nocell (fun _ hy => nomatch hy) (fun h₁ hns₁ hsb₁ => ?_) K.kind)
  dsimp only at hns₁ hsb₁ ⊢
  generalize hH2 : s₁.heap.push { cls := .type "list", dict := none, data := .seq ([] : List Value).toArray } = H2 at hns₁ hsb₁ ⊢
  have hCs : H2.objs.size = s₁.heap.objs.size + 1 := by rw [← hH2, Heap.size_push]
  generalize hD : s₁.heap.objs.size = D at *
  generalize hC : H2.objs.size = C at *
  have hDC : D ≠ C := by rw [hCs]; exact Nat.ne_of_lt (Nat.lt_succ_self _)
  have nD₁ : s₁.heap.get? D = none := hD ▸ size_none _
  have nC₁ : s₁.heap.get? C = none := by
    cases q : s₁.heap.get? C with
    | none => rfl
    | some o => exact absurd (Heap.lt_size q) (by rw [hD, hCs]; exact Nat.not_lt.mpr (Nat.le_succ _))
  have old : ∀ b o, s₁.heap.get? b = some o → h₁.get? b = some o := fun b o e => hsb₁.extBut b o (fun q => by rw [q, nC₁] at e; cases e) (Heap.get?_push_of_some _ (hH2 ▸ Heap.get?_push_of_some _ e))
  have hacc : h₁.PlainList D #[] := ⟨_, hsb₁.extBut _ _ hDC (Heap.get?_push_of_some _ (hH2 ▸ hD ▸ Heap.get?_push_size _ rfl))⟩
  have g0 : ∀ b, s.heap.get? b = none → h₀.get? b = none := fun b e => by
    cases q : h₀.get? b with
    | none => rfl
    | some o => rw [S.ground b o q] at e; cases e
  have nD := x₁.fresh nD₁
  have nC := x₁.fresh nC₁
  have hit₁ : IterAt ((z, D) :: O) h₁ it ds := (hit.more z nD₁).ext old
  have x₂ : Ext s { s₁ with heap := h₁, toks := s₁.toks + ([] : List (Str × Value)).length } := x₁.trans ⟨old, h₁, _, rfl⟩
  have Sb : St h₀ (compEnvC scope cl C env) ((z, D) :: O) mc h₁ := by
    have S' := (S.owns (x := z) (h' := h₁) (fun b o e => old b o (x₁.keep b o e)) nD hacc)
    exact S'.block K hc hns₁ (g0 C nC)
  have loop : codeAny (model p w) A (.compLoop (two elt x y px py iter iter2 scope pos) 0 (.ref it) (.ref D) (compEnvC scope cl C env)) (RR (.ref D) C) { s₁ with heap := h₁, toks := s₁.toks + ([] : List (Str × Value)).length } := by
    refine loop_two0 (hs2 C) (fun n s' => ∃ ds' ys out, n = ds'.length + 1 ∧ Ext s s' ∧ St h₀ (compEnvC scope cl C env) ((z, D) :: O) mc s'.heap ∧ s'.heap.PlainList D ys ∧ RdAll s'.heap ys.toList (PI out) [] ∧ IterAt ((z, D) :: O) s'.heap it ds' ∧
      CompW2 p w h₀ A (compEnvC scope cl C env) mc x y iter2 elt k ds' out) (fun n s₂ hI E => ?_) (ds.length + 1) ⟨ds, #[], [], rfl, x₂, Sb, hacc, .nil, hit₁, h C⟩
    obtain ⟨ds', ys, out, rfl, x₃, S₃, hacc, r, it', hw⟩ := hI
    cases ds' with
    | nil =>
      refine next_none hh it' fun h' hs' => ?_
      obtain ⟨mr, hn⟩ := (S₃.iter it' (g0 _ hnew) hs').frame
      refine hRR D C ys out _ ⟨fun b o e => hs' b o (fun q => by rw [q, hnew] at e; cases e) (x₃.keep b o e), ?_⟩ nD nC hDC ⟨mr, hn⟩ (hacc.extBut hs' fun q => iter_not_list it' ys (q ▸ hacc)) (r.at fun _ h => nomatch h) hw
      obtain ⟨hx, tk, e⟩ := x₃.same
      exact ⟨h', tk, by rw [e]⟩
    | cons d ds' =>
      refine next_item it' fun v av h' tk hs' it₂ rv nv => ?_
      have S₄ : St h₀ (compEnvC scope cl C env) ((z, D) :: O) mc h' := S₃.iter it' (g0 _ hnew) hs'.extBut
      have hacc₄ : h'.PlainList D ys := hacc.extBut hs'.extBut fun q => iter_not_list it' ys (q ▸ hacc)
      refine wpAny_assign_Name (store_local (l := .val d) (s := { s₂ with heap := h', toks := tk }) (env := compEnvC scope cl C env) K.kind (lookup_relabel_local K.var) S₄ ⟨av, rv, nv⟩ fun h₅ tk₅ hs₅ hn₅ S₅ => ?_)
      have hs₅' : Heap.SameBut C h' h₅ := hs₅
      obtain ⟨mr, hn₄⟩ := S₄.frame
      have hn₄' : h'.Ns C mr := hn₄
      have x₅ : Ext s { s₂ with heap := h₅, toks := tk₅ } := by
        refine ⟨fun b o e => hs₅'.extBut b o (fun q => by rw [q, nC] at e; cases e) (hs'.extBut b o (fun q => by rw [q, hnew] at e; cases e) (x₃.keep b o e)), ?_⟩
        obtain ⟨hx, tk', e⟩ := x₃.same
        exact ⟨h₅, tk₅, by rw [e]⟩
      have it₅ : IterAt ((z, D) :: O) h₅ it ds' := it₂.but hs₅'.extBut (fun q => iter_not_ns it₂ (q ▸ hn₄')) fun a va ia _ q => ns_not_list hn₄' va (q ▸ ia)
      have hacc₅ : h₅.PlainList D ys := hacc₄.extBut hs₅'.extBut hDC
      refine hw _ _ _ E S₅ fun it2 es s₆ x₆ n2 i2 hI => ?_
      have n2' : h₅.get? it2 = none := n2
      have hne : it ≠ it2 := fun q => by
        obtain ⟨o, vs, ho, _⟩ := iter_fields it₅
        rw [q, n2'] at ho; cases ho
      refine inner_two (s := s) (m := st mc x (.val d)) (ds := ds') (K := fun out' => CompW2 p w h₀ A (compEnvC scope cl C env) mc x y iter2 elt k ds' out') hh K.kind (lookup_relabel_local hyl) (by rw [gt_st, if_neg hyx]; exact hym) (by rw [gt_st, if_neg hzx]; exact hzm) hzy (.head _) nD nC (x₅.trans x₆) (St.ext (s := { s₂ with heap := h₅, toks := tk₅ }) S₅ x₆) hnew (x₅.fresh n2) hne (it₅.ext x₆.keep) i2 (isList_keeps hacc₅ x₆.keep) (r.at fun _ h => nomatch h) g0 hI ?_
      intro ys' out' s₇ x₇ S₇ i7 hacc₇ r₇ hk
      exact ⟨rfl, ds'.length + 1, by simp, ds', ys', out', rfl, x₇, S₇.forget (forget_st hxm), hacc₇, r₇, i7, hk⟩
  exact codeAny_compStart_list loop (iter_self (s := { s₁ with heap := h₁, toks := s₁.toks + ([] : List (Str × Value)).length }) hit₁ loop)

theorem x1_asgComp2 {elt iter iter2 : Expr} {x y v : Str} {px py pv : Pos} {scope : Scope} (cl : List (Str × Addr)) {pos spos : Pos} (mc : Locs) (z : Str) (ok : EnvOk env) (hh : A.handled = none) (K : CompOk env scope cl x) (hyl : scope.names.lookup y = some .local) (hc : Caught env scope cl m mc)
    (hxm : gt mc x = none) (hym : gt mc y = none) (hzm : gt mc z = none) (hyx : y ≠ x) (hzx : z ≠ x) (hzy : z ≠ y) (hv : env.kindOf v = some .local)
    (hsw : swapsWith (two elt x y px py iter iter2 scope pos) (some (.Name v pv)) spos.line env = pure true)
    (h : It p w h₀ A env m iter fun ds => ∀ C, CompW2 p w h₀ A (compEnvC scope cl C env) mc x y iter2 elt (fun out => N (st m v (.own (PI out)))) ds []) (hs2 : ∀ C v, foldedSetIterable iter2 (compEnvC scope cl C env) v = pure v) (hs : ∀ x, foldedSetIterable iter env x = pure x := by intro _; rfl) :
    X1 p w h₀ A env m (.Assign [.Name v pv] (two elt x y px py iter iter2 scope pos) spos) N T := fun s O Q E S hN _ => by
  rw [exec_Assign_Name_used _ _ _ _ hsw]
  refine wpAny_bind (wpAny_standAt (wpAny_bind ?_))
  show wpAny _ A (do let _ ← comprehension (two elt x y px py iter iter2 scope pos) scope env _ (newList []) false (eval iter env) (some (assign (.Name v pv) env))) _ _ s
  refine wpAny_bind (wpAny_mono (wpAny_comprehension_free (use := some (assign (.Name v pv) env)) (Q := fun _ s' => Q .next s') rfl hs K.clos K.kind K.names (h s O _ E S fun it ds s₁ x₁ hnew hit hw => ?_)) (fun _ s' hq => wpAny_pure (wpAny_pure hq)) fun _ _ e => e)
  refine comp2_block z (RR := fun acc C => compPost (model p w) A E (some (assign (.Name v pv) env)) (fun _ s' => Q .next s') acc C) hh K hyl hc hxm hym hzm hyx hzx hzy S x₁ hnew hit hs2 hw ?_
  intro D C ys out s' x' nD nC hDC ⟨mr, hn⟩ il r hk
  have S' := S.owns (x := v) x'.keep nD il
  have g : Grow s O ((v, D) :: O) := fun z b hb => by
    rcases List.mem_cons.mp hb with q | hb
    · cases q; exact .inr nD
    · exact .inl ⟨z, hb⟩
  have LC : env.locals ≠ C := fun q => by
    obtain ⟨mr, o, _, _, ho, _⟩ := S.frame
    rw [q, nC] at ho; cases ho
  have h0C : h₀.get? C = none := by
    cases q : h₀.get? C with
    | none => rfl
    | some o => rw [S.ground C o q] at nC; cases nC
  show wpAny _ A (assign (.Name v pv) env (.ref D)) _ _ _
  refine wpAny_assign_Name (store_local (l := .own (PI out)) ok.kind hv S' ⟨D, ys, [], rfl, .head _, il, r, fun b hb => nomatch hb⟩ fun h₂ tk₂ hs₂ hn₂ S₂ => ⟨mr, hn.sameBut hs₂ (Ne.symm LC), fun h₃ hs₃ => ?_⟩)
  have hnC₂ : h₂.Ns C mr := hn.sameBut hs₂ (Ne.symm LC)
  have cC : ∀ {c v}, h₂.IsCell c v → c ≠ C := fun i q => cell_not_ns (q ▸ i) hnC₂
  refine hN _ _ _ ⟨fun b o e h1 h2 h3 => hs₃.extBut b o (fun q => by rw [q, nC] at e; cases e) (hs₂.extBut b o h1 (x'.keep b o e)), ?_⟩ g (S₂.turn hs₃.extBut h0C ?_ (fun z c hz => ?_) (ns_not_list hnC₂) _ fun z l e => ?_) hk
  · obtain ⟨hx, tk', e⟩ := x'.same
    exact ⟨h₃, tk₂, by rw [e]⟩
  · obtain ⟨mr', hn'⟩ := hn₂
    exact ⟨mr', hn'.sameBut hs₃ LC⟩
  · obtain ⟨v, i⟩ := S₂.cells z c hz
    exact ⟨v, i.sameBut hs₃ (cC i)⟩
  · obtain ⟨v, bd, ru⟩ := S₂.vars z l e
    refine ⟨v, ?_, ru⟩
    rcases bd with ⟨hk', mr', n', e'⟩ | ⟨hk', c, hc', i⟩
    · exact .inl ⟨hk', mr', n'.sameBut hs₃ LC, e'⟩
    · exact .inr ⟨hk', c, hc', i.sameBut hs₃ (cC i)⟩
end

-- bits
theorem and7 {m : Int} (h : 0 ≤ m) : Builtin.bitAnd m 7 = m % 8 := by
  rw [bitAnd_pp h (by decide)]
  have : m.toNat &&& (7 : Int).toNat = m.toNat % 8 := Nat.and_two_pow_sub_one_eq_mod m.toNat 3
  rw [this]; lia
theorem fdiv8 (m : Int) : m.fdiv (2 ^ (3 : Int).toNat) = m / 8 := by
  have : (2 : Int) ^ (3 : Int).toNat = 8 := by decide
  rw [this]; exact Int.fdiv_eq_ediv_of_nonneg m (by decide)
def dg (m : Int) (i : Nat) : Int := m / 8 ^ i % 8
theorem and7s {m : Int} (h : 0 ≤ m) (i : Nat) : Builtin.bitAnd m (7 * 8 ^ i) = dg m i * 8 ^ i := by
  have h8 : (0 : Int) < 8 ^ i := Int.pow_pos (by decide)
  rw [bitAnd_pp h (by lia)]
  have e1 : ((7 : Int) * 8 ^ i).toNat = (7 : Nat) <<< (3 * i) := by
    rw [Nat.shiftLeft_eq, Nat.pow_mul]
    have : (7 : Int) * 8 ^ i = ((7 * (2 ^ 3) ^ i : Nat) : Int) := by push_cast; rfl
    rw [this, Int.toNat_natCast]
  rw [e1]
  have e2 : m.toNat &&& (7 : Nat) <<< (3 * i) = ((m.toNat >>> (3 * i)) &&& 7) <<< (3 * i) := by
    apply Nat.eq_of_testBit_eq
    intro j
    simp only [Nat.testBit_and, Nat.testBit_shiftLeft, Nat.testBit_shiftRight]
    by_cases hj : j ≥ 3 * i
    · simp [hj, Nat.add_sub_cancel' hj]
    · simp [hj]
  rw [e2, Nat.shiftLeft_eq, Nat.shiftRight_eq_div_pow]
  have e3 : m.toNat / 2 ^ (3 * i) &&& 7 = m.toNat / 2 ^ (3 * i) % 8 := Nat.and_two_pow_sub_one_eq_mod _ 3
  rw [e3, Nat.pow_mul]
  unfold dg
  have hm : m = (m.toNat : Int) := by lia
  conv => rhs; rw [hm]
  push_cast
  rfl
theorem or_add {a b : Int} {n : Nat} (h0 : 0 ≤ a) (h1 : a < 2 ^ n) (hb : 0 ≤ b) : Builtin.bitOr a (b * 2 ^ n) = a + b * 2 ^ n := by
  have hp : (0 : Int) < 2 ^ n := Int.pow_pos (by decide)
  have hbn : 0 ≤ b * 2 ^ n := Int.mul_nonneg hb (by lia)
  rw [bitOr_and, bitAnd_pp h0 hbn]
  have e1 : (b * 2 ^ n).toNat = b.toNat <<< n := by
    rw [Nat.shiftLeft_eq]
    have hb' : b = (b.toNat : Int) := by lia
    have : b * 2 ^ n = ((b.toNat * 2 ^ n : Nat) : Int) := by rw [hb']; push_cast; simp
    rw [this, Int.toNat_natCast]
  have ha : a.toNat < 2 ^ n := by
    have : ((a.toNat : Nat) : Int) < ((2 ^ n : Nat) : Int) := by push_cast; lia
    exact_mod_cast this
  have e2 : a.toNat &&& b.toNat <<< n = 0 := by
    apply Nat.eq_of_testBit_eq
    intro j
    simp only [Nat.testBit_and, Nat.testBit_shiftLeft, Nat.zero_testBit]
    by_cases hj : j ≥ n
    · have : a.toNat.testBit j = false := Nat.testBit_lt_two_pow (Nat.lt_of_lt_of_le ha (Nat.pow_le_pow_right (by decide) hj))
      simp [this]
    · simp [hj]
  rw [e1, e2]; simp

-- the greedy parting
def can (i : Nat) : Bool := decide (i < 27) && decide (i % 9 < 7)
def GG : Nat → Int → Int → List Int → Bool
  | _, _, _, [] => true
  | i, p, q, a :: t => decide (0 ≤ a - p - q) && (if can i then GG (i + 1) ((a - p - q) % 3) p t else decide ((a - p - q) % 3 = 0) && GG (i + 1) 0 p t)

theorem gg_zeros (l : List Int) : ∀ (k i : Nat), GG i 0 0 (List.replicate k 0 ++ l) = GG (i + k) 0 0 l
  | 0, i => rfl
  | k + 1, i => by
    rw [List.replicate_succ, List.cons_append, GG]
    have := gg_zeros l k (i + 1)
    rw [show i + 1 + k = i + (k + 1) by lia] at this
    cases can i <;> simp [this]
theorem gg_three {i : Nat} {c : Int} {t : List Int} (h : 3 ≤ c) : GG i 0 0 ((c - 3) :: t) = GG i 0 0 (c :: t) := by
  rw [GG, GG]
  have e : (c - 3 - 0 - 0) % 3 = (c - 0 - 0) % 3 := by lia
  have e1 : decide (0 ≤ c - 3 - 0 - 0) = true := by simp; lia
  have e2 : decide (0 ≤ c - 0 - 0) = true := by simp; lia
  rw [e, e1, e2]
theorem gg_run {i : Nat} {c x y : Int} {t : List Int} (hi : can i = true) (hc : 1 ≤ c) (hx : 1 ≤ x) (hy : 1 ≤ y) (h : GG i 0 0 ((c - 1) :: (x - 1) :: (y - 1) :: t) = true) : GG i 0 0 (c :: x :: y :: t) = true := by
  simp only [GG, hi, if_true, Bool.and_eq_true, decide_eq_true_eq] at h ⊢
  obtain ⟨h1, h2, h3⟩ := h
  refine ⟨by lia, ?_⟩
  by_cases hy2 : (c - 1) % 3 = 2
  · have e0 : (c - 1 - 0 - 0) % 3 = 2 := by lia
    have e0' : (c - 0 - 0) % 3 = 0 := by lia
    rw [e0] at h2 h3
    rw [e0']
    have e1 : (x - 1 - 2 - 0) % 3 = (x - 0 - 0) % 3 := by lia
    rw [e1] at h3
    refine ⟨by lia, ?_⟩
    cases hn : can (i + 1) with
    | true =>
      rw [hn] at h3
      simp only [if_true, Bool.and_eq_true, decide_eq_true_eq] at h3 ⊢
      obtain ⟨h4, h5⟩ := h3
      have e2 : (y - 1 - (x - 0 - 0) % 3 - 2) % 3 = (y - (x - 0 - 0) % 3 - 0) % 3 := by lia
      rw [e2] at h5
      exact ⟨by lia, h5⟩
    | false =>
      rw [hn] at h3
      simp only [Bool.false_eq_true, if_false, Bool.and_eq_true, decide_eq_true_eq] at h3 ⊢
      obtain ⟨h4, h5, h6⟩ := h3
      have e2 : (y - 1 - 0 - 2) % 3 = (y - 0 - 0) % 3 := by lia
      rw [e2] at h6
      exact ⟨h4, by lia, h6⟩
  · have e0 : (c - 0 - 0) % 3 = (c - 1 - 0 - 0) % 3 + 1 := by lia
    rw [e0]
    generalize (c - 1 - 0 - 0) % 3 = y0 at h2 h3 ⊢
    have e1 : x - (y0 + 1) - 0 = x - 1 - y0 - 0 := by lia
    rw [e1]
    refine ⟨h2, ?_⟩
    cases hn : can (i + 1) with
    | true =>
      rw [hn] at h3
      simp only [if_true, Bool.and_eq_true, decide_eq_true_eq] at h3 ⊢
      have e2 : y - (x - 1 - y0 - 0) % 3 - (y0 + 1) = y - 1 - (x - 1 - y0 - 0) % 3 - y0 := by lia
      rw [e2]; exact h3
    | false =>
      rw [hn] at h3
      simp only [Bool.false_eq_true, if_false, Bool.and_eq_true, decide_eq_true_eq] at h3 ⊢
      have e2 : y - 0 - (y0 + 1) = y - 1 - 0 - y0 := by lia
      rw [e2]; exact h3
theorem gg_run' {i : Nat} {c x y : Int} {t : List Int} (hi : can i = true) (hc : 1 ≤ c) (hc2 : c ≤ 2) (hx : 1 ≤ x) (hy : 1 ≤ y) (h : GG i 0 0 (c :: x :: y :: t) = true) : GG i 0 0 ((c - 1) :: (x - 1) :: (y - 1) :: t) = true := by
  simp only [GG, hi, if_true, Bool.and_eq_true, decide_eq_true_eq] at h ⊢
  obtain ⟨h1, h2, h3⟩ := h
  refine ⟨by lia, ?_⟩
  have e0 : (c - 0 - 0) % 3 = (c - 1 - 0 - 0) % 3 + 1 := by lia
  rw [e0] at h2 h3
  generalize (c - 1 - 0 - 0) % 3 = y0 at h2 h3 ⊢
  have e1 : x - (y0 + 1) - 0 = x - 1 - y0 - 0 := by lia
  rw [e1] at h2 h3
  refine ⟨h2, ?_⟩
  cases hn : can (i + 1) with
  | true =>
    rw [hn] at h3
    simp only [if_true, Bool.and_eq_true, decide_eq_true_eq] at h3 ⊢
    have e2 : y - (x - 1 - y0 - 0) % 3 - (y0 + 1) = y - 1 - (x - 1 - y0 - 0) % 3 - y0 := by lia
    rw [e2] at h3; exact h3
  | false =>
    rw [hn] at h3
    simp only [Bool.false_eq_true, if_false, Bool.and_eq_true, decide_eq_true_eq] at h3 ⊢
    have e2 : y - 0 - (y0 + 1) = y - 1 - 0 - y0 := by lia
    rw [e2] at h3; exact h3
theorem gg_no {i : Nat} {c : Int} {t : List Int} (hc : 1 ≤ c) (hc2 : c ≤ 2) (h : can i = true → ∀ x y t', t = x :: y :: t' → ¬ (1 ≤ x ∧ 1 ≤ y)) (ht : can i = true → 2 ≤ t.length) : GG i 0 0 (c :: t) = false := by
  rw [Bool.eq_false_iff]
  intro hg
  rw [GG] at hg
  cases hi : can i with
  | false =>
    rw [hi] at hg
    simp only [Bool.false_eq_true, if_false, Bool.and_eq_true, decide_eq_true_eq] at hg
    lia
  | true =>
    rw [hi] at hg
    have hl := ht hi
    match t, hl, h hi with
    | x :: y :: t', _, hn =>
      have hn := hn x y t' rfl
      simp only [GG, if_true, Bool.and_eq_true, decide_eq_true_eq] at hg
      obtain ⟨h1, h2, h3⟩ := hg
      cases hn' : can (i + 1) with
      | true =>
        rw [hn'] at h3
        simp only [if_true, Bool.and_eq_true, decide_eq_true_eq] at h3
        lia
      | false =>
        rw [hn'] at h3
        simp only [Bool.false_eq_true, if_false, Bool.and_eq_true, decide_eq_true_eq] at h3
        lia

theorem getD_set (ns : List Int) (i j : Nat) (v : Int) : (ns.set i v).getD j 0 = if j = i ∧ i < ns.length then v else ns.getD j 0 := by
  simp only [List.getD_eq_getElem?_getD, List.getElem?_set]
  by_cases h : i = j
  · subst h
    by_cases hl : i < ns.length
    · simp [hl]
    · simp [hl]
  · have : ¬ j = i := fun e => h e.symm
    simp [h, this]
theorem sum_set : ∀ (ns : List Int) (i : Nat) (v : Int), i < ns.length → (ns.set i v).sum = ns.sum - ns.getD i 0 + v
  | [], _, _, h => absurd h (Nat.not_lt_zero _)
  | n :: ns, 0, v, _ => by simp; lia
  | n :: ns, i + 1, v, h => by
    have := sum_set ns i v (Nat.lt_of_succ_lt_succ h)
    simp only [List.set_cons_succ, List.sum_cons, this, List.getD_cons_succ]; lia
theorem sum_nonneg : ∀ (ns : List Int), (∀ i, 0 ≤ ns.getD i 0) → 0 ≤ ns.sum
  | [], _ => by simp
  | n :: ns, h => by
    have h1 := h 0
    have h2 := sum_nonneg ns fun i => by simpa using h (i + 1)
    simp at h1 ⊢; lia
theorem le_sum : ∀ (ns : List Int) (i : Nat), (∀ i, 0 ≤ ns.getD i 0) → ns.getD i 0 ≤ ns.sum
  | [], i, _ => by simp
  | n :: ns, 0, h => by
    have := sum_nonneg ns fun i => by simpa using h (i + 1)
    simp; lia
  | n :: ns, i + 1, h => by
    have h0 := h 0
    have := le_sum ns i fun i => by simpa using h (i + 1)
    simp at h0 ⊢; simp at this; lia
theorem split_zeros (ns : List Int) (k : Nat) (hk : k < ns.length) (h : ∀ i, i < k → ns.getD i 0 = 0) : ns = List.replicate k 0 ++ (ns.getD k 0 :: ns.drop (k + 1)) := by
  apply List.ext_getElem?
  intro i
  by_cases h1 : i < k
  · rw [List.getElem?_append_left (by simpa using h1)]
    have := h i h1
    rw [List.getD_eq_getElem?_getD] at this
    have hl : i < ns.length := by lia
    simp [hl] at this
    simp [hl, h1, this]
  · rw [List.getElem?_append_right (by simp; lia), List.length_replicate]
    by_cases h2 : i = k
    · subst h2; simp [hk]
    · obtain ⟨j, hj⟩ : ∃ j, i - k = j + 1 := ⟨i - k - 1, by lia⟩
      rw [hj, List.getElem?_cons_succ, List.getElem?_drop]
      congr 1; lia

theorem drop_cons (ns : List Int) (i : Nat) (h : i < ns.length) : ns.drop i = ns.getD i 0 :: ns.drop (i + 1) := by
  rw [List.drop_eq_getElem_cons h]
  simp [List.getD, h]
theorem gg_set (ns : List Int) (i : Nat) (hi : i < ns.length) (hz : ∀ z, z < i → ns.getD z 0 = 0) (v : Int) : GG 0 0 0 (ns.set i v) = GG i 0 0 (v :: ns.drop (i + 1)) := by
  have e := split_zeros (ns.set i v) i (by simpa using hi) fun z hz' => by
    rw [getD_set, if_neg (by lia)]; exact hz z hz'
  rw [getD_set, if_pos ⟨rfl, hi⟩, List.drop_set_of_lt (by lia)] at e
  rw [e, gg_zeros, Nat.zero_add]
theorem gg_set3 (ns : List Int) (i : Nat) (hi : i + 2 < ns.length) (hz : ∀ z, z < i → ns.getD z 0 = 0) (a b c : Int) : GG 0 0 0 (((ns.set i a).set (i + 1) b).set (i + 2) c) = GG i 0 0 (a :: b :: c :: ns.drop (i + 3)) := by
  have e : ((ns.set i a).set (i + 1) b).set (i + 2) c = ((ns.set (i + 1) b).set (i + 2) c).set i a := by
    rw [List.set_comm a b (by lia), List.set_comm a c (by lia)]
  rw [e, gg_set _ i (by simp; lia) (fun z hz' => by rw [getD_set, if_neg (by lia), getD_set, if_neg (by lia)]; exact hz z hz')]
  have e1 : List.drop (i + 1) ((ns.set (i + 1) b).set (i + 2) c) = b :: c :: ns.drop (i + 3) := by
    rw [drop_cons _ (i + 1) (by simp; lia), drop_cons _ (i + 1 + 1) (by simp; lia)]
    rw [getD_set, if_neg (by lia), getD_set, if_pos ⟨rfl, by lia⟩, getD_set, if_pos ⟨rfl, by simp; lia⟩]
    rw [List.drop_set_of_lt (by lia), List.drop_set_of_lt (by lia)]
  rw [e1]
theorem sum_idx : ∀ (idx : List Nat) (l : List Int), (∀ i, 0 ≤ l.getD i 0) → idx.Nodup → (∀ i ∈ idx, i < l.length) → (idx.map fun i => l.getD i 0).sum ≤ l.sum
  | [], l, h, _, _ => by simpa using sum_nonneg l h
  | i :: idx, l, h, hn, hi => by
    have hn' := List.nodup_cons.mp hn
    have hlt := hi i (.head _)
    have ih := sum_idx idx (l.set i 0) (fun j => by rw [getD_set]; split; exact Int.le_refl _; exact h j) hn'.2 (fun j hj => by simpa using hi j (.tail _ hj))
    rw [sum_set l i 0 hlt] at ih
    have e : (idx.map fun j => (l.set i 0).getD j 0) = idx.map fun j => l.getD j 0 := List.map_congr_left fun j hj => by
      rw [getD_set, if_neg]; rintro ⟨rfl, _⟩; exact hn'.1 hj
    rw [e] at ih
    simp only [List.map_cons, List.sum_cons]
    clear e hn hi hlt h hn'
    lia

def rn (a : Int) : Int := if a = 1 ∨ a = 4 then 1 else if a = 2 then 2 else 0
def mentsuL : Nat → Int → Int → Int → Bool
  | 0, _, c, m => decide (m / 8 % 8 - c = 0) || decide (m / 8 % 8 - c = 3)
  | n + 1, a, c, m => if m / 8 % 8 - (c + rn a) < 0 then false else mentsuL n (m / 8 % 8 - (c + rn a)) (rn a) (m / 8)
def mentsu (m : Int) : Bool := if m / 8 % 8 - rn (m % 8) < 0 then false else mentsuL 6 (m / 8 % 8 - rn (m % 8)) (rn (m % 8)) (m / 8)
def num : List Int → Int
  | [] => 0
  | a :: t => a + 8 * num t
def at2 (m : Int) (i : Nat) : Bool := decide (2 ≤ dg m i) && mentsu (m - 2 * 8 ^ i)
def atama (nn m : Int) : Bool :=
  if nn = 0 then at2 m 2 || at2 m 5 || at2 m 8 else if nn = 1 then at2 m 1 || at2 m 4 || at2 m 7 else if nn = 2 then at2 m 0 || at2 m 3 || at2 m 6 else false
theorem num_nonneg : ∀ (l : List Int), (∀ a ∈ l, 0 ≤ a) → 0 ≤ num l
  | [], _ => by simp [num]
  | a :: t, h => by
    have h1 := h a (.head _)
    have h2 := num_nonneg t fun b hb => h b (.tail _ hb)
    simp only [num]; lia
theorem meld_num {t0 t1 t2 t3 t4 t5 t6 t7 t8 : Int} (h0 : 0 ≤ t0 ∧ t0 ≤ 7) (h1 : 0 ≤ t1 ∧ t1 ≤ 7) (h2 : 0 ≤ t2 ∧ t2 ≤ 7) (h3 : 0 ≤ t3 ∧ t3 ≤ 7) (h4 : 0 ≤ t4 ∧ t4 ≤ 7) (h5 : 0 ≤ t5 ∧ t5 ≤ 7) (h6 : 0 ≤ t6 ∧ t6 ≤ 7) (h7 : 0 ≤ t7 ∧ t7 ≤ 7) (h8 : 0 ≤ t8 ∧ t8 ≤ 7) :
    Builtin.bitOr (Builtin.bitOr (Builtin.bitOr (Builtin.bitOr (Builtin.bitOr (Builtin.bitOr (Builtin.bitOr (Builtin.bitOr t0 (t1 * 2 ^ 3)) (t2 * 2 ^ 6)) (t3 * 2 ^ 9)) (t4 * 2 ^ 12)) (t5 * 2 ^ 15)) (t6 * 2 ^ 18)) (t7 * 2 ^ 21)) (t8 * 2 ^ 24) = num [t0, t1, t2, t3, t4, t5, t6, t7, t8] := by
  rw [or_add (a := t0) (b := t1) (n := 3) (by lia) (by lia) (by lia)]
  rw [or_add (a := t0 + t1 * 2 ^ 3) (b := t2) (n := 6) (by lia) (by lia) (by lia)]
  rw [or_add (a := t0 + t1 * 2 ^ 3 + t2 * 2 ^ 6) (b := t3) (n := 9) (by lia) (by lia) (by lia)]
  rw [or_add (a := t0 + t1 * 2 ^ 3 + t2 * 2 ^ 6 + t3 * 2 ^ 9) (b := t4) (n := 12) (by lia) (by lia) (by lia)]
  rw [or_add (a := t0 + t1 * 2 ^ 3 + t2 * 2 ^ 6 + t3 * 2 ^ 9 + t4 * 2 ^ 12) (b := t5) (n := 15) (by lia) (by lia) (by lia)]
  rw [or_add (a := t0 + t1 * 2 ^ 3 + t2 * 2 ^ 6 + t3 * 2 ^ 9 + t4 * 2 ^ 12 + t5 * 2 ^ 15) (b := t6) (n := 18) (by lia) (by lia) (by lia)]
  rw [or_add (a := t0 + t1 * 2 ^ 3 + t2 * 2 ^ 6 + t3 * 2 ^ 9 + t4 * 2 ^ 12 + t5 * 2 ^ 15 + t6 * 2 ^ 18) (b := t7) (n := 21) (by lia) (by lia) (by lia)]
  rw [or_add (a := t0 + t1 * 2 ^ 3 + t2 * 2 ^ 6 + t3 * 2 ^ 9 + t4 * 2 ^ 12 + t5 * 2 ^ 15 + t6 * 2 ^ 18 + t7 * 2 ^ 21) (b := t8) (n := 24) (by lia) (by lia) (by lia)]
  simp only [num]; lia
theorem cond_dg {m : Int} (h0 : 0 ≤ m) {e : Int} (i : Nat) (he : (2 : Int) ^ e.toNat = 8 ^ i) : decide (Builtin.bitAnd m (7 * 2 ^ e.toNat) ≥ 2 * 2 ^ e.toNat) = decide (2 ≤ dg m i) := by
  have h8 : (0 : Int) < 8 ^ i := Int.pow_pos (by decide)
  rw [he, and7s h0, Bool.eq_iff_iff, decide_eq_true_eq, decide_eq_true_eq]
  constructor
  · intro h
    exact Int.le_of_mul_le_mul_right h h8
  · intro h
    exact Int.mul_le_mul_of_nonneg_right h (by lia)
theorem dg0 (m : Int) : dg m 0 = m % 8 := by unfold dg; rw [Int.pow_zero, Int.ediv_one]
theorem dg_le {m : Int} (h0 : 0 ≤ m) {i : Nat} (h : 2 ≤ dg m i) : 2 * 8 ^ i ≤ m := by
  have h8 : (0 : Int) < 8 ^ i := Int.pow_pos (by decide)
  unfold dg at h
  have h1 : 2 ≤ m / 8 ^ i := by
    have : m / 8 ^ i % 8 ≤ m / 8 ^ i := by
      have := Int.ediv_nonneg h0 (Int.le_of_lt h8)
      lia
    lia
  have h2 := Int.mul_le_mul_of_nonneg_right h1 (Int.le_of_lt h8)
  have h3 := Int.ediv_mul_le m (Int.ne_of_gt h8)
  lia

theorem num_mod {a : Int} {t : List Int} (h : 0 ≤ a ∧ a ≤ 7) : num (a :: t) % 8 = a := by simp only [num]; lia
theorem num_div {a : Int} {t : List Int} (h : 0 ≤ a ∧ a ≤ 7) : num (a :: t) / 8 = num t := by simp only [num]; lia
theorem rn_mod {a : Int} (h0 : 0 ≤ a) (h4 : a ≤ 4) : rn a = a % 3 := by
  unfold rn
  by_cases h1 : a = 1 ∨ a = 4
  · rw [if_pos h1]; lia
  · rw [if_neg h1]
    by_cases h2 : a = 2
    · rw [if_pos h2]; lia
    · rw [if_neg h2]; lia

theorem gg_can {i : Nat} {p q a : Int} {t : List Int} (h : can i = true) : GG i p q (a :: t) = true ↔ 0 ≤ a - p - q ∧ GG (i + 1) ((a - p - q) % 3) p t = true := by
  rw [GG, h]; simp
theorem gg_cannot {i : Nat} {p q a : Int} {t : List Int} (h : can i = false) : GG i p q (a :: t) = true ↔ 0 ≤ a - p - q ∧ (a - p - q) % 3 = 0 ∧ GG (i + 1) 0 p t = true := by
  rw [GG, h]; simp
theorem gg_nine (i : Nat) (hi : i = 0 ∨ i = 9 ∨ i = 18) (c0 c1 c2 c3 c4 c5 c6 c7 c8 : Int) (t : List Int) : GG i 0 0 (c0 :: c1 :: c2 :: c3 :: c4 :: c5 :: c6 :: c7 :: c8 :: t) = (GG 0 0 0 [c0, c1, c2, c3, c4, c5, c6, c7, c8] && GG (i + 9) 0 0 t) := by
  have hc : ∀ j, j < 7 → can (i + j) = true := fun j hj => by
    simp only [can, Bool.and_eq_true, decide_eq_true_eq]; lia
  have hn : ∀ j, j = 7 ∨ j = 8 → can (i + j) = false := fun j hj => by
    simp only [can, Bool.and_eq_false_iff, decide_eq_false_iff_not]; lia
  rw [Bool.eq_iff_iff, Bool.and_eq_true]
  rw [gg_can (show can (i) = true from hc 0 (by decide)), gg_can (show can (i + 1) = true from hc 1 (by decide)), gg_can (show can (i + 1 + 1) = true from hc 2 (by decide)), gg_can (show can (i + 1 + 1 + 1) = true from hc 3 (by decide)), gg_can (show can (i + 1 + 1 + 1 + 1) = true from hc 4 (by decide)), gg_can (show can (i + 1 + 1 + 1 + 1 + 1) = true from hc 5 (by decide)), gg_can (show can (i + 1 + 1 + 1 + 1 + 1 + 1) = true from hc 6 (by decide)), gg_cannot (show can (i + 1 + 1 + 1 + 1 + 1 + 1 + 1) = false from hn 7 (.inl rfl)), gg_cannot (show can (i + 1 + 1 + 1 + 1 + 1 + 1 + 1 + 1) = false from hn 8 (.inr rfl))]
  rw [gg_can (show can 0 = true from rfl), gg_can (show can (0 + 1) = true from rfl), gg_can (show can (0 + 1 + 1) = true from rfl), gg_can (show can (0 + 1 + 1 + 1) = true from rfl), gg_can (show can (0 + 1 + 1 + 1 + 1) = true from rfl), gg_can (show can (0 + 1 + 1 + 1 + 1 + 1) = true from rfl), gg_can (show can (0 + 1 + 1 + 1 + 1 + 1 + 1) = true from rfl), gg_cannot (show can (0 + 1 + 1 + 1 + 1 + 1 + 1 + 1) = false from rfl), gg_cannot (show can (0 + 1 + 1 + 1 + 1 + 1 + 1 + 1 + 1) = false from rfl)]
  simp only [and_assoc, show GG (0 + 1 + 1 + 1 + 1 + 1 + 1 + 1 + 1 + 1) 0 0 [] = true from rfl, true_and, show i + 1 + 1 + 1 + 1 + 1 + 1 + 1 + 1 + 1 = i + 9 from rfl]
theorem gr_iff (c0 c1 c2 c3 c4 c5 c6 c7 c8 : Int) : GG 0 0 0 [c0, c1, c2, c3, c4, c5, c6, c7, c8] = true ↔
    ∃ y0 y1 y2 y3 y4 y5 y6, 0 ≤ c0 ∧ y0 = c0 % 3 ∧ 0 ≤ c1 - y0 ∧ y1 = (c1 - y0) % 3 ∧ 0 ≤ c2 - y1 - y0 ∧ y2 = (c2 - y1 - y0) % 3 ∧ 0 ≤ c3 - y2 - y1 ∧ y3 = (c3 - y2 - y1) % 3 ∧ 0 ≤ c4 - y3 - y2 ∧ y4 = (c4 - y3 - y2) % 3 ∧
      0 ≤ c5 - y4 - y3 ∧ y5 = (c5 - y4 - y3) % 3 ∧ 0 ≤ c6 - y5 - y4 ∧ y6 = (c6 - y5 - y4) % 3 ∧ 0 ≤ c7 - y6 - y5 ∧ (c7 - y6 - y5) % 3 = 0 ∧ 0 ≤ c8 - y6 ∧ (c8 - y6) % 3 = 0 := by
  rw [gg_can (show can 0 = true from rfl), gg_can (show can (0 + 1) = true from rfl), gg_can (show can (0 + 1 + 1) = true from rfl), gg_can (show can (0 + 1 + 1 + 1) = true from rfl), gg_can (show can (0 + 1 + 1 + 1 + 1) = true from rfl), gg_can (show can (0 + 1 + 1 + 1 + 1 + 1) = true from rfl), gg_can (show can (0 + 1 + 1 + 1 + 1 + 1 + 1) = true from rfl), gg_cannot (show can (0 + 1 + 1 + 1 + 1 + 1 + 1 + 1) = false from rfl), gg_cannot (show can (0 + 1 + 1 + 1 + 1 + 1 + 1 + 1 + 1) = false from rfl)]
  simp only [Int.sub_zero]
  constructor
  · rintro ⟨h0, h1, h2, h3, h4, h5, h6, h7, h7', h8, h8', _⟩
    exact ⟨_, _, _, _, _, _, _, h0, rfl, h1, rfl, h2, rfl, h3, rfl, h4, rfl, h5, rfl, h6, rfl, h7, h7', h8, h8'⟩
  · rintro ⟨y0, y1, y2, y3, y4, y5, y6, h0, rfl, h1, rfl, h2, rfl, h3, rfl, h4, rfl, h5, rfl, h6, rfl, h7, h7', h8, h8'⟩
    exact ⟨h0, h1, h2, h3, h4, h5, h6, h7, h7', h8, h8', rfl⟩
theorem quo {y a : Int} (h : y = a % 3) : ∃ q, a = 3 * q + y := ⟨a / 3, by lia⟩
theorem quo0 {a : Int} (h : a % 3 = 0) : ∃ q, a = 3 * q := ⟨a / 3, by lia⟩
theorem sum3 {c0 c1 c2 c3 c4 c5 c6 c7 c8 y0 y1 y2 y3 y4 y5 y6 : Int} (e0 : y0 = c0 % 3) (e1 : y1 = (c1 - y0) % 3) (e2 : y2 = (c2 - y1 - y0) % 3) (e3 : y3 = (c3 - y2 - y1) % 3) (e4 : y4 = (c4 - y3 - y2) % 3) (e5 : y5 = (c5 - y4 - y3) % 3) (e6 : y6 = (c6 - y5 - y4) % 3) :
    ∃ z z', c0 + c1 + c2 + c3 + c4 + c5 + c6 + c7 + c8 = 3 * z + (c7 - y6 - y5) + (c8 - y6) ∧ (c0 + c3 + c6) + (c1 + c4 + c7) * 2 = 3 * z' + (c7 - y6 - y5) * 2 := by
  obtain ⟨q0, f0⟩ := quo e0
  obtain ⟨q1, f1⟩ := quo e1
  obtain ⟨q2, f2⟩ := quo e2
  obtain ⟨q3, f3⟩ := quo e3
  obtain ⟨q4, f4⟩ := quo e4
  obtain ⟨q5, f5⟩ := quo e5
  obtain ⟨q6, f6⟩ := quo e6
  have g1 : c1 = 3 * q1 + y1 + y0 := by lia
  have g2 : c2 = 3 * q2 + y2 + y1 + y0 := by lia
  have g3 : c3 = 3 * q3 + y3 + y2 + y1 := by lia
  have g4 : c4 = 3 * q4 + y4 + y3 + y2 := by lia
  have g5 : c5 = 3 * q5 + y5 + y4 + y3 := by lia
  have g6 : c6 = 3 * q6 + y6 + y5 + y4 := by lia
  clear e0 e1 e2 e3 e4 e5 e6 f1 f2 f3 f4 f5 f6
  subst f0 g1 g2 g3 g4 g5 g6
  refine ⟨q0 + q1 + q2 + q3 + q4 + q5 + q6 + y0 + y1 + y2 + y3 + y4 + y5 + y6, q0 + q3 + q6 + 2 * q1 + 2 * q4 + y0 + y1 + y2 + y3 + y4 + y5 + y6, ?_, ?_⟩ <;> lia
theorem gr_sum {c0 c1 c2 c3 c4 c5 c6 c7 c8 : Int} (h : GG 0 0 0 [c0, c1, c2, c3, c4, c5, c6, c7, c8] = true) : (c0 + c1 + c2 + c3 + c4 + c5 + c6 + c7 + c8) % 3 = 0 ∧ ((c0 + c3 + c6) + (c1 + c4 + c7) * 2) % 3 = 0 := by
  obtain ⟨y0, y1, y2, y3, y4, y5, y6, h0, e0, h1, e1, h2, e2, h3, e3, h4, e4, h5, e5, h6, e6, h7, h7', h8, h8'⟩ := (gr_iff ..).mp h
  obtain ⟨z, z', s1, s2⟩ := sum3 (c7 := c7) (c8 := c8) e0 e1 e2 e3 e4 e5 e6
  obtain ⟨q7, f7⟩ := quo0 h7'
  obtain ⟨q8, f8⟩ := quo0 h8'
  rw [f7, f8] at s1
  rw [f7] at s2
  clear h h0 h1 h2 h3 h4 h5 h6 h7 h8 e0 e1 e2 e3 e4 e5 e6 h7' h8' f7 f8
  exact ⟨by rw [s1]; lia, by rw [s2]; lia⟩
theorem nn3 {y a : Int} (e : y = a % 3) : 0 ≤ y := by lia
theorem le4 {c y : Int} (hc : c ≤ 4) (hy : 0 ≤ y) : c - y ≤ 4 := by lia
theorem le42 {c y z : Int} (hc : c ≤ 4) (hy : 0 ≤ y) (hz : 0 ≤ z) : c - y - z ≤ 4 := by lia
theorem lin2 (c a b : Int) : c - (a + b) = c - b - a := by lia
theorem to7 {c : Int} (h : 0 ≤ c ∧ c ≤ 4) : 0 ≤ c ∧ c ≤ 7 := by lia
theorem mentsuL_step {n : Nat} {a c x y : Int} {t : List Int} (hx : 0 ≤ x ∧ x ≤ 4) (hy : 0 ≤ y ∧ y ≤ 4) : mentsuL (n + 1) a c (num (x :: y :: t)) = true ↔ 0 ≤ y - rn a - c ∧ mentsuL n (y - rn a - c) (rn a) (num (y :: t)) = true := by
  rw [mentsuL, num_div (to7 hx), num_mod (to7 hy), lin2]
  by_cases h : y - rn a - c < 0
  · rw [if_pos h]; simp; lia
  · rw [if_neg h]; simp; lia
theorem mentsuL_fin {a c x y : Int} (hx : 0 ≤ x ∧ x ≤ 4) (hy : 0 ≤ y ∧ y ≤ 4) : mentsuL 0 a c (num [x, y]) = true ↔ y - c = 0 ∨ y - c = 3 := by
  rw [mentsuL, num_div (to7 hx), num_mod (to7 hy)]; simp
theorem mentsu_start {x y : Int} {t : List Int} (hx : 0 ≤ x ∧ x ≤ 4) (hy : 0 ≤ y ∧ y ≤ 4) : mentsu (num (x :: y :: t)) = true ↔ 0 ≤ y - rn x ∧ mentsuL 6 (y - rn x) (rn x) (num (y :: t)) = true := by
  rw [mentsu, num_div (to7 hx), num_mod (to7 hx), num_mod (to7 hy)]
  by_cases h : y - rn x < 0
  · rw [if_pos h]; simp; lia
  · rw [if_neg h]; simp; lia
theorem last8 {A B z S : Int} (hs : S % 3 = 0) (e : S = 3 * z + A + B) (hb : B = 0 ∨ B = 3) : A % 3 = 0 := by lia
theorem fin8 {B : Int} (h0 : 0 ≤ B) (h4 : B ≤ 4) (h : B % 3 = 0) : B = 0 ∨ B = 3 := by lia
theorem tot8 {A B z S : Int} (e : S = 3 * z + A + B) (ha : A % 3 = 0) (hb : B % 3 = 0) : S % 3 = 0 := by lia
theorem mentsu_iff {c0 c1 c2 c3 c4 c5 c6 c7 c8 : Int} (b0 : 0 ≤ c0 ∧ c0 ≤ 4) (b1 : 0 ≤ c1 ∧ c1 ≤ 4) (b2 : 0 ≤ c2 ∧ c2 ≤ 4) (b3 : 0 ≤ c3 ∧ c3 ≤ 4) (b4 : 0 ≤ c4 ∧ c4 ≤ 4) (b5 : 0 ≤ c5 ∧ c5 ≤ 4) (b6 : 0 ≤ c6 ∧ c6 ≤ 4) (b7 : 0 ≤ c7 ∧ c7 ≤ 4) (b8 : 0 ≤ c8 ∧ c8 ≤ 4) :
    GG 0 0 0 [c0, c1, c2, c3, c4, c5, c6, c7, c8] = true ↔ mentsu (num [c0, c1, c2, c3, c4, c5, c6, c7, c8]) = true ∧ (c0 + c1 + c2 + c3 + c4 + c5 + c6 + c7 + c8) % 3 = 0 := by
  rw [gr_iff, mentsu_start b0 b1, mentsuL_step b1 b2, mentsuL_step b2 b3, mentsuL_step b3 b4, mentsuL_step b4 b5, mentsuL_step b5 b6, mentsuL_step b6 b7, mentsuL_fin b7 b8]
  constructor
  · rintro ⟨y0, y1, y2, y3, y4, y5, y6, h0, e0, h1, e1, h2, e2, h3, e3, h4, e4, h5, e5, h6, e6, h7, h7', h8, h8'⟩
    have r0 : rn c0 = y0 := (rn_mod h0 b0.2).trans e0.symm
    have r1 : rn (c1 - y0) = y1 := (rn_mod h1 (le4 b1.2 (nn3 e0))).trans e1.symm
    have r2 : rn (c2 - y1 - y0) = y2 := (rn_mod h2 (le42 b2.2 (nn3 e1) (nn3 e0))).trans e2.symm
    have r3 : rn (c3 - y2 - y1) = y3 := (rn_mod h3 (le42 b3.2 (nn3 e2) (nn3 e1))).trans e3.symm
    have r4 : rn (c4 - y3 - y2) = y4 := (rn_mod h4 (le42 b4.2 (nn3 e3) (nn3 e2))).trans e4.symm
    have r5 : rn (c5 - y4 - y3) = y5 := (rn_mod h5 (le42 b5.2 (nn3 e4) (nn3 e3))).trans e5.symm
    have r6 : rn (c6 - y5 - y4) = y6 := (rn_mod h6 (le42 b6.2 (nn3 e5) (nn3 e4))).trans e6.symm
    rw [r0, r1, r2, r3, r4, r5, r6]
    obtain ⟨z, z', s1, s2⟩ := sum3 (c7 := c7) (c8 := c8) e0 e1 e2 e3 e4 e5 e6
    exact ⟨⟨h1, h2, h3, h4, h5, h6, h7, fin8 h8 (le4 b8.2 (nn3 e6)) h8'⟩, tot8 s1 h7' h8'⟩
  · rintro ⟨⟨h1, h2, h3, h4, h5, h6, h7, h8⟩, hs⟩
    have e0 : rn c0 = c0 % 3 := rn_mod b0.1 b0.2
    generalize rn c0 = y0 at *
    have e1 : rn (c1 - y0) = (c1 - y0) % 3 := rn_mod h1 (le4 b1.2 (nn3 e0))
    generalize rn (c1 - y0) = y1 at *
    have e2 : rn (c2 - y1 - y0) = (c2 - y1 - y0) % 3 := rn_mod h2 (le42 b2.2 (nn3 e1) (nn3 e0))
    generalize rn (c2 - y1 - y0) = y2 at *
    have e3 : rn (c3 - y2 - y1) = (c3 - y2 - y1) % 3 := rn_mod h3 (le42 b3.2 (nn3 e2) (nn3 e1))
    generalize rn (c3 - y2 - y1) = y3 at *
    have e4 : rn (c4 - y3 - y2) = (c4 - y3 - y2) % 3 := rn_mod h4 (le42 b4.2 (nn3 e3) (nn3 e2))
    generalize rn (c4 - y3 - y2) = y4 at *
    have e5 : rn (c5 - y4 - y3) = (c5 - y4 - y3) % 3 := rn_mod h5 (le42 b5.2 (nn3 e4) (nn3 e3))
    generalize rn (c5 - y4 - y3) = y5 at *
    have e6 : rn (c6 - y5 - y4) = (c6 - y5 - y4) % 3 := rn_mod h6 (le42 b6.2 (nn3 e5) (nn3 e4))
    generalize rn (c6 - y5 - y4) = y6 at *
    obtain ⟨z, z', s1, s2⟩ := sum3 (c7 := c7) (c8 := c8) e0 e1 e2 e3 e4 e5 e6
    have g8 : 0 ≤ c8 - y6 ∧ (c8 - y6) % 3 = 0 := by
      clear s1 s2 h1 h2 h3 h4 h5 h6 h7 e0 e1 e2 e3 e4 e5 e6 hs b0 b1 b2 b3 b4 b5 b6 b7 b8
      lia
    exact ⟨y0, y1, y2, y3, y4, y5, y6, b0.1, e0, h1, e1, h2, e2, h3, e3, h4, e4, h5, e5, h6, e6, h7, last8 hs s1 h8, g8.1, g8.2⟩

theorem nine {c : List Int} (h : c.length = 9) : ∃ c0 c1 c2 c3 c4 c5 c6 c7 c8, c = [c0, c1, c2, c3, c4, c5, c6, c7, c8] := by
  match c, h with
  | [c0, c1, c2, c3, c4, c5, c6, c7, c8], _ => exact ⟨_, _, _, _, _, _, _, _, _, rfl⟩
def wsum (c : List Int) : Int := (c.getD 0 0 + c.getD 3 0 + c.getD 6 0) * 1 + (c.getD 1 0 + c.getD 4 0 + c.getD 7 0) * 2
def Four (c : List Int) : Prop := ∀ a ∈ c, 0 ≤ a ∧ a ≤ 4
theorem gr_sums {c : List Int} (hl : c.length = 9) (h : GG 0 0 0 c = true) : c.sum % 3 = 0 ∧ wsum c % 3 = 0 := by
  obtain ⟨c0, c1, c2, c3, c4, c5, c6, c7, c8, rfl⟩ := nine hl
  obtain ⟨h1, h2⟩ := gr_sum h
  refine ⟨?_, ?_⟩
  · have : [c0, c1, c2, c3, c4, c5, c6, c7, c8].sum = c0 + c1 + c2 + c3 + c4 + c5 + c6 + c7 + c8 := by simp only [List.sum_cons, List.sum_nil]; lia
    rw [this]; exact h1
  · have : wsum [c0, c1, c2, c3, c4, c5, c6, c7, c8] = c0 + c3 + c6 + (c1 + c4 + c7) * 2 := by
      show (c0 + c3 + c6) * 1 + (c1 + c4 + c7) * 2 = _
      lia
    rw [this]; exact h2
theorem mentsu_gr {c : List Int} (hl : c.length = 9) (hb : Four c) : GG 0 0 0 c = true ↔ mentsu (num c) = true ∧ c.sum % 3 = 0 := by
  obtain ⟨c0, c1, c2, c3, c4, c5, c6, c7, c8, rfl⟩ := nine hl
  have : [c0, c1, c2, c3, c4, c5, c6, c7, c8].sum = c0 + c1 + c2 + c3 + c4 + c5 + c6 + c7 + c8 := by simp only [List.sum_cons, List.sum_nil]; lia
  rw [this]
  exact mentsu_iff (hb _ (by simp)) (hb _ (by simp)) (hb _ (by simp)) (hb _ (by simp)) (hb _ (by simp)) (hb _ (by simp)) (hb _ (by simp)) (hb _ (by simp)) (hb _ (by simp))
theorem dg_num : ∀ {c : List Int}, Four c → ∀ i, i < c.length → dg (num c) i = c.getD i 0
  | [], _, i, h => absurd h (Nat.not_lt_zero _)
  | a :: t, hb, 0, _ => by
    rw [dg0, num_mod (to7 (hb a (.head _)))]; rfl
  | a :: t, hb, i + 1, h => by
    have ih := dg_num (c := t) (fun b hb' => hb b (.tail _ hb')) i (Nat.lt_of_succ_lt_succ h)
    rw [List.getD_cons_succ, ← ih]
    unfold dg
    rw [Int.pow_succ, Int.mul_comm, ← Int.ediv_ediv_of_nonneg (by decide), num_div (to7 (hb a (.head _)))]
theorem num_set : ∀ (c : List Int) (i : Nat) (v : Int), i < c.length → num (c.set i v) = num c + (v - c.getD i 0) * 8 ^ i
  | [], _, _, h => absurd h (Nat.not_lt_zero _)
  | a :: t, 0, v, _ => by simp [num]; lia
  | a :: t, i + 1, v, h => by
    have ih := num_set t i v (Nat.lt_of_succ_lt_succ h)
    rw [List.set_cons_succ, num, num, ih, List.getD_cons_succ, Int.pow_succ]
    have : (v - t.getD i 0) * (8 ^ i * 8) = 8 * ((v - t.getD i 0) * 8 ^ i) := by rw [← Int.mul_assoc, Int.mul_comm]
    rw [this]; lia
theorem four_set {c : List Int} (hb : Four c) {i : Nat} {v : Int} (hv : 0 ≤ v ∧ v ≤ 4) : Four (c.set i v) := fun a ha => by
  rcases List.mem_or_eq_of_mem_set ha with h | h
  · exact hb a h
  · rw [h]; exact hv
theorem four_get {c : List Int} (hb : Four c) (i : Nat) : 0 ≤ c.getD i 0 ∧ c.getD i 0 ≤ 4 := by
  rw [List.getD_eq_getElem?_getD]
  cases h : c[i]? with
  | none => simp
  | some a => simpa using hb a (List.mem_of_getElem? h)
def dot : List Int → List Int → Int
  | a :: w, b :: c => a * b + dot w c
  | _, _ => 0
theorem dot_set : ∀ (w c : List Int) (i : Nat) (v : Int), i < c.length → dot w (c.set i v) = dot w c + w.getD i 0 * (v - c.getD i 0)
  | [], c, i, v, _ => by simp [dot]
  | a :: w, [], i, v, h => by simp at h
  | a :: w, b :: c, 0, v, _ => by simp only [List.set_cons_zero, dot, List.getD_cons_zero, Int.mul_sub]; lia
  | a :: w, b :: c, i + 1, v, h => by
    simp only [List.set_cons_succ, dot, List.getD_cons_succ, dot_set w c i v (by simpa using h)]
    lia
def wts : List Int := [1, 2, 0, 1, 2, 0, 1, 2, 0]
theorem wsum_dot {c : List Int} (hl : c.length = 9) : wsum c = dot wts c := by
  obtain ⟨c0, c1, c2, c3, c4, c5, c6, c7, c8, rfl⟩ := nine hl
  show (c0 + c3 + c6) * 1 + (c1 + c4 + c7) * 2 = 1 * c0 + (2 * c1 + (0 * c2 + (1 * c3 + (2 * c4 + (0 * c5 + (1 * c6 + (2 * c7 + (0 * c8 + 0))))))))
  lia
theorem wts_ok : ∀ i, i < 9 → (i % 3 = 0 ∧ wts.getD i 0 = 1) ∨ (i % 3 = 1 ∧ wts.getD i 0 = 2) ∨ (i % 3 = 2 ∧ wts.getD i 0 = 0) := by decide
theorem wsum_set {c : List Int} (hl : c.length = 9) {i : Nat} (hi : i < 9) (v : Int) : ∃ wt : Int, wsum (c.set i v) = wsum c + wt * (v - c.getD i 0) ∧ ((i % 3 = 0 ∧ wt = 1) ∨ (i % 3 = 1 ∧ wt = 2) ∨ (i % 3 = 2 ∧ wt = 0)) := by
  refine ⟨wts.getD i 0, ?_, wts_ok i hi⟩
  rw [wsum_dot (by simpa using hl), wsum_dot hl, dot_set _ _ _ _ (by lia)]
def PairAt (c : List Int) (i : Nat) : Prop := 2 ≤ c.getD i 0 ∧ GG 0 0 0 (c.set i (c.getD i 0 - 2)) = true
theorem pair_sum {c : List Int} (hl : c.length = 9) {i : Nat} (hi : i < 9) (h : PairAt c i) : c.sum % 3 = 2 := by
  have := (gr_sums (by simpa using hl) h.2).1
  rw [sum_set c i _ (by lia)] at this
  lia
theorem at2_iff {c : List Int} (hl : c.length = 9) (hb : Four c) (hs : c.sum % 3 = 2) {i : Nat} (hi : i < 9) : at2 (num c) i = true ↔ PairAt c i := by
  unfold at2 PairAt
  rw [Bool.and_eq_true, decide_eq_true_eq, dg_num hb i (by lia)]
  constructor
  · rintro ⟨h1, h2⟩
    refine ⟨h1, (mentsu_gr (by simpa using hl) (four_set hb (by have := four_get hb i; lia))).mpr ⟨?_, ?_⟩⟩
    · rw [num_set c i _ (by lia)]
      have : num c + (c.getD i 0 - 2 - c.getD i 0) * 8 ^ i = num c - 2 * 8 ^ i := by
        rw [show c.getD i 0 - 2 - c.getD i 0 = -2 by lia]; lia
      rw [this]; exact h2
    · rw [sum_set c i _ (by lia)]; lia
  · rintro ⟨h1, h2⟩
    refine ⟨h1, ?_⟩
    have := ((mentsu_gr (by simpa using hl) (four_set hb (by have := four_get hb i; lia))).mp h2).1
    rw [num_set c i _ (by lia)] at this
    have e : num c + (c.getD i 0 - 2 - c.getD i 0) * 8 ^ i = num c - 2 * 8 ^ i := by
      rw [show c.getD i 0 - 2 - c.getD i 0 = -2 by lia]; lia
    rw [e] at this; exact this
theorem atama_iff {c : List Int} (hl : c.length = 9) (hb : Four c) (hs : c.sum % 3 = 2) : atama (wsum c % 3) (num c) = true ↔ ∃ i, i < 9 ∧ PairAt c i := by
  have A := fun i hi => at2_iff hl hb hs (i := i) hi
  constructor
  · intro h
    unfold atama at h
    split at h
    · simp only [Bool.or_eq_true] at h
      rcases h with (h | h) | h
      · exact ⟨2, by decide, (A 2 (by decide)).mp h⟩
      · exact ⟨5, by decide, (A 5 (by decide)).mp h⟩
      · exact ⟨8, by decide, (A 8 (by decide)).mp h⟩
    · split at h
      · simp only [Bool.or_eq_true] at h
        rcases h with (h | h) | h
        · exact ⟨1, by decide, (A 1 (by decide)).mp h⟩
        · exact ⟨4, by decide, (A 4 (by decide)).mp h⟩
        · exact ⟨7, by decide, (A 7 (by decide)).mp h⟩
      · split at h
        · simp only [Bool.or_eq_true] at h
          rcases h with (h | h) | h
          · exact ⟨0, by decide, (A 0 (by decide)).mp h⟩
          · exact ⟨3, by decide, (A 3 (by decide)).mp h⟩
          · exact ⟨6, by decide, (A 6 (by decide)).mp h⟩
        · cases h
  · rintro ⟨i, hi, hp⟩
    have hw := (gr_sums (by simpa using hl) hp.2).2
    obtain ⟨wt, e, hwt⟩ := wsum_set hl hi (c.getD i 0 - 2)
    rw [e, show c.getD i 0 - 2 - c.getD i 0 = -2 by lia] at hw
    have h2 := (A i hi).mpr hp
    unfold atama
    rcases hwt with ⟨hm, rfl⟩ | ⟨hm, rfl⟩ | ⟨hm, rfl⟩
    · have : wsum c % 3 = 2 := by lia
      rw [this]
      simp only [show ¬ ((2 : Int) = 0) by decide, show ¬ ((2 : Int) = 1) by decide, if_false, if_true, Bool.or_eq_true]
      have : i = 0 ∨ i = 3 ∨ i = 6 := by lia
      rcases this with rfl | rfl | rfl
      · exact .inl (.inl h2)
      · exact .inl (.inr h2)
      · exact .inr h2
    · have : wsum c % 3 = 1 := by lia
      rw [this]
      simp only [show ¬ ((1 : Int) = 0) by decide, if_false, if_true, Bool.or_eq_true]
      have : i = 1 ∨ i = 4 ∨ i = 7 := by lia
      rcases this with rfl | rfl | rfl
      · exact .inl (.inl h2)
      · exact .inl (.inr h2)
      · exact .inr h2
    · have : wsum c % 3 = 0 := by lia
      rw [this]
      simp only [if_true, Bool.or_eq_true]
      have : i = 2 ∨ i = 5 ∨ i = 8 := by lia
      rcases this with rfl | rfl | rfl
      · exact .inl (.inl h2)
      · exact .inl (.inr h2)
      · exact .inr h2

def seg (ns : List Int) (s : Nat) : List Int := (List.range 9).map fun i => ns.getD (9 * s + i) 0
def Hon (ns : List Int) : Prop := ∀ h, h < 7 → 0 ≤ ns.getD (27 + h) 0 ∧ ns.getD (27 + h) 0 % 3 = 0
theorem seg_len (ns : List Int) (s : Nat) : (seg ns s).length = 9 := by simp [seg]
theorem seg_get (ns : List Int) (s i : Nat) (hi : i < 9) : (seg ns s).getD i 0 = ns.getD (9 * s + i) 0 := by
  simp [seg, List.getD_eq_getElem?_getD, List.getElem?_map, List.getElem?_range hi]
theorem seg_four {ns : List Int} (hb : ∀ i, 0 ≤ ns.getD i 0 ∧ ns.getD i 0 ≤ 4) (s : Nat) : Four (seg ns s) := fun a ha => by
  obtain ⟨i, _, rfl⟩ := List.mem_map.mp ha
  exact hb _
theorem list34 {ns : List Int} (hl : ns.length = 34) : ns = (List.range 34).map fun i => ns.getD i 0 := by
  apply List.ext_getElem?
  intro i
  by_cases hi : i < 34
  · rw [List.getElem?_map, List.getElem?_range hi, List.getElem?_eq_getElem (by lia)]
    simp [List.getD, show i < ns.length by lia]
  · rw [List.getElem?_eq_none (by lia), List.getElem?_eq_none (by simp; lia)]
theorem gg34 {ns : List Int} (hl : ns.length = 34) : GG 0 0 0 ns = true ↔ (∀ s, s < 3 → GG 0 0 0 (seg ns s) = true) ∧ Hon ns := by
  have e : GG 0 0 0 ns = GG 0 0 0 (ns.getD 0 0 :: ns.getD 1 0 :: ns.getD 2 0 :: ns.getD 3 0 :: ns.getD 4 0 :: ns.getD 5 0 :: ns.getD 6 0 :: ns.getD 7 0 :: ns.getD 8 0 :: ns.getD 9 0 :: ns.getD 10 0 :: ns.getD 11 0 :: ns.getD 12 0 :: ns.getD 13 0 :: ns.getD 14 0 :: ns.getD 15 0 :: ns.getD 16 0 :: ns.getD 17 0 :: ns.getD 18 0 :: ns.getD 19 0 :: ns.getD 20 0 :: ns.getD 21 0 :: ns.getD 22 0 :: ns.getD 23 0 :: ns.getD 24 0 :: ns.getD 25 0 :: ns.getD 26 0 :: ns.getD 27 0 :: ns.getD 28 0 :: ns.getD 29 0 :: ns.getD 30 0 :: ns.getD 31 0 :: ns.getD 32 0 :: ns.getD 33 0 :: []) := by
    conv => lhs; rw [list34 hl]
    rfl
  have e0 : seg ns 0 = [ns.getD 0 0, ns.getD 1 0, ns.getD 2 0, ns.getD 3 0, ns.getD 4 0, ns.getD 5 0, ns.getD 6 0, ns.getD 7 0, ns.getD 8 0] := rfl
  have e1 : seg ns 1 = [ns.getD 9 0, ns.getD 10 0, ns.getD 11 0, ns.getD 12 0, ns.getD 13 0, ns.getD 14 0, ns.getD 15 0, ns.getD 16 0, ns.getD 17 0] := rfl
  have e2 : seg ns 2 = [ns.getD 18 0, ns.getD 19 0, ns.getD 20 0, ns.getD 21 0, ns.getD 22 0, ns.getD 23 0, ns.getD 24 0, ns.getD 25 0, ns.getD 26 0] := rfl
  rw [e, gg_nine 0 (.inl rfl), gg_nine (0 + 9) (.inr (.inl rfl)), gg_nine (0 + 9 + 9) (.inr (.inr rfl)), ← e0, ← e1, ← e2]
  simp only [Bool.and_eq_true]
  rw [gg_cannot (show can (0 + 9 + 9 + 9) = false from rfl)]
  rw [gg_cannot (show can (0 + 9 + 9 + 9 + 1) = false from rfl)]
  rw [gg_cannot (show can (0 + 9 + 9 + 9 + 1 + 1) = false from rfl)]
  rw [gg_cannot (show can (0 + 9 + 9 + 9 + 1 + 1 + 1) = false from rfl)]
  rw [gg_cannot (show can (0 + 9 + 9 + 9 + 1 + 1 + 1 + 1) = false from rfl)]
  rw [gg_cannot (show can (0 + 9 + 9 + 9 + 1 + 1 + 1 + 1 + 1) = false from rfl)]
  rw [gg_cannot (show can (0 + 9 + 9 + 9 + 1 + 1 + 1 + 1 + 1 + 1) = false from rfl)]
  simp only [Int.sub_zero]
  constructor
  · rintro ⟨h0, h1, h2, a0, b0, a1, b1, a2, b2, a3, b3, a4, b4, a5, b5, a6, b6, _⟩
    refine ⟨fun s hs => ?_, fun h hh => ?_⟩
    · have : s = 0 ∨ s = 1 ∨ s = 2 := by lia
      rcases this with rfl | rfl | rfl <;> assumption
    · have : h = 0 ∨ h = 1 ∨ h = 2 ∨ h = 3 ∨ h = 4 ∨ h = 5 ∨ h = 6 := by lia
      rcases this with rfl | rfl | rfl | rfl | rfl | rfl | rfl
      · exact ⟨a0, b0⟩
      · exact ⟨a1, b1⟩
      · exact ⟨a2, b2⟩
      · exact ⟨a3, b3⟩
      · exact ⟨a4, b4⟩
      · exact ⟨a5, b5⟩
      · exact ⟨a6, b6⟩
  · rintro ⟨hs, hh⟩
    exact ⟨hs 0 (by decide), hs 1 (by decide), hs 2 (by decide), (hh 0 (by decide)).1, (hh 0 (by decide)).2, (hh 1 (by decide)).1, (hh 1 (by decide)).2, (hh 2 (by decide)).1, (hh 2 (by decide)).2, (hh 3 (by decide)).1, (hh 3 (by decide)).2, (hh 4 (by decide)).1, (hh 4 (by decide)).2, (hh 5 (by decide)).1, (hh 5 (by decide)).2, (hh 6 (by decide)).1, (hh 6 (by decide)).2, rfl⟩
theorem seg_set_in {ns : List Int} (hl : ns.length = 34) {s i : Nat} (hs : s < 3) (hi : i < 9) (v : Int) : seg (ns.set (9 * s + i) v) s = (seg ns s).set i v := by
  apply List.ext_getElem?
  intro j
  by_cases hj : j < 9
  · rw [List.getElem?_set, seg_len]
    simp only [seg, List.getElem?_map, List.getElem?_range hj, Option.map_some, getD_set]
    by_cases e : i = j
    · subst e
      rw [if_pos ⟨rfl, by lia⟩]
      simp [hi]
    · rw [if_neg (by lia), if_neg e]
  · rw [List.getElem?_eq_none (by rw [seg_len]; lia), List.getElem?_eq_none (by rw [List.length_set, seg_len]; lia)]
theorem seg_set_out {ns : List Int} {k s : Nat} (h : k < 9 * s ∨ 9 * s + 9 ≤ k) (v : Int) : seg (ns.set k v) s = seg ns s := by
  unfold seg
  refine List.map_congr_left fun i hi => ?_
  have := List.mem_range.mp hi
  rw [getD_set, if_neg (by lia)]

def PS (ns : List Int) : Prop := ∃ k, k < 34 ∧ 2 ≤ ns.getD k 0 ∧ GG 0 0 0 (ns.set k (ns.getD k 0 - 2)) = true
def HonPair (ns : List Int) (h : Nat) : Prop := ns.getD (27 + h) 0 = 2 ∧ (∀ h', h' < 7 → h' ≠ h → ns.getD (27 + h') 0 % 3 = 0)
theorem ps_cases {ns : List Int} (hl : ns.length = 34) (hb : ∀ i, 0 ≤ ns.getD i 0 ∧ ns.getD i 0 ≤ 4) (h : PS ns) :
    (∃ s i, s < 3 ∧ i < 9 ∧ PairAt (seg ns s) i ∧ (∀ s', s' < 3 → s' ≠ s → GG 0 0 0 (seg ns s') = true) ∧ ∀ h, h < 7 → ns.getD (27 + h) 0 % 3 = 0) ∨
    (∃ h, h < 7 ∧ HonPair ns h ∧ ∀ s, s < 3 → GG 0 0 0 (seg ns s) = true) := by
  obtain ⟨k, hk, h2, hg⟩ := h
  obtain ⟨hs, hh⟩ := (gg34 (by simpa using hl)).mp hg
  by_cases h27 : k < 27
  · refine .inl ⟨k / 9, k % 9, by lia, by lia, ⟨?_, ?_⟩, fun s' hs' hne => ?_, fun h hh' => ?_⟩
    · rw [seg_get _ _ _ (by lia), show 9 * (k / 9) + k % 9 = k by lia]; exact h2
    · have := hs (k / 9) (by lia)
      have e : 9 * (k / 9) + k % 9 = k := by lia
      have := seg_set_in hl (s := k / 9) (i := k % 9) (by lia) (by lia) (ns.getD k 0 - 2)
      rw [e] at this
      rw [seg_get _ _ _ (by lia), e, ← this]
      exact hs (k / 9) (by lia)
    · have := hs s' hs'
      rwa [seg_set_out (by lia)] at this
    · have := (hh h hh').2
      rwa [getD_set, if_neg (by lia)] at this
  · refine .inr ⟨k - 27, by lia, ⟨?_, fun h' hh' hne => ?_⟩, fun s' hs' => ?_⟩
    · have := (hh (k - 27) (by lia)).2
      rw [show 27 + (k - 27) = k by lia] at this ⊢
      rw [getD_set, if_pos ⟨rfl, by lia⟩] at this
      have := hb k
      lia
    · have := (hh h' hh').2
      rwa [getD_set, if_neg (by lia)] at this
    · have := hs s' hs'
      rwa [seg_set_out (by lia)] at this
theorem ps_suit {ns : List Int} (hl : ns.length = 34) (hb : ∀ i, 0 ≤ ns.getD i 0 ∧ ns.getD i 0 ≤ 4) {s i : Nat} (hs : s < 3) (hi : i < 9) (hp : PairAt (seg ns s) i) (ho : ∀ s', s' < 3 → s' ≠ s → GG 0 0 0 (seg ns s') = true) (hh : ∀ h, h < 7 → ns.getD (27 + h) 0 % 3 = 0) : PS ns := by
  obtain ⟨h2, hg⟩ := hp
  rw [seg_get _ _ _ hi] at h2 hg
  refine ⟨9 * s + i, by lia, h2, (gg34 (by simpa using hl)).mpr ⟨fun s' hs' => ?_, fun h hh' => ?_⟩⟩
  · by_cases e : s' = s
    · subst e
      rw [seg_set_in hl hs hi]; exact hg
    · rw [seg_set_out (by lia)]; exact ho s' hs' e
  · rw [getD_set, if_neg (by lia)]
    exact ⟨(hb _).1, hh h hh'⟩
theorem ps_hon {ns : List Int} (hl : ns.length = 34) (hb : ∀ i, 0 ≤ ns.getD i 0 ∧ ns.getD i 0 ≤ 4) {h : Nat} (hh : h < 7) (hp : HonPair ns h) (ho : ∀ s', s' < 3 → GG 0 0 0 (seg ns s') = true) : PS ns := by
  obtain ⟨h2, hr⟩ := hp
  refine ⟨27 + h, by lia, by lia, (gg34 (by simpa using hl)).mpr ⟨fun s' hs' => ?_, fun h' hh' => ?_⟩⟩
  · rw [seg_set_out (by lia)]; exact ho s' hs'
  · rw [getD_set]
    by_cases e : h' = h
    · subst e
      rw [if_pos ⟨rfl, by lia⟩, h2]; decide
    · rw [if_neg (by lia)]
      exact ⟨(hb _).1, hr h' hh' e⟩

-- the seven honours as bits
def J5 (b0 b1 b2 b3 b4 : Bool) : Int := b2n b0 + 2 * b2n b1 + 4 * b2n b2 + 8 * b2n b3 + 16 * b2n b4
theorem five {t : Int} (h : 0 ≤ t ∧ t ≤ 4) : t = 0 ∨ t = 1 ∨ t = 2 ∨ t = 3 ∨ t = 4 := by lia
theorem pw_J5 {t : Int} (h : 0 ≤ t ∧ t ≤ 4) : 1 * 2 ^ t.toNat = J5 (t == 0) (t == 1) (t == 2) (t == 3) (t == 4) := by
  rcases five h with rfl | rfl | rfl | rfl | rfl <;> rfl
theorem or_J5 (b0 b1 b2 b3 b4 : Bool) {t : Int} (h : 0 ≤ t ∧ t ≤ 4) : Builtin.bitOr (J5 b0 b1 b2 b3 b4) (1 * 2 ^ t.toNat) = J5 (b0 || t == 0) (b1 || t == 1) (b2 || t == 2) (b3 || t == 3) (b4 || t == 4) := by
  rcases five h with rfl | rfl | rfl | rfl | rfl <;> cases b0 <;> cases b1 <;> cases b2 <;> cases b3 <;> cases b4 <;> rfl
theorem J5_ge (b0 b1 b2 b3 b4 : Bool) : decide (J5 b0 b1 b2 b3 b4 ≥ 16) = b4 := by
  cases b0 <;> cases b1 <;> cases b2 <;> cases b3 <;> cases b4 <;> rfl
theorem J5_3 (b0 b1 b2 b3 b4 : Bool) : (Builtin.bitAnd (J5 b0 b1 b2 b3 b4) 3 == 2) = (b1 && !b0) := by
  cases b0 <;> cases b1 <;> cases b2 <;> cases b3 <;> cases b4 <;> rfl
theorem J5_10 (b0 b1 b2 b3 b4 : Bool) : (Builtin.bitAnd (J5 b0 b1 b2 b3 b4) 10 != 0) = (b1 || b3) := by
  cases b0 <;> cases b1 <;> cases b2 <;> cases b3 <;> cases b4 <;> rfl
theorem J5_2 (b0 b1 b2 b3 b4 : Bool) : (Builtin.bitAnd (J5 b0 b1 b2 b3 b4) 2 != 0) = b1 := by
  cases b0 <;> cases b1 <;> cases b2 <;> cases b3 <;> cases b4 <;> rfl
theorem J5_4 (b0 b1 b2 b3 b4 : Bool) : (Builtin.bitAnd (J5 b0 b1 b2 b3 b4) 4 != 0) = b2 := by
  cases b0 <;> cases b1 <;> cases b2 <;> cases b3 <;> cases b4 <;> rfl
def hasv (ns : List Int) (v : Int) : Bool := ns.getD 27 0 == v || ns.getD 28 0 == v || ns.getD 29 0 == v || ns.getD 30 0 == v || ns.getD 31 0 == v || ns.getD 32 0 == v || ns.getD 33 0 == v
theorem jv_eq {ns : List Int} (hb : ∀ i, 0 ≤ ns.getD i 0 ∧ ns.getD i 0 ≤ 4) : Builtin.bitOr (Builtin.bitOr (Builtin.bitOr (Builtin.bitOr (Builtin.bitOr (Builtin.bitOr (1 * 2 ^ (ns.getD 27 0).toNat) (1 * 2 ^ (ns.getD 28 0).toNat)) (1 * 2 ^ (ns.getD 29 0).toNat)) (1 * 2 ^ (ns.getD 30 0).toNat)) (1 * 2 ^ (ns.getD 31 0).toNat)) (1 * 2 ^ (ns.getD 32 0).toNat)) (1 * 2 ^ (ns.getD 33 0).toNat) = J5 (hasv ns 0) (hasv ns 1) (hasv ns 2) (hasv ns 3) (hasv ns 4) := by
  rw [pw_J5 (hb 27), or_J5 _ _ _ _ _ (hb 28), or_J5 _ _ _ _ _ (hb 29), or_J5 _ _ _ _ _ (hb 30), or_J5 _ _ _ _ _ (hb 31), or_J5 _ _ _ _ _ (hb 32), or_J5 _ _ _ _ _ (hb 33)]
  rfl
theorem hasv_iff (ns : List Int) (v : Int) : hasv ns v = true ↔ ∃ h, h < 7 ∧ ns.getD (27 + h) 0 = v := by
  simp only [hasv, Bool.or_eq_true, beq_iff_eq]
  constructor
  · rintro ((((((h | h) | h) | h) | h) | h) | h)
    · exact ⟨0, by decide, h⟩
    · exact ⟨1, by decide, h⟩
    · exact ⟨2, by decide, h⟩
    · exact ⟨3, by decide, h⟩
    · exact ⟨4, by decide, h⟩
    · exact ⟨5, by decide, h⟩
    · exact ⟨6, by decide, h⟩
  · rintro ⟨h, hh, e⟩
    have : h = 0 ∨ h = 1 ∨ h = 2 ∨ h = 3 ∨ h = 4 ∨ h = 5 ∨ h = 6 := by lia
    rcases this with rfl | rfl | rfl | rfl | rfl | rfl | rfl
    · exact .inl (.inl (.inl (.inl (.inl (.inl e)))))
    · exact .inl (.inl (.inl (.inl (.inl (.inr e)))))
    · exact .inl (.inl (.inl (.inl (.inr e))))
    · exact .inl (.inl (.inl (.inr e)))
    · exact .inl (.inl (.inr e))
    · exact .inl (.inr e)
    · exact .inr e
theorem hasv_no {ns : List Int} {v : Int} (h : hasv ns v = false) (i : Nat) (hi : i < 7) : ns.getD (27 + i) 0 ≠ v := fun e => by
  have := (hasv_iff ns v).mpr ⟨i, hi, e⟩
  rw [h] at this; cases this
def prod13 (ns : List Int) : Int := ns.getD 0 0 * ns.getD 8 0 * ns.getD 9 0 * ns.getD 17 0 * ns.getD 18 0 * ns.getD 26 0 * ns.getD 27 0 * ns.getD 28 0 * ns.getD 29 0 * ns.getD 30 0 * ns.getD 31 0 * ns.getD 32 0 * ns.getD 33 0
def KOK (ns : List Int) : Prop := prod13 ns = 2
theorem dvd_two {a : Int} (hb : 0 ≤ a ∧ a ≤ 4) (h : a ∣ 2) : a = 1 ∨ a = 2 := by
  rcases five hb with rfl | rfl | rfl | rfl | rfl
  · exact absurd h (by decide)
  · exact .inl rfl
  · exact .inr rfl
  · exact absurd h (by decide)
  · exact absurd h (by decide)
theorem kok_hon {ns : List Int} (hb : ∀ i, 0 ≤ ns.getD i 0 ∧ ns.getD i 0 ≤ 4) (h : KOK ns) : (∀ i, i < 7 → ns.getD (27 + i) 0 = 1 ∨ ns.getD (27 + i) 0 = 2) ∧ hasv ns 1 = true := by
  unfold KOK prod13 at h
  have h33 : ns.getD 33 0 ∣ 2 := h ▸ Int.dvd_mul_left _ _
  have d32 := h ▸ Int.dvd_mul_right (ns.getD 0 0 * ns.getD 8 0 * ns.getD 9 0 * ns.getD 17 0 * ns.getD 18 0 * ns.getD 26 0 * ns.getD 27 0 * ns.getD 28 0 * ns.getD 29 0 * ns.getD 30 0 * ns.getD 31 0 * ns.getD 32 0) (ns.getD 33 0)
  have h32 : ns.getD 32 0 ∣ 2 := Int.dvd_trans (Int.dvd_mul_left (ns.getD 0 0 * ns.getD 8 0 * ns.getD 9 0 * ns.getD 17 0 * ns.getD 18 0 * ns.getD 26 0 * ns.getD 27 0 * ns.getD 28 0 * ns.getD 29 0 * ns.getD 30 0 * ns.getD 31 0) (ns.getD 32 0)) d32
  have d31 := Int.dvd_trans (Int.dvd_mul_right (ns.getD 0 0 * ns.getD 8 0 * ns.getD 9 0 * ns.getD 17 0 * ns.getD 18 0 * ns.getD 26 0 * ns.getD 27 0 * ns.getD 28 0 * ns.getD 29 0 * ns.getD 30 0 * ns.getD 31 0) (ns.getD 32 0)) d32
  have h31 : ns.getD 31 0 ∣ 2 := Int.dvd_trans (Int.dvd_mul_left (ns.getD 0 0 * ns.getD 8 0 * ns.getD 9 0 * ns.getD 17 0 * ns.getD 18 0 * ns.getD 26 0 * ns.getD 27 0 * ns.getD 28 0 * ns.getD 29 0 * ns.getD 30 0) (ns.getD 31 0)) d31
  have d30 := Int.dvd_trans (Int.dvd_mul_right (ns.getD 0 0 * ns.getD 8 0 * ns.getD 9 0 * ns.getD 17 0 * ns.getD 18 0 * ns.getD 26 0 * ns.getD 27 0 * ns.getD 28 0 * ns.getD 29 0 * ns.getD 30 0) (ns.getD 31 0)) d31
  have h30 : ns.getD 30 0 ∣ 2 := Int.dvd_trans (Int.dvd_mul_left (ns.getD 0 0 * ns.getD 8 0 * ns.getD 9 0 * ns.getD 17 0 * ns.getD 18 0 * ns.getD 26 0 * ns.getD 27 0 * ns.getD 28 0 * ns.getD 29 0) (ns.getD 30 0)) d30
  have d29 := Int.dvd_trans (Int.dvd_mul_right (ns.getD 0 0 * ns.getD 8 0 * ns.getD 9 0 * ns.getD 17 0 * ns.getD 18 0 * ns.getD 26 0 * ns.getD 27 0 * ns.getD 28 0 * ns.getD 29 0) (ns.getD 30 0)) d30
  have h29 : ns.getD 29 0 ∣ 2 := Int.dvd_trans (Int.dvd_mul_left (ns.getD 0 0 * ns.getD 8 0 * ns.getD 9 0 * ns.getD 17 0 * ns.getD 18 0 * ns.getD 26 0 * ns.getD 27 0 * ns.getD 28 0) (ns.getD 29 0)) d29
  have d28 := Int.dvd_trans (Int.dvd_mul_right (ns.getD 0 0 * ns.getD 8 0 * ns.getD 9 0 * ns.getD 17 0 * ns.getD 18 0 * ns.getD 26 0 * ns.getD 27 0 * ns.getD 28 0) (ns.getD 29 0)) d29
  have h28 : ns.getD 28 0 ∣ 2 := Int.dvd_trans (Int.dvd_mul_left (ns.getD 0 0 * ns.getD 8 0 * ns.getD 9 0 * ns.getD 17 0 * ns.getD 18 0 * ns.getD 26 0 * ns.getD 27 0) (ns.getD 28 0)) d28
  have d27 := Int.dvd_trans (Int.dvd_mul_right (ns.getD 0 0 * ns.getD 8 0 * ns.getD 9 0 * ns.getD 17 0 * ns.getD 18 0 * ns.getD 26 0 * ns.getD 27 0) (ns.getD 28 0)) d28
  have h27 : ns.getD 27 0 ∣ 2 := Int.dvd_trans (Int.dvd_mul_left (ns.getD 0 0 * ns.getD 8 0 * ns.getD 9 0 * ns.getD 17 0 * ns.getD 18 0 * ns.getD 26 0) (ns.getD 27 0)) d27
  refine ⟨fun i hi => ?_, ?_⟩
  · have : i = 0 ∨ i = 1 ∨ i = 2 ∨ i = 3 ∨ i = 4 ∨ i = 5 ∨ i = 6 := by lia
    rcases this with rfl | rfl | rfl | rfl | rfl | rfl | rfl
    · exact dvd_two (hb 27) h27
    · exact dvd_two (hb 28) h28
    · exact dvd_two (hb 29) h29
    · exact dvd_two (hb 30) h30
    · exact dvd_two (hb 31) h31
    · exact dvd_two (hb 32) h32
    · exact dvd_two (hb 33) h33
  · rcases dvd_two (hb 32) h32 with e | e
    · exact (hasv_iff ns 1).mpr ⟨5, by decide, e⟩
    · rcases dvd_two (hb 33) h33 with e' | e'
      · exact (hasv_iff ns 1).mpr ⟨6, by decide, e'⟩
      · rw [e, e'] at h
        lia
def cnt2 (ns : List Int) : Int := (((List.range 34).map fun i => (ns.getD i 0 == 2)).map b2n).sum
def CHI (ns : List Int) : Prop := hasv ns 1 = false ∧ hasv ns 3 = false ∧ hasv ns 4 = false ∧ cnt2 ns = 7
def AG (ns : List Int) : Prop := KOK ns ∨ CHI ns ∨ PS ns
open Classical in
noncomputable def AGb (ns : List Int) : Bool := decide (AG ns)
open Classical in
theorem agb_t {ns : List Int} (h : AG ns) : AGb ns = true := decide_eq_true h
open Classical in
theorem agb_f {ns : List Int} (h : ¬ AG ns) : AGb ns = false := decide_eq_false h
open Classical in
theorem ps_hon_mod {ns : List Int} (hl : ns.length = 34) (hb : ∀ i, 0 ≤ ns.getD i 0 ∧ ns.getD i 0 ≤ 4) (h : PS ns) (i : Nat) (hi : i < 7) : ns.getD (27 + i) 0 = 0 ∨ ns.getD (27 + i) 0 = 2 ∨ ns.getD (27 + i) 0 = 3 := by
  have b := hb (27 + i)
  rcases ps_cases hl hb h with ⟨s, j, _, _, _, _, hh⟩ | ⟨j, hj, ⟨e, hh⟩, _⟩
  · have := hh i hi; lia
  · by_cases q : i = j
    · subst q; exact .inr (.inl e)
    · have := hh i hi q; lia
section
variable {ns : List Int} (hl : ns.length = 34) (hb : ∀ i, 0 ≤ ns.getD i 0 ∧ ns.getD i 0 ≤ 4)
include hb
theorem lf_kok0 (h : (hasv ns 1 && !hasv ns 0) = false ∨ prod13 ns ≠ 2) : ¬ KOK ns := fun hk => by
  rcases h with h | h
  · obtain ⟨h1, h2⟩ := kok_hon hb hk
    have h0 : hasv ns 0 = false := by
      rw [Bool.eq_false_iff]
      intro q
      obtain ⟨i, hi, e⟩ := (hasv_iff ns 0).mp q
      rcases h1 i hi with e' | e' <;> rw [e] at e' <;> cases e'
    rw [h2, h0] at h; cases h
  · exact h hk
include hl
theorem lf_4 (h : hasv ns 4 = true) : ¬ AG ns := by
  obtain ⟨i, hi, e⟩ := (hasv_iff ns 4).mp h
  rintro (hk | hc | hp)
  · rcases (kok_hon hb hk).1 i hi with e' | e' <;> rw [e] at e' <;> cases e'
  · rw [hc.2.2.1] at h; cases h
  · rcases ps_hon_mod hl hb hp i hi with e' | e' | e' <;> rw [e] at e' <;> cases e'
theorem lf_1 (hk : ¬ KOK ns) (h : hasv ns 1 = true) : ¬ AG ns := by
  obtain ⟨i, hi, e⟩ := (hasv_iff ns 1).mp h
  rintro (hk' | hc | hp)
  · exact hk hk'
  · rw [hc.1] at h; cases h
  · rcases ps_hon_mod hl hb hp i hi with e' | e' | e' <;> rw [e] at e' <;> cases e'
theorem ps_sums (h : PS ns) : (∃ s, s < 3 ∧ (seg ns s).sum % 3 = 2 ∧ (∀ s', s' < 3 → s' ≠ s → (seg ns s').sum % 3 = 0) ∧ ∀ i, i < 7 → ns.getD (27 + i) 0 ≠ 2) ∨
    ((∀ s, s < 3 → (seg ns s).sum % 3 = 0) ∧ ∃ i, i < 7 ∧ ns.getD (27 + i) 0 = 2 ∧ ∀ i', i' < 7 → i' ≠ i → ns.getD (27 + i') 0 ≠ 2) := by
  rcases ps_cases hl hb h with ⟨s, j, hs, hj, hp, ho, hh⟩ | ⟨j, hj, ⟨e, hh⟩, ho⟩
  · refine .inl ⟨s, hs, pair_sum (seg_len _ _) hj hp, fun s' hs' hne => (gr_sums (seg_len _ _) (ho s' hs' hne)).1, fun i hi q => ?_⟩
    have := hh i hi
    rw [q] at this; cases this
  · refine .inr ⟨fun s hs => (gr_sums (seg_len _ _) (ho s hs)).1, j, hj, e, fun i hi hne q => ?_⟩
    have := hh i hi hne
    rw [q] at this; cases this
end

def pairs (ns : List Int) (n0 n1 n2 : Int) : Int := b2n (n0 == 2) + b2n (n1 == 2) + b2n (n2 == 2) + b2n (ns.getD 27 0 == 2) + b2n (ns.getD 28 0 == 2) + b2n (ns.getD 29 0 == 2) + b2n (ns.getD 30 0 == 2) + b2n (ns.getD 31 0 == 2) + b2n (ns.getD 32 0 == 2) + b2n (ns.getD 33 0 == 2)
theorem b2n_01 (b : Bool) : b2n b = 0 ∨ b2n b = 1 := by cases b <;> simp [b2n]
theorem b2n_t {a : Int} (h : a = 2) : b2n (a == 2) = 1 := by subst h; rfl
theorem b2n_f {a : Int} (h : a ≠ 2) : b2n (a == 2) = 0 := by
  have : (a == 2) = false := by simpa using h
  rw [this]; rfl
section
variable {ns : List Int} (hl : ns.length = 34) (hb : ∀ i, 0 ≤ ns.getD i 0 ∧ ns.getD i 0 ≤ 4) {n0 n1 n2 : Int} (e0 : n0 = (seg ns 0).sum % 3) (e1 : n1 = (seg ns 1).sum % 3) (e2 : n2 = (seg ns 2).sum % 3)
include hl hb e0 e1 e2
theorem ps_n1 (h : n0 = 1 ∨ n1 = 1 ∨ n2 = 1) : ¬ PS ns := fun hp => by
  have key : ∀ s, s < 3 → (seg ns s).sum % 3 ≠ 1 := fun s hs => by
    rcases ps_sums hl hb hp with ⟨s', hs', h2, ho, _⟩ | ⟨ho, _⟩
    · by_cases q : s = s'
      · subst q; lia
      · have := ho s hs q; lia
    · have := ho s hs; lia
  have k0 := key 0 (by decide)
  have k1 := key 1 (by decide)
  have k2 := key 2 (by decide)
  lia
theorem ps_pairs (hp : PS ns) : pairs ns n0 n1 n2 = 1 := by
  unfold pairs
  rcases ps_sums hl hb hp with ⟨s, hs, h2, ho, hh⟩ | ⟨ho, i, hi, h2, hh⟩
  · rw [b2n_f (hh 0 (by decide)), b2n_f (hh 1 (by decide)), b2n_f (hh 2 (by decide)), b2n_f (hh 3 (by decide)), b2n_f (hh 4 (by decide)), b2n_f (hh 5 (by decide)), b2n_f (hh 6 (by decide))]
    have : s = 0 ∨ s = 1 ∨ s = 2 := by lia
    rcases this with rfl | rfl | rfl
    · have a1 := ho 1 (by decide) (by decide)
      have a2 := ho 2 (by decide) (by decide)
      rw [b2n_t (by lia), b2n_f (by lia), b2n_f (by lia)]; rfl
    · have a1 := ho 0 (by decide) (by decide)
      have a2 := ho 2 (by decide) (by decide)
      rw [b2n_f (by lia), b2n_t (by lia), b2n_f (by lia)]; rfl
    · have a1 := ho 0 (by decide) (by decide)
      have a2 := ho 1 (by decide) (by decide)
      rw [b2n_f (by lia), b2n_f (by lia), b2n_t (by lia)]; rfl
  · have a0 := ho 0 (by decide)
    have a1 := ho 1 (by decide)
    have a2 := ho 2 (by decide)
    rw [b2n_f (a := n0) (by lia), b2n_f (a := n1) (by lia), b2n_f (a := n2) (by lia)]
    have : i = 0 ∨ i = 1 ∨ i = 2 ∨ i = 3 ∨ i = 4 ∨ i = 5 ∨ i = 6 := by lia
    rcases this with rfl | rfl | rfl | rfl | rfl | rfl | rfl
    · rw [b2n_t h2, b2n_f (hh 1 (by decide) (by decide)), b2n_f (hh 2 (by decide) (by decide)), b2n_f (hh 3 (by decide) (by decide)), b2n_f (hh 4 (by decide) (by decide)), b2n_f (hh 5 (by decide) (by decide)), b2n_f (hh 6 (by decide) (by decide))]; rfl
    · rw [b2n_f (hh 0 (by decide) (by decide)), b2n_t h2, b2n_f (hh 2 (by decide) (by decide)), b2n_f (hh 3 (by decide) (by decide)), b2n_f (hh 4 (by decide) (by decide)), b2n_f (hh 5 (by decide) (by decide)), b2n_f (hh 6 (by decide) (by decide))]; rfl
    · rw [b2n_f (hh 0 (by decide) (by decide)), b2n_f (hh 1 (by decide) (by decide)), b2n_t h2, b2n_f (hh 3 (by decide) (by decide)), b2n_f (hh 4 (by decide) (by decide)), b2n_f (hh 5 (by decide) (by decide)), b2n_f (hh 6 (by decide) (by decide))]; rfl
    · rw [b2n_f (hh 0 (by decide) (by decide)), b2n_f (hh 1 (by decide) (by decide)), b2n_f (hh 2 (by decide) (by decide)), b2n_t h2, b2n_f (hh 4 (by decide) (by decide)), b2n_f (hh 5 (by decide) (by decide)), b2n_f (hh 6 (by decide) (by decide))]; rfl
    · rw [b2n_f (hh 0 (by decide) (by decide)), b2n_f (hh 1 (by decide) (by decide)), b2n_f (hh 2 (by decide) (by decide)), b2n_f (hh 3 (by decide) (by decide)), b2n_t h2, b2n_f (hh 5 (by decide) (by decide)), b2n_f (hh 6 (by decide) (by decide))]; rfl
    · rw [b2n_f (hh 0 (by decide) (by decide)), b2n_f (hh 1 (by decide) (by decide)), b2n_f (hh 2 (by decide) (by decide)), b2n_f (hh 3 (by decide) (by decide)), b2n_f (hh 4 (by decide) (by decide)), b2n_t h2, b2n_f (hh 6 (by decide) (by decide))]; rfl
    · rw [b2n_f (hh 0 (by decide) (by decide)), b2n_f (hh 1 (by decide) (by decide)), b2n_f (hh 2 (by decide) (by decide)), b2n_f (hh 3 (by decide) (by decide)), b2n_f (hh 4 (by decide) (by decide)), b2n_f (hh 5 (by decide) (by decide)), b2n_t h2]; rfl
end
def pairB (ns : List Int) (n0 n1 n2 : Int) : List Bool := [n0 == 2, n1 == 2, n2 == 2, ns.getD 27 0 == 2, ns.getD 28 0 == 2, ns.getD 29 0 == 2, ns.getD 30 0 == 2, ns.getD 31 0 == 2, ns.getD 32 0 == 2, ns.getD 33 0 == 2]
theorem pairs_sum (ns : List Int) (n0 n1 n2 : Int) : pairs ns n0 n1 n2 = ((pairB ns n0 n1 n2).map b2n).sum := by
  simp only [pairs, pairB, List.map_cons, List.map_nil, List.sum_cons, List.sum_nil, Int.add_assoc, Int.add_zero]
theorem b2n_get (l : List Bool) (i : Nat) : 0 ≤ (l.map b2n).getD i 0 := by
  rw [List.getD_eq_getElem?_getD, List.getElem?_map]
  cases l[i]? with
  | none => exact Int.le_refl _
  | some b => cases b <;> decide
theorem pairB_hon (ns : List Int) (n0 n1 n2 : Int) : ∀ j, j < 7 → ((pairB ns n0 n1 n2).map b2n).getD (3 + j) 0 = b2n (ns.getD (27 + j) 0 == 2)
  | 0, _ => rfl
  | 1, _ => rfl
  | 2, _ => rfl
  | 3, _ => rfl
  | 4, _ => rfl
  | 5, _ => rfl
  | 6, _ => rfl
theorem pairs_one {ns : List Int} {n0 n1 n2 : Int} (h : pairs ns n0 n1 n2 = 1) (i : Nat) (hi : i < 7) (h2 : ns.getD (27 + i) 0 = 2) : n0 ≠ 2 ∧ n1 ≠ 2 ∧ n2 ≠ 2 ∧ ∀ j, j < 7 → j ≠ i → ns.getD (27 + j) 0 ≠ 2 := by
  rw [pairs_sum] at h
  have e1 := pairB_hon ns n0 n1 n2 i hi
  rw [b2n_t h2] at e1
  have key : ∀ a, a < 10 → a ≠ 3 + i → ((pairB ns n0 n1 n2).map b2n).getD a 0 ≠ 1 := fun a ha hne hc => by
    have := sum_idx [3 + i, a] ((pairB ns n0 n1 n2).map b2n) (b2n_get _) (by simp [Ne.symm hne]) (fun z hz => by
      simp only [List.mem_cons, List.not_mem_nil, or_false] at hz
      show z < 10
      lia)
    simp only [List.map_cons, List.map_nil, List.sum_cons, List.sum_nil, e1, hc, h] at this
    exact absurd this (by decide)
  refine ⟨fun q => key 0 (by decide) (by lia) (b2n_t q), fun q => key 1 (by decide) (by lia) (b2n_t q), fun q => key 2 (by decide) (by lia) (b2n_t q), fun j hj hne q => key (3 + j) (by lia) (by lia) ?_⟩
  rw [pairB_hon ns n0 n1 n2 j hj, b2n_t q]
theorem pairs_suit {ns : List Int} {n0 n1 n2 : Int} (h : pairs ns n0 n1 n2 = 1) (hh : hasv ns 2 = false) : (n0 = 2 ∧ n1 ≠ 2 ∧ n2 ≠ 2) ∨ (n0 ≠ 2 ∧ n1 = 2 ∧ n2 ≠ 2) ∨ (n0 ≠ 2 ∧ n1 ≠ 2 ∧ n2 = 2) := by
  unfold pairs at h
  have hn := fun i hi => hasv_no hh i hi
  rw [b2n_f (hn 0 (by decide)), b2n_f (hn 1 (by decide)), b2n_f (hn 2 (by decide)), b2n_f (hn 3 (by decide)), b2n_f (hn 4 (by decide)), b2n_f (hn 5 (by decide)), b2n_f (hn 6 (by decide))] at h
  by_cases a : n0 = 2 <;> by_cases b : n1 = 2 <;> by_cases c : n2 = 2
  all_goals first
    | (rw [b2n_t a, b2n_t b, b2n_t c] at h; lia)
    | (rw [b2n_t a, b2n_t b, b2n_f c] at h; lia)
    | (rw [b2n_t a, b2n_f b, b2n_t c] at h; lia)
    | exact .inl ⟨a, b, c⟩
    | (rw [b2n_f a, b2n_t b, b2n_t c] at h; lia)
    | exact .inr (.inl ⟨a, b, c⟩)
    | exact .inr (.inr ⟨a, b, c⟩)
    | (rw [b2n_f a, b2n_f b, b2n_f c] at h; lia)
section
variable {ns : List Int} (hl : ns.length = 34) (hb : ∀ i, 0 ≤ ns.getD i 0 ∧ ns.getD i 0 ≤ 4)
include hb
theorem suit_iff (s : Nat) : GG 0 0 0 (seg ns s) = true ↔ (seg ns s).sum % 3 = 0 ∧ wsum (seg ns s) % 3 = 0 ∧ mentsu (num (seg ns s)) = true := by
  constructor
  · intro h
    exact ⟨(gr_sums (seg_len _ _) h).1, (gr_sums (seg_len _ _) h).2, ((mentsu_gr (seg_len _ _) (seg_four hb s)).mp h).1⟩
  · rintro ⟨h1, _, h3⟩
    exact (mentsu_gr (seg_len _ _) (seg_four hb s)).mpr ⟨h3, h1⟩
include hl
theorem honours {i : Nat} (h1 : hasv ns 1 = false) (h4 : hasv ns 4 = false) (hi : i < 7) : ns.getD (27 + i) 0 = 0 ∨ ns.getD (27 + i) 0 = 2 ∨ ns.getD (27 + i) 0 = 3 := by
  have := hb (27 + i)
  have a := hasv_no h1 i hi
  have b := hasv_no h4 i hi
  lia
theorem ps_iff_hon (h1 : hasv ns 1 = false) (h4 : hasv ns 4 = false) (h2 : hasv ns 2 = true) {n0 n1 n2 : Int} (hp : pairs ns n0 n1 n2 = 1) (e0 : n0 = (seg ns 0).sum % 3) (e1 : n1 = (seg ns 1).sum % 3) (e2 : n2 = (seg ns 2).sum % 3) :
    PS ns ↔ GG 0 0 0 (seg ns 0) = true ∧ GG 0 0 0 (seg ns 1) = true ∧ GG 0 0 0 (seg ns 2) = true := by
  obtain ⟨i, hi, e⟩ := (hasv_iff ns 2).mp h2
  obtain ⟨a0, a1, a2, ho⟩ := pairs_one hp i hi e
  constructor
  · intro h
    rcases ps_cases hl hb h with ⟨s, j, hs, hj, hpa, _, hh⟩ | ⟨j, hj, _, hg⟩
    · have := hh i hi
      rw [e] at this; cases this
    · exact ⟨hg 0 (by decide), hg 1 (by decide), hg 2 (by decide)⟩
  · rintro ⟨g0, g1, g2⟩
    refine ps_hon hl hb hi ⟨e, fun j hj hne => ?_⟩ fun s hs => ?_
    · have := honours hl hb h1 h4 hj
      have := ho j hj hne
      lia
    · have : s = 0 ∨ s = 1 ∨ s = 2 := by lia
      rcases this with rfl | rfl | rfl <;> assumption
theorem ps_iff_suit (h1 : hasv ns 1 = false) (h4 : hasv ns 4 = false) (h2 : hasv ns 2 = false) {s : Nat} (hs : s < 3) (hn : (seg ns s).sum % 3 = 2) :
    PS ns ↔ (∀ s', s' < 3 → s' ≠ s → GG 0 0 0 (seg ns s') = true) ∧ atama (wsum (seg ns s) % 3) (num (seg ns s)) = true := by
  rw [atama_iff (seg_len _ _) (seg_four hb s) hn]
  constructor
  · intro h
    rcases ps_cases hl hb h with ⟨s', j, hs', hj, hpa, ho, hh⟩ | ⟨j, hj, ⟨e, _⟩, hg⟩
    · have : s' = s := by
        refine Classical.byContradiction fun q => ?_
        have := (gr_sums (seg_len _ _) (ho s hs (fun e => q e.symm))).1
        lia
      subst this
      exact ⟨ho, j, hj, hpa⟩
    · exact absurd e (hasv_no h2 j hj)
  · rintro ⟨ho, j, hj, hpa⟩
    refine ps_suit hl hb hs hj hpa ho fun i hi => ?_
    have := honours hl hb h1 h4 hi
    have := hasv_no h2 i hi
    lia
end
theorem or_zero {a b : Int} (ha : 0 ≤ a) (hb : 0 ≤ b) : 0 ≤ Builtin.bitOr a b ∧ (Builtin.bitOr a b = 0 ↔ a = 0 ∧ b = 0) := by
  rw [bitOr_and, bitAnd_pp ha hb]
  have h1 : ((a.toNat &&& b.toNat : Nat) : Int) ≤ a := by
    have := @Nat.and_le_left a.toNat b.toNat
    lia
  have h2 : ((a.toNat &&& b.toNat : Nat) : Int) ≤ b := by
    have := @Nat.and_le_right a.toNat b.toNat
    lia
  lia

def twos (ns : List Int) : List Int := ns.filter fun a => a == 2
theorem cnt2_twos {ns : List Int} (hl : ns.length = 34) : cnt2 ns = ((twos ns).length : Int) := by
  have gen : ∀ l : List Int, ((l.map fun a => (a == 2)).map b2n).sum = ((twos l).length : Int) := by
    intro l
    induction l with
    | nil => rfl
    | cons a l ih =>
      rw [List.map_cons, List.map_cons, List.sum_cons, ih]
      unfold twos
      by_cases h : a = 2
      · subst h; simp [b2n]; lia
      · have : (a == 2) = false := by simpa using h
        rw [List.filter_cons, this]; simp [b2n]
  have e : cnt2 ns = (((((List.range 34).map fun i => ns.getD i 0)).map fun a => (a == 2)).map b2n).sum := by
    unfold cnt2; rw [List.map_map (l := List.range 34)]; rfl
  rw [e, ← list34 hl, gen]
theorem twos_sum : ∀ l : List Int, (∀ a ∈ l, 0 ≤ a) → 2 * ((twos l).length : Int) ≤ l.sum ∧ (l.sum = 2 * ((twos l).length : Int) → ∀ a ∈ l, a = 0 ∨ a = 2)
  | [], _ => ⟨by simp [twos], fun _ a h => nomatch h⟩
  | a :: l, h => by
    obtain ⟨i1, i2⟩ := twos_sum l fun b hb => h b (.tail _ hb)
    have ha := h a (.head _)
    rw [List.sum_cons]
    by_cases e : a = 2
    · have et : (twos (a :: l)).length = (twos l).length + 1 := by subst e; simp [twos]
      rw [et]
      refine ⟨by lia, fun q b hb => ?_⟩
      rcases List.mem_cons.mp hb with rfl | hb
      · exact .inr e
      · exact i2 (by lia) b hb
    · have et : twos (a :: l) = twos l := by
        have : (a == 2) = false := by simpa using e
        simp [twos, List.filter_cons, this]
      rw [et]
      refine ⟨by lia, fun q b hb => ?_⟩
      rcases List.mem_cons.mp hb with rfl | hb
      · exact .inl (by lia)
      · exact i2 (by lia) b hb
theorem mem_getD' {ns : List Int} {a : Int} (h : a ∈ ns) : ∃ i, ns.getD i 0 = a := by
  obtain ⟨i, hi, rfl⟩ := List.mem_iff_getElem.mp h
  exact ⟨i, by simp [List.getD, hi]⟩
theorem getD_mem' (ns : List Int) (i : Nat) : ns.getD i 0 = 0 ∨ ns.getD i 0 ∈ ns := by
  by_cases h : i < ns.length
  · exact .inr (by simp [List.getD, h])
  · exact .inl (by simp [List.getD, List.getElem?_eq_none (Nat.le_of_not_lt h)])
def prodL : List Int → Int
  | [] => 1
  | a :: l => a * prodL l
theorem prodL_one : ∀ l : List Int, (∀ a ∈ l, 0 ≤ a ∧ a ≤ 4) → (prodL l = 1 ↔ (∀ a ∈ l, 1 ≤ a) ∧ l.sum = l.length)
  | [], _ => by simp [prodL]
  | a :: l, h => by
    have ih := prodL_one l fun b hb => h b (.tail _ hb)
    have ha := h a (.head _)
    have low : ∀ l : List Int, (∀ a ∈ l, 1 ≤ a) → (l.length : Int) ≤ l.sum := by
      intro l
      induction l with
      | nil => intro _; simp
      | cons b l ih => intro h; have := ih (fun c hc => h c (.tail _ hc)); have := h b (.head _); simp only [List.sum_cons, List.length_cons]; lia
    have e : prodL (a :: l) = 1 ↔ a = 1 ∧ prodL l = 1 := by
      simp only [prodL]
      rcases five ha with rfl | rfl | rfl | rfl | rfl <;> lia
    rw [e, ih]
    simp only [List.sum_cons, List.length_cons, List.forall_mem_cons]
    constructor
    · rintro ⟨h1, h2, h3⟩; exact ⟨⟨by lia, h2⟩, by lia⟩
    · rintro ⟨⟨h1, h2⟩, h3⟩
      have := low l h2
      exact ⟨by lia, h2, by lia⟩
theorem prodL_two : ∀ l : List Int, (∀ a ∈ l, 0 ≤ a ∧ a ≤ 4) → (prodL l = 2 ↔ (∀ a ∈ l, 1 ≤ a) ∧ l.sum = l.length + 1)
  | [], _ => by simp [prodL]
  | a :: l, h => by
    have ih := prodL_two l fun b hb => h b (.tail _ hb)
    have i1 := prodL_one l fun b hb => h b (.tail _ hb)
    have ha := h a (.head _)
    have low : ∀ l : List Int, (∀ a ∈ l, 1 ≤ a) → (l.length : Int) ≤ l.sum := by
      intro l
      induction l with
      | nil => intro _; simp
      | cons b l ih => intro h; have := ih (fun c hc => h c (.tail _ hc)); have := h b (.head _); simp only [List.sum_cons, List.length_cons]; lia
    have e : prodL (a :: l) = 2 ↔ (a = 1 ∧ prodL l = 2) ∨ (a = 2 ∧ prodL l = 1) := by
      simp only [prodL]
      rcases five ha with rfl | rfl | rfl | rfl | rfl <;> lia
    rw [e, ih, i1]
    simp only [List.sum_cons, List.length_cons, List.forall_mem_cons]
    constructor
    · rintro (⟨h1, h2, h3⟩ | ⟨h1, h2, h3⟩) <;> exact ⟨⟨by lia, h2⟩, by lia⟩
    · rintro ⟨⟨h1, h2⟩, h3⟩
      have := low l h2
      have : a = 1 ∨ a = 2 := by lia
      rcases this with rfl | rfl
      · exact .inl ⟨rfl, h2, by lia⟩
      · exact .inr ⟨rfl, h2, by lia⟩
def ends (ns : List Int) : List Int := [ns.getD 0 0, ns.getD 8 0, ns.getD 9 0, ns.getD 17 0, ns.getD 18 0, ns.getD 26 0, ns.getD 27 0, ns.getD 28 0, ns.getD 29 0, ns.getD 30 0, ns.getD 31 0, ns.getD 32 0, ns.getD 33 0]
theorem kok_iff {ns : List Int} (hb : ∀ i, 0 ≤ ns.getD i 0 ∧ ns.getD i 0 ≤ 4) : KOK ns ↔ (∀ a ∈ ends ns, 1 ≤ a) ∧ (ends ns).sum = 14 := by
  have e : prod13 ns = prodL (ends ns) := by simp only [prod13, ends, prodL, Int.mul_assoc, Int.mul_one]
  unfold KOK
  rw [e, prodL_two (ends ns) fun a ha => by
    simp only [ends, List.mem_cons, List.not_mem_nil, or_false] at ha
    rcases ha with rfl | rfl | rfl | rfl | rfl | rfl | rfl | rfl | rfl | rfl | rfl | rfl | rfl <;> exact hb _]
  rfl

def exG : Nat → List Int → List Int
  | _, [] => []
  | i, c :: t => List.replicate c.toNat (i : Int) ++ exG (i + 1) t
def expand (ns : List Int) : List Int := exG 0 ns
theorem exG_mem : ∀ (ns : List Int) (i : Nat) (a : Int), a ∈ exG i ns ↔ ∃ j : Nat, a = (i + j : Nat) ∧ j < ns.length ∧ 1 ≤ ns.getD j 0
  | [], i, a => by simp [exG]
  | c :: t, i, a => by
    unfold exG
    rw [List.mem_append, exG_mem t (i + 1) a, List.mem_replicate]
    constructor
    · rintro (⟨h1, h2⟩ | ⟨j, h1, h2, h3⟩)
      · exact ⟨0, by lia, by simp, by simp; lia⟩
      · exact ⟨j + 1, by lia, by simpa using h2, by simpa using h3⟩
    · rintro ⟨j, h1, h2, h3⟩
      cases j with
      | zero => left; simp at h3; exact ⟨by lia, by lia⟩
      | succ j => right; exact ⟨j, by lia, by simpa using h2, by simpa using h3⟩
theorem exG_erase : ∀ (ns : List Int) (i j : Nat), j < ns.length → 1 ≤ ns.getD j 0 → (exG i ns).erase ((i + j : Nat) : Int) = exG i (ns.set j (ns.getD j 0 - 1))
  | [], _, _, h, _ => by simp at h
  | c :: t, i, 0, _, h1 => by
    simp only [List.getD_cons_zero] at h1
    simp only [List.getD_cons_zero, List.set_cons_zero, exG, Nat.add_zero]
    have e : c.toNat = (c - 1).toNat + 1 := by lia
    rw [e, List.replicate_succ, List.cons_append, List.erase_cons_head]
  | c :: t, i, j + 1, h, h1 => by
    simp only [List.getD_cons_succ] at h1
    simp only [List.length_cons] at h
    simp only [List.getD_cons_succ, List.set_cons_succ, exG]
    have ih := exG_erase t (i + 1) j (by lia) h1
    have e : ((i + (j + 1) : Nat) : Int) = ((i + 1 + j : Nat) : Int) := by lia
    rw [List.erase_append_right, e, ih]
    intro hm
    have := (List.mem_replicate.mp hm).2
    lia
theorem exG_length : ∀ (ns : List Int) (i : Nat), (∀ a ∈ ns, 0 ≤ a) → ((exG i ns).length : Int) = ns.sum
  | [], _, _ => by simp [exG]
  | c :: t, i, h => by
    have := exG_length t (i + 1) fun a ha => h a (.tail _ ha)
    have hc := h c (.head _)
    simp only [exG, List.length_append, List.length_replicate, List.sum_cons]
    lia
theorem exG_zeros : ∀ (k i : Nat) (t : List Int), exG i (List.replicate k 0 ++ t) = exG (i + k) t
  | 0, i, t => by simp
  | k + 1, i, t => by
    rw [List.replicate_succ, List.cons_append]
    simp only [exG, Int.toNat_zero, List.replicate_zero, List.nil_append]
    rw [exG_zeros k (i + 1) t]
    congr 1; lia
theorem expand_mem {ns : List Int} {a : Int} : a ∈ expand ns ↔ ∃ j : Nat, a = (j : Int) ∧ j < ns.length ∧ 1 ≤ ns.getD j 0 := by
  unfold expand
  rw [exG_mem]; simp
theorem expand_erase {ns : List Int} {j : Nat} (h : j < ns.length) (h1 : 1 ≤ ns.getD j 0) : (expand ns).erase (j : Int) = expand (ns.set j (ns.getD j 0 - 1)) := by
  have := exG_erase ns 0 j h h1
  simpa [expand] using this
theorem all_of_get {ns : List Int} (h : ∀ i, 0 ≤ ns.getD i 0) : ∀ a ∈ ns, 0 ≤ a := fun a ha => by obtain ⟨i, rfl⟩ := mem_getD' ha; exact h i
theorem expand_length {ns : List Int} (h : ∀ i, 0 ≤ ns.getD i 0) : ((expand ns).length : Int) = ns.sum := exG_length ns 0 (all_of_get h)
theorem expand_nil {ns : List Int} (hl : ns.length = 34) (h : ∀ i, 0 ≤ ns.getD i 0) (e : expand ns = []) : GG 0 0 0 ns = true := by
  have hz : ∀ j, ns.getD j 0 = 0 := fun j => by
    have h0 := h j
    rcases Nat.lt_or_ge j ns.length with hj | hj
    · have : ¬ (1 ≤ ns.getD j 0) := fun h1 => by
        have : (j : Int) ∈ expand ns := expand_mem.mpr ⟨j, rfl, hj, h1⟩
        rw [e] at this; cases this
      lia
    · simp [List.getD, List.getElem?_eq_none hj]
  have e : ns = List.replicate 34 0 ++ [] := by
    apply List.ext_getElem?
    intro z
    rw [List.append_nil, List.getElem?_replicate]
    by_cases hz1 : z < 34
    · have := hz z
      rw [List.getD_eq_getElem?_getD] at this
      have hl' : z < ns.length := by lia
      rw [List.getElem?_eq_getElem hl', Option.getD_some] at this
      rw [if_pos hz1, List.getElem?_eq_getElem hl', this]
    · rw [if_neg hz1, List.getElem?_eq_none (by lia)]
  rw [e, gg_zeros]; rfl
theorem expand_cons {ns : List Int} (hl : ns.length = 34) (h : ∀ i, 0 ≤ ns.getD i 0) {a : Int} {t : List Int} (e : expand ns = a :: t) : ∃ i : Nat, a = (i : Int) ∧ i < 34 ∧ 1 ≤ ns.getD i 0 ∧ ∀ z, z < i → ns.getD z 0 = 0 := by
  have ha : a ∈ expand ns := by rw [e]; exact .head _
  obtain ⟨i, rfl, hi, h1⟩ := expand_mem.mp ha
  have gen : ∀ (k : Nat), k ≤ ns.length → (∀ z, z < k → ns.getD z 0 = 0) → (k = ns.length ∨ ∃ j, k ≤ j ∧ j < ns.length ∧ 1 ≤ ns.getD j 0 ∧ ∀ z, z < j → ns.getD z 0 = 0) := by
    intro k hk
    induction hd : ns.length - k generalizing k with
    | zero => intro _; exact .inl (by lia)
    | succ d ih =>
      intro hz
      by_cases h0 : ns.getD k 0 = 0
      · rcases ih (k + 1) (by lia) (by lia) (fun z hz' => by
          by_cases q : z = k
          · rw [q]; exact h0
          · exact hz z (by lia)) with q | ⟨j, h1, h2, h3, h4⟩
        · have e1 : expand ns = [] := by
            cases hx : expand ns with
            | nil => rfl
            | cons b t' =>
              have hb : b ∈ expand ns := by rw [hx]; exact .head _
              obtain ⟨j, _, hj, hj1⟩ := expand_mem.mp hb
              have : ns.getD j 0 = 0 := by
                by_cases q : j = k
                · rw [q]; exact h0
                · exact hz j (by lia)
              lia
          rw [e] at e1; cases e1
        · exact .inr ⟨j, by lia, h2, h3, h4⟩
      · exact .inr ⟨k, Nat.le_refl _, by lia, by have := h k; lia, hz⟩
  rcases gen 0 (Nat.zero_le _) (fun z hz => absurd hz (Nat.not_lt_zero _)) with q | ⟨j, _, hj, hj1, hjz⟩
  · lia
  · have esp := split_zeros ns j hj hjz
    have ee : expand ns = exG j (ns.getD j 0 :: ns.drop (j + 1)) := by
      unfold expand
      conv => lhs; rw [esp]
      rw [exG_zeros, Nat.zero_add]
    rw [ee] at e
    simp only [exG] at e
    have e3 : (ns.getD j 0).toNat = ((ns.getD j 0).toNat - 1) + 1 := by lia
    rw [e3, List.replicate_succ, List.cons_append] at e
    obtain ⟨e1, _⟩ := List.cons.inj e
    have : j = i := by lia
    subst this
    exact ⟨j, rfl, by lia, hj1, hjz⟩
def without : List Int → List Int → Option (List Int)
  | ts, [] => some ts
  | ts, k :: b => if ts.contains k then without (ts.erase k) b else none
theorem without_two {ns : List Int} {j : Nat} (hj : j < ns.length) (h : 2 ≤ ns.getD j 0) : without (expand ns) [(j : Int), (j : Int)] = some (expand (ns.set j (ns.getD j 0 - 2))) := by
  have m1 : (expand ns).contains (j : Int) = true := List.contains_iff_mem.mpr (expand_mem.mpr ⟨j, rfl, hj, by lia⟩)
  have e1 := expand_erase hj (show 1 ≤ ns.getD j 0 by lia)
  have g1 : (ns.set j (ns.getD j 0 - 1)).getD j 0 = ns.getD j 0 - 1 := by rw [getD_set, if_pos ⟨rfl, hj⟩]
  have m2 : (expand (ns.set j (ns.getD j 0 - 1))).contains (j : Int) = true := List.contains_iff_mem.mpr (expand_mem.mpr ⟨j, rfl, by simpa using hj, by rw [g1]; lia⟩)
  have e2 := expand_erase (ns := ns.set j (ns.getD j 0 - 1)) (j := j) (by simpa using hj) (by rw [g1]; lia)
  rw [without, if_pos m1, e1, without, if_pos m2, e2, g1, List.set_set, without]
  congr 3; lia
theorem without_three {ns : List Int} {j : Nat} (hj : j < ns.length) (h0 : 0 ≤ ns.getD j 0) : without (expand ns) [(j : Int), (j : Int), (j : Int)] = if 3 ≤ ns.getD j 0 then some (expand (ns.set j (ns.getD j 0 - 3))) else none := by
  by_cases h : 3 ≤ ns.getD j 0
  · rw [if_pos h]
    have m1 : (expand ns).contains (j : Int) = true := List.contains_iff_mem.mpr (expand_mem.mpr ⟨j, rfl, hj, by lia⟩)
    have e1 := expand_erase hj (show 1 ≤ ns.getD j 0 by lia)
    have g1 : (ns.set j (ns.getD j 0 - 1)).getD j 0 = ns.getD j 0 - 1 := by rw [getD_set, if_pos ⟨rfl, hj⟩]
    have h2 := without_two (ns := ns.set j (ns.getD j 0 - 1)) (j := j) (by simpa using hj) (by rw [g1]; lia)
    rw [without, if_pos m1, e1, h2, g1, List.set_set]
    congr 3; lia
  · rw [if_neg h]
    by_cases c1 : 1 ≤ ns.getD j 0
    · have m1 : (expand ns).contains (j : Int) = true := List.contains_iff_mem.mpr (expand_mem.mpr ⟨j, rfl, hj, by lia⟩)
      have e1 := expand_erase hj c1
      have g1 : (ns.set j (ns.getD j 0 - 1)).getD j 0 = ns.getD j 0 - 1 := by rw [getD_set, if_pos ⟨rfl, hj⟩]
      rw [without, if_pos m1, e1]
      by_cases c2 : 2 ≤ ns.getD j 0
      · have m2 : (expand (ns.set j (ns.getD j 0 - 1))).contains (j : Int) = true := List.contains_iff_mem.mpr (expand_mem.mpr ⟨j, rfl, by simpa using hj, by rw [g1]; lia⟩)
        have e2 := expand_erase (ns := ns.set j (ns.getD j 0 - 1)) (j := j) (by simpa using hj) (by rw [g1]; lia)
        rw [without, if_pos m2, e2, g1, List.set_set, without, if_neg]
        intro hm
        obtain ⟨i, hi, _, hi1⟩ := expand_mem.mp (List.contains_iff_mem.mp hm)
        have : i = j := by lia
        subst this
        rw [getD_set, if_pos ⟨rfl, hj⟩] at hi1
        lia
      · rw [without, if_neg]
        intro hm
        obtain ⟨i, hi, _, hi1⟩ := expand_mem.mp (List.contains_iff_mem.mp hm)
        have : i = j := by lia
        subst this
        rw [g1] at hi1; lia
    · rw [without, if_neg]
      intro hm
      obtain ⟨i, hi, _, hi1⟩ := expand_mem.mp (List.contains_iff_mem.mp hm)
      have : i = j := by lia
      subst this
      lia
theorem without_run {ns : List Int} {j : Nat} (hj : j + 2 < ns.length) (h1 : 1 ≤ ns.getD j 0) : without (expand ns) [(j : Int), (j : Int) + 1, (j : Int) + 2] = if 1 ≤ ns.getD (j + 1) 0 ∧ 1 ≤ ns.getD (j + 2) 0 then some (expand (((ns.set j (ns.getD j 0 - 1)).set (j + 1) (ns.getD (j + 1) 0 - 1)).set (j + 2) (ns.getD (j + 2) 0 - 1))) else none := by
  have c1 : ((j : Int) + 1) = ((j + 1 : Nat) : Int) := by lia
  have c2 : ((j : Int) + 2) = ((j + 2 : Nat) : Int) := by lia
  rw [c1, c2]
  have m1 : (expand ns).contains (j : Int) = true := List.contains_iff_mem.mpr (expand_mem.mpr ⟨j, rfl, by lia, h1⟩)
  have e1 := expand_erase (show j < ns.length by lia) h1
  rw [without, if_pos m1, e1]
  have g1 : (ns.set j (ns.getD j 0 - 1)).getD (j + 1) 0 = ns.getD (j + 1) 0 := by rw [getD_set, if_neg (by lia)]
  have g2 : ∀ v, ((ns.set j (ns.getD j 0 - 1)).set (j + 1) v).getD (j + 2) 0 = ns.getD (j + 2) 0 := fun v => by rw [getD_set, if_neg (by lia), getD_set, if_neg (by lia)]
  by_cases h2 : 1 ≤ ns.getD (j + 1) 0
  · have m2 : (expand (ns.set j (ns.getD j 0 - 1))).contains ((j + 1 : Nat) : Int) = true := List.contains_iff_mem.mpr (expand_mem.mpr ⟨j + 1, rfl, by simp; lia, by rw [g1]; exact h2⟩)
    have e2 := expand_erase (ns := ns.set j (ns.getD j 0 - 1)) (j := j + 1) (by simp; lia) (by rw [g1]; exact h2)
    rw [without, if_pos m2, e2, g1]
    by_cases h3 : 1 ≤ ns.getD (j + 2) 0
    · rw [if_pos ⟨h2, h3⟩]
      have m3 : (expand ((ns.set j (ns.getD j 0 - 1)).set (j + 1) (ns.getD (j + 1) 0 - 1))).contains ((j + 2 : Nat) : Int) = true := List.contains_iff_mem.mpr (expand_mem.mpr ⟨j + 2, rfl, by simp; lia, by rw [g2]; exact h3⟩)
      have e3 := expand_erase (ns := (ns.set j (ns.getD j 0 - 1)).set (j + 1) (ns.getD (j + 1) 0 - 1)) (j := j + 2) (by simp; lia) (by rw [g2]; exact h3)
      rw [without, if_pos m3, e3, g2, without]
    · rw [if_neg (fun q => h3 q.2), without, if_neg]
      intro hm
      obtain ⟨i, hi, _, hi1⟩ := expand_mem.mp (List.contains_iff_mem.mp hm)
      have : i = j + 2 := by lia
      subst this
      rw [g2] at hi1; exact h3 hi1
  · rw [if_neg (fun q => h2 q.1), without, if_neg]
    intro hm
    obtain ⟨i, hi, _, hi1⟩ := expand_mem.mp (List.contains_iff_mem.mp hm)
    have : i = j + 1 := by lia
    subst this
    rw [g1] at hi1; exact h2 hi1

def blocks (i : Nat) (ns : List Int) : List (List Int × Option (List Int)) :=
  ([(i : Int), (i : Int), (i : Int)], if 3 ≤ ns.getD i 0 then some (ns.set i (ns.getD i 0 - 3)) else none) ::
  (if can i = true then [([(i : Int), (i : Int) + 1, (i : Int) + 2], if 1 ≤ ns.getD (i + 1) 0 ∧ 1 ≤ ns.getD (i + 2) 0 then some (((ns.set i (ns.getD i 0 - 1)).set (i + 1) (ns.getD (i + 1) 0 - 1)).set (i + 2) (ns.getD (i + 2) 0 - 1)) else none)] else [])
theorem can_lt {i : Nat} (h : can i = true) : i + 2 < 27 := by
  simp only [can, Bool.and_eq_true, decide_eq_true_eq] at h; lia
theorem blocks_any {ns : List Int} {i : Nat} (hl : ns.length = 34) (h0 : ∀ i, 0 ≤ ns.getD i 0) (hi : i < 34) (h1 : 1 ≤ ns.getD i 0) (hz : ∀ z, z < i → ns.getD z 0 = 0) : GG 0 0 0 ns = (blocks i ns).any fun q => q.2.elim false (GG 0 0 0) := by
  have esp := split_zeros ns i (by lia) hz
  have eGG : GG 0 0 0 ns = GG i 0 0 (ns.getD i 0 :: ns.drop (i + 1)) := by
    conv => lhs; rw [esp]
    rw [gg_zeros, Nat.zero_add]
  have e3 : 3 ≤ ns.getD i 0 → GG 0 0 0 (ns.set i (ns.getD i 0 - 3)) = GG 0 0 0 ns := fun h3 => by
    rw [eGG, gg_set ns i (by lia) hz]
    exact gg_three h3
  have eo : can i = true → GG 0 0 0 ns = GG i 0 0 (ns.getD i 0 :: ns.getD (i + 1) 0 :: ns.getD (i + 2) 0 :: ns.drop (i + 3)) := fun hc => by
    have := can_lt hc
    rw [eGG, drop_cons ns (i + 1) (by lia), drop_cons ns (i + 1 + 1) (by lia)]
  have eno : ns.getD i 0 < 3 → (can i = true → ¬ (1 ≤ ns.getD (i + 1) 0 ∧ 1 ≤ ns.getD (i + 2) 0)) → GG 0 0 0 ns = false := fun h3 hno => by
    rw [eGG]
    refine gg_no h1 (by lia) (fun hc x y t' e => ?_) (fun hc => by have := can_lt hc; simp; lia)
    have := can_lt hc
    rw [drop_cons ns (i + 1) (by lia), drop_cons ns (i + 1 + 1) (by lia)] at e
    injection e with e1 e2
    injection e2 with e2 e3
    rw [← e1, ← e2]
    exact hno hc
  unfold blocks
  rw [List.any_cons]
  by_cases hc : can i = true
  · rw [if_pos hc, List.any_cons, List.any_nil, Bool.or_false]
    have hlt := can_lt hc
    by_cases hr : 1 ≤ ns.getD (i + 1) 0 ∧ 1 ≤ ns.getD (i + 2) 0
    · rw [if_pos hr]
      simp only [Option.elim]
      have run1 : GG 0 0 0 (((ns.set i (ns.getD i 0 - 1)).set (i + 1) (ns.getD (i + 1) 0 - 1)).set (i + 2) (ns.getD (i + 2) 0 - 1)) = true → GG 0 0 0 ns = true := fun h => by
        rw [gg_set3 ns i (by lia) hz] at h
        rw [eo hc]; exact gg_run hc h1 hr.1 hr.2 h
      by_cases h3 : 3 ≤ ns.getD i 0
      · rw [if_pos h3]
        simp only [e3 h3]
        cases hg : GG 0 0 0 ns with
        | true => rfl
        | false =>
          rw [Bool.false_or]
          cases hq : GG 0 0 0 (((ns.set i (ns.getD i 0 - 1)).set (i + 1) (ns.getD (i + 1) 0 - 1)).set (i + 2) (ns.getD (i + 2) 0 - 1)) with
          | true => rw [run1 hq] at hg; cases hg
          | false => rfl
      · rw [if_neg h3]
        simp only [Bool.false_or]
        rw [Bool.eq_iff_iff]
        refine ⟨fun h => ?_, run1⟩
        rw [gg_set3 ns i (by lia) hz]
        rw [eo hc] at h
        exact gg_run' hc h1 (by lia) hr.1 hr.2 h
    · rw [if_neg hr]
      by_cases h3 : 3 ≤ ns.getD i 0
      · rw [if_pos h3]
        simp only [Option.elim, e3 h3, Bool.or_false]
      · rw [if_neg h3]
        simp only [Option.elim, Bool.or_false]
        exact eno (by lia) fun _ => hr
  · rw [if_neg hc, List.any_nil, Bool.or_false]
    by_cases h3 : 3 ≤ ns.getD i 0
    · rw [if_pos h3]
      simp only [Option.elim, e3 h3]
    · rw [if_neg h3]
      simp only [Option.elim]
      exact eno (by lia) fun q => absurd q hc
theorem blocks_ok {ns : List Int} {i : Nat} (hl : ns.length = 34) (h0 : ∀ i, 0 ≤ ns.getD i 0) (hi : i < 34) (h1 : 1 ≤ ns.getD i 0) : ∀ q ∈ blocks i ns, without (expand ns) q.1 = q.2.map expand ∧ ∀ ns', q.2 = some ns' → ns'.length = 34 ∧ (∀ z, 0 ≤ ns'.getD z 0) ∧ ns'.sum = ns.sum - 3 := by
  intro q hq
  unfold blocks at hq
  rcases List.mem_cons.mp hq with rfl | hq
  · refine ⟨?_, fun ns' e => ?_⟩
    · simp only
      rw [without_three (by lia) (h0 i)]
      split <;> rfl
    · simp only at e
      split at e
      · cases e
        refine ⟨by simpa using hl, fun z => ?_, ?_⟩
        · rw [getD_set]; split
          · lia
          · exact h0 z
        · rw [sum_set ns i _ (by lia)]; lia
      · cases e
  · split at hq
    · rename_i hc
      have hlt := can_lt hc
      rcases List.mem_singleton.mp hq with rfl
      refine ⟨?_, fun ns' e => ?_⟩
      · simp only
        rw [without_run (by lia) h1]
        split <;> rfl
      · simp only at e
        split at e
        · rename_i hr
          cases e
          refine ⟨by simpa using hl, fun z => ?_, ?_⟩
          · rw [getD_set]; split
            · lia
            · rw [getD_set]; split
              · lia
              · rw [getD_set]; split
                · lia
                · exact h0 z
          · rw [sum_set _ _ _ (by simp; lia), sum_set _ _ _ (by simp; lia), sum_set _ _ _ (by lia), getD_set, if_neg (by lia), getD_set, if_neg (by lia), getD_set, if_neg (by lia)]
            lia
        · cases e
    · cases hq

-- data that may be laid and compared
theorem canLay_PI (ns : List Int) : PyData.canLayAll0 (PI ns) = true := by
  induction ns with
  | nil => rfl
  | cons n ns ih => simp only [PI, List.map_cons, PyData.canLayAll0, PyData.canLay0, Bool.true_and]; exact ih
theorem depth_PI (ns : List Int) : PyData.depthAll (PI ns) ≤ 1 := by
  induction ns with
  | nil => simp [PI, PyData.depthAll]
  | cons n ns ih => simp only [PI, List.map_cons, PyData.depthAll, PyData.depth]; exact Nat.max_le.mpr ⟨by lia, ih⟩
theorem shaped_PI (ns : List Int) : SeqAt.shaped (.list (PI ns)) = true := by
  have h := depth_PI ns
  have e : PyData.depth (.list (PI ns)) ≤ 64 := by simp only [PyData.depth]; lia
  show (PyData.canLay0 (.list (PI ns)) && decide (PyData.depth (.list (PI ns)) ≤ 64)) = true
  rw [decide_eq_true e, Bool.and_true]
  exact canLay_PI ns
def PL (ms : List (List Int)) : List PyData := ms.map fun m => .list (PI m)
theorem canLay_PL (ms : List (List Int)) : PyData.canLayAll0 (PL ms) = true := by
  induction ms with
  | nil => rfl
  | cons n ns ih => simp only [PL, List.map_cons, PyData.canLayAll0, PyData.canLay0, canLay_PI, Bool.true_and]; exact ih
theorem depth_PL (ms : List (List Int)) : PyData.depthAll (PL ms) ≤ 2 := by
  induction ms with
  | nil => simp [PL, PyData.depthAll]
  | cons n ns ih =>
    have := depth_PI n
    simp only [PL, List.map_cons, PyData.depthAll, PyData.depth]; exact Nat.max_le.mpr ⟨by lia, ih⟩
theorem eqv_nil (ns : List Int) : PyData.eqv (.list (PI ns)) (.list []) = ns.isEmpty := by
  cases ns <;> simp [PI, PyData.eqv, PyData.eqvAll]

def cnt (ms : List (List Int)) (i : Nat) : Int := (ms.map fun m => (m.count (i : Int) : Int)).sum
def MeldsOk (ms : List (List Int)) : Prop := ∀ m ∈ ms, (m.length = 3 ∨ m.length = 4) ∧ ∀ a ∈ m, 0 ≤ a ∧ a < 34
def sub1 (cur : List Int) (a : Int) : List Int := cur.set a.toNat (cur.getD a.toNat 0 - 1)
def add1 (cur : List Int) (a : Int) : List Int := cur.set a.toNat (cur.getD a.toNat 0 + 1)
theorem cnt_cons (m : List Int) (ms : List (List Int)) (i : Nat) : cnt (m :: ms) i = (m.count (i : Int) : Int) + cnt ms i := by
  simp [cnt]
theorem cnt_nil (i : Nat) : cnt [] i = 0 := rfl
theorem cnt_append (ms ms' : List (List Int)) (i : Nat) : cnt (ms ++ ms') i = cnt ms i + cnt ms' i := by
  simp [cnt]
theorem cnt_nonneg (ms : List (List Int)) (i : Nat) : 0 ≤ cnt ms i := by
  induction ms with
  | nil => simp [cnt]
  | cons m ms ih => rw [cnt_cons]; lia
theorem cnt_rev (ms : List (List Int)) (i : Nat) : cnt (ms.reverse.map List.reverse) i = cnt ms i := by
  induction ms with
  | nil => rfl
  | cons m ms ih =>
    rw [List.reverse_cons, List.map_append, cnt_append, ih, cnt_cons]
    simp only [List.map_cons, List.map_nil, cnt_cons, cnt_nil, List.count_reverse]
    lia
theorem ok_rev {ms : List (List Int)} (h : MeldsOk ms) : MeldsOk (ms.reverse.map List.reverse) := fun m hm => by
  obtain ⟨m', hm', rfl⟩ := List.mem_map.mp hm
  have := h m' (List.mem_reverse.mp hm')
  exact ⟨by simpa using this.1, fun a ha => this.2 a (List.mem_reverse.mp ha)⟩
theorem count_one {a : Int} (h : 0 ≤ a) (i : Nat) : ([a].count (i : Int) : Int) = if i = a.toNat then 1 else 0 := by
  by_cases e : i = a.toNat
  · have : a = (i : Int) := by lia
    rw [if_pos e, this]; simp
  · have : a ≠ (i : Int) := by lia
    rw [if_neg e, List.count_singleton]; simp [this]
theorem count_cons' (a : Int) (m : List Int) (i : Nat) : ((a :: m).count (i : Int) : Int) = ([a].count (i : Int) : Int) + (m.count (i : Int) : Int) := by
  rw [List.count_cons, List.count_singleton]; split <;> simp <;> lia
theorem sub1_get {cur : List Int} {a : Int} (h0 : 0 ≤ a) (h : a.toNat < cur.length) (i : Nat) : (sub1 cur a).getD i 0 = cur.getD i 0 - ([a].count (i : Int) : Int) := by
  rw [count_one h0, sub1, getD_set]
  by_cases e : i = a.toNat
  · rw [if_pos ⟨e, h⟩, if_pos e, e]
  · rw [if_neg (fun q => e q.1), if_neg e]; lia
theorem add1_get {cur : List Int} {a : Int} (h0 : 0 ≤ a) (h : a.toNat < cur.length) (i : Nat) : (add1 cur a).getD i 0 = cur.getD i 0 + ([a].count (i : Int) : Int) := by
  rw [count_one h0, add1, getD_set]
  by_cases e : i = a.toNat
  · rw [if_pos ⟨e, h⟩, if_pos e, e]
  · rw [if_neg (fun q => e q.1), if_neg e]; lia
theorem sub1_len (cur : List Int) (a : Int) : (sub1 cur a).length = cur.length := by simp [sub1]
theorem add1_len (cur : List Int) (a : Int) : (add1 cur a).length = cur.length := by simp [add1]
theorem subs_get : ∀ (m cur : List Int), cur.length = 34 → (∀ a ∈ m, 0 ≤ a ∧ a < 34) → (m.foldl sub1 cur).length = 34 ∧ ∀ i : Nat, (m.foldl sub1 cur).getD i 0 = cur.getD i 0 - (m.count (i : Int) : Int)
  | [], cur, hl, _ => ⟨hl, fun i => by simp⟩
  | a :: m, cur, hl, h => by
    have ha := h a (.head _)
    obtain ⟨h1, h2⟩ := subs_get m (sub1 cur a) (by rw [sub1_len]; exact hl) fun b hb => h b (.tail _ hb)
    refine ⟨h1, fun i => ?_⟩
    rw [List.foldl_cons, h2, sub1_get ha.1 (by lia)]
    have := count_cons' a m i
    lia
theorem adds_get : ∀ (m cur : List Int), cur.length = 34 → (∀ a ∈ m, 0 ≤ a ∧ a < 34) → (m.foldl add1 cur).length = 34 ∧ ∀ i : Nat, (m.foldl add1 cur).getD i 0 = cur.getD i 0 + (m.count (i : Int) : Int)
  | [], cur, hl, _ => ⟨hl, fun i => by simp⟩
  | a :: m, cur, hl, h => by
    have ha := h a (.head _)
    obtain ⟨h1, h2⟩ := adds_get m (add1 cur a) (by rw [add1_len]; exact hl) fun b hb => h b (.tail _ hb)
    refine ⟨h1, fun i => ?_⟩
    rw [List.foldl_cons, h2, add1_get ha.1 (by lia)]
    have := count_cons' a m i
    lia
theorem add1_sum {cur : List Int} {a : Int} (h : a.toNat < cur.length) : (add1 cur a).sum = cur.sum + 1 := by rw [add1, sum_set _ _ _ h]; lia
theorem adds_sum : ∀ (m cur : List Int), cur.length = 34 → (∀ a ∈ m, 0 ≤ a ∧ a < 34) → (m.foldl add1 cur).sum = cur.sum + (m.length : Int)
  | [], cur, hl, _ => by simp
  | a :: m, cur, hl, h => by
    have ha := h a (.head _)
    rw [List.foldl_cons, adds_sum m (add1 cur a) (by rw [add1_len]; exact hl) fun b hb => h b (.tail _ hb), add1_sum (by lia)]
    simp only [List.length_cons]; lia
theorem eq_of_getD {a b : List Int} (ha : a.length = 34) (hb : b.length = 34) (h : ∀ i, i < 34 → a.getD i 0 = b.getD i 0) : a = b := by
  apply List.ext_getElem (by lia)
  intro i h1 h2
  have := h i (by lia)
  simpa [List.getD, h1, h2] using this
theorem small_ag {ns : List Int} (hl : ns.length = 34) (hb : ∀ i, 0 ≤ ns.getD i 0 ∧ ns.getD i 0 ≤ 4) (hs : ns.sum ≤ 13) : AG ns ↔ PS ns := by
  constructor
  · rintro (h | h | h)
    · obtain ⟨_, h2⟩ := (kok_iff hb).mp h
      have e : (ends ns).sum ≤ ns.sum := sum_idx [0, 8, 9, 17, 18, 26, 27, 28, 29, 30, 31, 32, 33] ns (fun i => (hb i).1) (by decide) (by rw [hl]; decide)
      lia
    · obtain ⟨_, _, _, h⟩ := h
      rw [cnt2_twos hl] at h
      have := (twos_sum ns (all_of_get fun i => (hb i).1)).1
      lia
    · exact h
  · exact fun h => .inr (.inr h)

open Classical in
noncomputable def PSb (ns : List Int) : Bool := decide (PS ns)
open Classical in
theorem psb_t {ns : List Int} (h : PS ns) : PSb ns = true := decide_eq_true h
open Classical in
theorem psb_f {ns : List Int} (h : ¬ PS ns) : PSb ns = false := decide_eq_false h
section
variable {p : Program} {w : World} {h₀ : Heap} {A : Around} {env : Env} {m : Locs} {N : Locs → Prop} {T : PyData → Prop}
theorem it_mono {e : Expr} {k k' : List PyData → Prop} (h : It p w h₀ A env m e k) (f : ∀ ds, k ds → k' ds) : It p w h₀ A env m e k' := fun s O Q E S hQ =>
  h s O Q E S fun it ds s' x hn i hk => hQ it ds s' x hn i (f ds hk)
theorem evI_mono {e : Expr} {k k' : Int → Prop} (h : EvI p w h₀ A env m e k) (f : ∀ i, k i → k' i) : EvI p w h₀ A env m e k' := fun s O Q E S hQ =>
  h s O Q E S fun i t s' x hk => hQ i t s' x (f i hk)
theorem compI_const {y : Str} {elt : Expr} {K : List Int → Prop} {v : Int} (h : ∀ e, EvI p w h₀ A env (st m y (.val e)) elt fun r => r = v) : ∀ (es : List PyData) (out : List Int), out.length + es.length ≤ sizeLine → K (out ++ List.replicate es.length v) → CompI p w h₀ A env m y elt K es out
  | [], out, _, hk => by simpa [CompI] using hk
  | e :: es, out, hz, hk => by
    refine ⟨by simp only [List.length_cons] at hz; lia, evI_mono (h e) fun r hr => ?_⟩
    subst hr
    refine compI_const h es _ (by simp only [List.length_cons, List.length_append, List.length_nil] at hz ⊢; lia) ?_
    rw [List.append_assoc]
    rw [List.length_cons, List.replicate_succ] at hk
    exact hk
theorem exG_drop {ns : List Int} {i : Nat} (h : i < ns.length) : exG i (ns.drop i) = List.replicate (ns.getD i 0).toNat (i : Int) ++ exG (i + 1) (ns.drop (i + 1)) := by
  rw [drop_cons ns i h]; rfl
theorem compW2_expand {x y : Str} {iter2 elt : Expr} {k : List Int → Prop} {ns : List Int} (hl : ns.length = 34) (h0 : ∀ i, 0 ≤ ns.getD i 0) (hs : ns.sum ≤ 1000)
    (hI : ∀ i : Nat, i < 34 → It p w h₀ A env (st m x (.val (.int i))) iter2 fun es => es = PI (rng (ns.getD i 0).toNat)) (hE : ∀ (i : Nat) e, EvI p w h₀ A env (st (st m x (.val (.int i))) y (.val e)) elt fun r => r = (i : Int)) (hk : k (expand ns)) :
    CompW2 p w h₀ A env m x y iter2 elt k (PI (rng 34)) [] := by
  have hlen := expand_length h0
  have gen : ∀ (n i : Nat) (out : List Int), i + n = 34 → out ++ exG i (ns.drop i) = expand ns → CompW2 p w h₀ A env m x y iter2 elt k (PI ((rng 34).drop i)) out := by
    intro n
    induction n with
    | zero =>
      intro i out hi e
      have : i = 34 := by lia
      subst this
      have e1 : ns.drop 34 = [] := List.drop_eq_nil_of_le (by lia)
      rw [e1] at e
      simp only [exG, List.append_nil] at e
      subst e
      exact hk
    | succ n ih =>
      intro i out hi e
      rw [rng_drop 34 i (by lia)]
      refine it_mono (hI i (by lia)) fun es ees => ?_
      subst ees
      have hz : out.length + (ns.getD i 0).toNat ≤ (expand ns).length := by
        rw [← e, exG_drop (by lia)]
        simp
      have hsl : (1000 : Nat) ≤ sizeLine := by decide
      have er : (PI (rng (ns.getD i 0).toNat)).length = (ns.getD i 0).toNat := by simp [PI, rng]
      refine compI_const (hE i) _ _ (by rw [er]; lia) ?_
      rw [er]
      refine ih (i + 1) _ (by lia) ?_
      rw [List.append_assoc, ← exG_drop (by lia)]
      exact e
  have := gen 34 0 [] rfl (by simp [expand])
  simpa using this
theorem relabel_keep {scope : Scope} {x : Str} {k : NameKind} (hk : k ≠ .free) (h : scope.names.lookup x = some k) : (relabel scope env).names.lookup x = some k := by
  show (scope.names.map _).lookup x = _
  generalize scope.names = names at h
  induction names with
  | nil => simp at h
  | cons q r ih =>
    obtain ⟨n, k'⟩ := q
    rw [List.map_cons]
    show List.lookup x ((if (k' == NameKind.free && env.scope.kind == .function && env.kindOf n == some .cell) = true then (n, NameKind.cell) else (n, k')) :: _) = _
    by_cases e : x = n
    · subst e
      rw [List.lookup_cons] at h
      simp only [beq_self_eq_true] at h
      cases h
      have hf : (k == NameKind.free) = false := by simpa using hk
      rw [hf]
      simp
    · have hb : (x == n) = false := by simpa using e
      rw [List.lookup_cons, hb] at h
      have := ih h
      by_cases hc : (k' == NameKind.free && env.scope.kind == .function && env.kindOf n == some .cell) = true
      · rw [if_pos hc, List.lookup_cons, hb]; exact this
      · rw [if_neg hc, List.lookup_cons, hb]; exact this
theorem comp_kind {scope : Scope} {cl : List (Str × Addr)} {C : Addr} {x : Str} {k : NameKind} (hk : k ≠ .free) (h : scope.names.lookup x = some k) : (compEnvC scope cl C env).kindOf x = some k := relabel_keep hk h
theorem compw2_env {sc : Scope} {cl : List (Str × Addr)} {C : Addr} {mc : Locs} {x y : Str} {iter2 elt : Expr} {k : List Int → Prop} {ds : List PyData} {out : List Int} (ok : EnvOk env) (hk : sc.kind = .function) (h : ∀ e', EnvOk e' → (∀ x k, k ≠ NameKind.free → sc.names.lookup x = some k → e'.kindOf x = some k) → CompW2 p w h₀ A e' mc x y iter2 elt k ds out) : CompW2 p w h₀ A (compEnvC sc cl C env) mc x y iter2 elt k ds out := h _ (compEnv_ok ok hk) fun _ _ a b => comp_kind a b
end

section
variable {p : Program} {w : World} {h₀ : Heap} {A : Around} {env : Env} {m : Locs} {N : Locs → Prop} {T : PyData → Prop}
theorem tst_has {m' : Locs} {e : Expr} {k : Bool → Prop} (h : Has m m') (t : Tst p w h₀ A env m' e k) : Tst p w h₀ A env m e k := fun s O Q E S hQ => t s O Q E (S.forget h.get) hQ
theorem tst_nameB {x : Str} {pos : Pos} {i : Bool} {k : Bool → Prop} (hk : env.scope.kind = .function) (hx : gt m x = some (.val (.bool i))) (h : k i) (hd : (x == ("__debug__" : Str)) = false := by decide) : Tst p w h₀ A env m (.Name x pos) k :=
  tst_B (evB_name hk hx h hd)
end

theorem cyc {n : Nat} {P : Nat → Prop} (h : ∃ q, q < n ∧ P q) {a : Nat} (ha : a < n) : ∃ d, d < n ∧ P ((a + d) % n) := by
  obtain ⟨q, hq, hp⟩ := h
  by_cases hc : a ≤ q
  · refine ⟨q - a, by lia, ?_⟩
    have : (a + (q - a)) % n = q := by rw [show a + (q - a) = q by lia]; exact Nat.mod_eq_of_lt hq
    rw [this]; exact hp
  · refine ⟨q + n - a, by lia, ?_⟩
    have : (a + (q + n - a)) % n = q := by rw [show a + (q + n - a) = q + n by lia, Nat.add_mod_right]; exact Nat.mod_eq_of_lt hq
    rw [this]; exact hp
theorem cyc_step {n : Nat} {P : Nat → Prop} {a j : Nat} (ha : a < n) (hn : ¬ P a) (h : ∃ d, d < j + 1 ∧ P ((a + d) % n)) : ∃ d, d < j ∧ P (((a + 1) % n + d) % n) := by
  obtain ⟨d, hd, hp⟩ := h
  cases d with
  | zero => rw [Nat.add_zero, Nat.mod_eq_of_lt ha] at hp; exact absurd hp hn
  | succ d =>
    refine ⟨d, by lia, ?_⟩
    have : ((a + 1) % n + d) % n = (a + (d + 1)) % n := by rw [Nat.mod_add_mod]; congr 1; lia
    rw [this]; exact hp
theorem len_le_sum : ∀ l : List Int, (∀ a ∈ l, 1 ≤ a) → (l.length : Int) ≤ l.sum
  | [], _ => by simp
  | b :: l, h => by
    have := len_le_sum l fun c hc => h c (.tail _ hc)
    have := h b (.head _)
    simp only [List.sum_cons, List.length_cons]; lia
theorem some_low {ns : List Int} (hl : ns.length = 34) (h0 : ∀ i, 0 ≤ ns.getD i 0) {c : Int} (hc : 1 ≤ c) (hs : ns.sum < 34) : ∃ q, q < 34 ∧ ns.getD q 0 < c := by
  refine Classical.byContradiction fun hn => ?_
  have := len_le_sum ns fun a ha => by
    obtain ⟨i, hi, rfl⟩ := List.mem_iff_getElem.mp ha
    have hq : ¬ (ns.getD i 0 < c) := fun q1 => hn ⟨i, by lia, q1⟩
    have e : ns.getD i 0 = ns[i] := by simp [List.getD, hi]
    rw [e] at hq
    exact Int.le_trans hc (Int.not_lt.mp hq)
  lia
def runAt (q : Nat) : Nat := q / 7 * 9 + q % 7
def RunFree (wh : List Int) (q : Nat) : Prop := ∀ s, s < 3 → wh.getD (runAt q + s) 0 ≤ 3
theorem some_run {ns : List Int} (hl : ns.length = 34) (h : ∀ i, 0 ≤ ns.getD i 0) (hs : ns.sum ≤ 12) : ∃ q, q < 21 ∧ RunFree ns q := by
  refine Classical.byContradiction fun hn => ?_
  have no : ∀ q, q < 21 → ∃ s, s < 3 ∧ 4 ≤ ns.getD (runAt q + s) 0 := fun q hq => by
    refine Classical.byContradiction fun hc => hn ⟨q, hq, fun s hs => ?_⟩
    have : ¬ (4 ≤ ns.getD (runAt q + s) 0) := fun q1 => hc ⟨s, hs, q1⟩
    lia
  obtain ⟨s0, l0, g0⟩ := no 0 (by decide)
  obtain ⟨s1, l1, g1⟩ := no 3 (by decide)
  obtain ⟨s2, l2, g2⟩ := no 6 (by decide)
  obtain ⟨s3, l3, g3⟩ := no 7 (by decide)
  rw [show runAt 0 = 0 from rfl] at g0
  rw [show runAt 3 = 3 from rfl] at g1
  rw [show runAt 6 = 6 from rfl] at g2
  rw [show runAt 7 = 9 from rfl] at g3
  have := sum_idx [0 + s0, 3 + s1, 6 + s2, 9 + s3] ns h (by
    simp only [List.nodup_cons, List.mem_cons, List.not_mem_nil, or_false, List.nodup_nil, and_true, not_or, not_false_eq_true]
    lia) (fun z hz => by
      simp only [List.mem_cons, List.not_mem_nil, or_false] at hz
      lia)
  simp only [List.map_cons, List.map_nil, List.sum_cons, List.sum_nil] at this
  clear no hn h hl
  lia
theorem runAt_lt {q : Nat} (h : q < 21) : runAt q + 2 < 34 := by unfold runAt; lia
theorem runAt_int (q : Nat) : ((q : Int).fdiv 7) * 9 + (q : Int).fmod 7 = (runAt q : Int) := by
  rw [Int.fdiv_eq_ediv_of_nonneg _ (by decide), Int.fmod_eq_emod_of_nonneg _ (by decide)]
  unfold runAt; lia
def MeldOk (wh : List Int) (most : Int) (m : List Int) : Prop := (m.length = 3 ∨ (m.length = 4 ∧ most = 4)) ∧ (∀ a ∈ m, 0 ≤ a ∧ a < 34) ∧ ∀ i, i < 34 → wh.getD i 0 + (m.count (i : Int) : Int) ≤ 4
theorem run_ok {wh : List Int} {most : Int} (hb : ∀ i, 0 ≤ wh.getD i 0 ∧ wh.getD i 0 ≤ 4) {q : Nat} (hq : q < 21) (hf : RunFree wh q) : MeldOk wh most [(runAt q : Int) + 0, (runAt q : Int) + 1, (runAt q : Int) + 2] := by
  have hlt := runAt_lt hq
  refine ⟨.inl rfl, fun a ha => ?_, fun i hi => ?_⟩
  · simp only [List.mem_cons, List.not_mem_nil, or_false] at ha
    lia
  · have f0 := hf 0 (by decide); have f1 := hf 1 (by decide); have f2 := hf 2 (by decide)
    have := hb i
    have hc : (([(runAt q : Int) + 0, (runAt q : Int) + 1, (runAt q : Int) + 2].count (i : Int) : Nat) : Int) = (if i = runAt q then 1 else 0) + (if i = runAt q + 1 then 1 else 0) + (if i = runAt q + 2 then 1 else 0) := by
      have a := count_cons' ((runAt q : Int) + 0) [(runAt q : Int) + 1, (runAt q : Int) + 2] i
      have b := count_cons' ((runAt q : Int) + 1) [(runAt q : Int) + 2] i
      have c0 := count_one (show 0 ≤ (runAt q : Int) + 0 by lia) i
      have c1 := count_one (show 0 ≤ (runAt q : Int) + 1 by lia) i
      have c2 := count_one (show 0 ≤ (runAt q : Int) + 2 by lia) i
      rw [a, b, c0, c1, c2]
      rw [show ((runAt q : Int) + 0).toNat = runAt q by lia, show ((runAt q : Int) + 1).toNat = runAt q + 1 by lia, show ((runAt q : Int) + 2).toNat = runAt q + 2 by lia]
      lia
    rw [hc]
    by_cases e0 : i = runAt q
    · subst e0
      rw [Nat.add_zero] at f0
      rw [if_pos rfl, if_neg (by lia), if_neg (by lia)]; lia
    · rw [if_neg e0]
      by_cases e1 : i = runAt q + 1
      · rw [← e1] at f1
        rw [if_pos e1, if_neg (by lia)]; lia
      · rw [if_neg e1]
        by_cases e2 : i = runAt q + 2
        · rw [← e2] at f2
          rw [if_pos e2]; lia
        · rw [if_neg e2]; lia
theorem same_ok {wh : List Int} {most : Int} (hb : ∀ i, 0 ≤ wh.getD i 0 ∧ wh.getD i 0 ≤ 4) {q : Nat} (hq : q < 34) {size : Int} (hz : size = 3 ∨ (size = 4 ∧ most = 4)) (hf : wh.getD q 0 + size ≤ 4) : MeldOk wh most (List.replicate size.toNat (q : Int)) := by
  refine ⟨?_, fun a ha => ?_, fun i hi => ?_⟩
  · rw [List.length_replicate]
    rcases hz with h | h
    · exact .inl (by lia)
    · exact .inr (by lia)
  · have := (List.mem_replicate.mp ha).2; lia
  · have := hb i
    by_cases e : i = q
    · subst e
      have hc : (List.replicate size.toNat (i : Int)).count (i : Int) = size.toNat := by simp
      rw [hc]; lia
    · have hc : (List.replicate size.toNat (q : Int)).count (i : Int) = 0 := by
        rw [List.count_replicate]
        have : ¬ ((q : Int) = (i : Int)) := by lia
        simp [this]
      rw [hc]; lia
theorem rep_flat (n : Nat) (a : Int) : (List.replicate n [a]).flatten = List.replicate n a := by
  induction n with
  | zero => rfl
  | succ n ih => rw [List.replicate_succ, List.flatten_cons, ih, List.replicate_succ]; rfl

-- one step of the walk
local macro_rules | `(tactic| walk_at "mI") => `(tactic| first
  | with_reducible refine evI_const ?_
  | ((with_reducible refine' evI_name (EnvOk.kind (by assumption)) ?hx ?_ ?hd); (case hx => exact rfl); (case hd => decide +kernel))
  | with_reducible refine evI_add ?_
  | with_reducible refine evI_sub ?_
  | with_reducible refine evI_or ?_
  | with_reducible refine evI_and ?_
  | with_reducible refine evI_shl ?_
  | with_reducible refine evI_mod ?_
  | with_reducible refine evI_div ?_
  | with_reducible refine evI_mul ?_
  | ((with_reducible refine' evI_itemC ?hn ?_); (case hn => exact rfl))
  | ((with_reducible refine evI_item ?_ ?hs); (case hs => intros; with_unfolding_all rfl))
  | ((with_reducible refine' evP_name (by assumption) ?hx ?hl ?_ ?hd); (case hx => exact rfl); (case hl => exact rfl); (case hd => decide +kernel))
  | ((with_reducible refine tst_lt ?_ ?hm); (case hm => with_unfolding_all rfl))
  | ((with_reducible refine tst_gt ?_ ?hm); (case hm => with_unfolding_all rfl))
  | ((with_reducible refine tst_ge ?_ ?hm); (case hm => with_unfolding_all rfl))
  | ((with_reducible refine tst_eq ?_ ?hm); (case hm => with_unfolding_all rfl))
  | ((with_reducible refine tst_ne ?_ ?hm); (case hm => with_unfolding_all rfl))
  | with_reducible refine tst_inset (by assumption) ?_
  | with_reducible refine evB_inset (by assumption) ?_
  | with_reducible refine tst_and_nil ?_
  | with_reducible refine tst_and ?_
  | with_reducible refine tst_or_nil ?_
  | with_reducible refine tst_or ?_
  | with_reducible refine tst_not ?_)
-- a name is stored
local macro_rules | `(tactic| walk_at "mAsgI") => `(tactic| ((with_reducible refine' x1_asgI (EnvOk.kind (by assumption)) ?hx ?_ ?hs); (case hx => exact stored_at (by assumption) rfl); (case hs => rfl)))
local macro_rules | `(tactic| walk_at "mAsg2I") => `(tactic| ((with_reducible refine' x1_asg2I (EnvOk.kind (by assumption)) ?hx ?hy ?_ ?he ?hw); (case hx => exact stored_at (by assumption) rfl); (case hy => exact stored_at (by assumption) rfl); (case he => rfl); (case hw => rfl)))
local macro_rules | `(tactic| walk_at "mAugAdd") => `(tactic| ((with_reducible refine' x1_aug_add (EnvOk.kind (by assumption)) ?hx ?hg ?_); (case hx => exact stored_at (by assumption) rfl); (case hg => exact rfl)))
local macro_rules | `(tactic| walk_at "mAugShr") => `(tactic| ((with_reducible refine' x1_aug_shr (EnvOk.kind (by assumption)) ?hx ?hg ?_); (case hx => exact stored_at (by assumption) rfl); (case hg => exact rfl)))
-- for x in range(e)
local macro_rules | `(tactic| walk_at "mRange") => `(tactic| ((with_reducible refine' x1_for (by assumption) (EnvOk.kind (by assumption)) ?hx (it_range (by assumption) ?hg ?hb ?_ ?he ?hd) ?hs); (case hx => exact stored_at (by assumption) rfl); (case hg => exact kind_at (by assumption) rfl); (case hb => exact Gnd.bi (by assumption) (by k_is) (by kernel_rfl) (by decide +kernel)); (case he => rfl); (case hd => decide +kernel); (case hs => intro _; rfl)))
set_option maxRecDepth 100000
set_option maxHeartbeats 4000000

def Rmeld : Spec := fun ds k => ∃ ns d, ds = [.list (PI ns), .int d] ∧ ns.length = 34 ∧ (∀ i, 0 ≤ ns.getD i 0 ∧ ns.getD i 0 ≤ 4) ∧ (0 ≤ d ∧ d ≤ 18) ∧ k (.int (num ((List.range 9).map fun i => ns.getD (d.toNat + i) 0)))
def Rmentsu : Spec := fun ds k => ∃ m, ds = [.int m] ∧ 0 ≤ m ∧ k (.bool (mentsu m))
def Ratama : Spec := fun ds k => ∃ nn m, ds = [.int nn, .int m] ∧ 0 ≤ m ∧ k (.bool (atama nn m))

theorem small4 {n : Int} (h : 0 ≤ n ∧ n ≤ 4) : n.natAbs < 2 ^ 64 := by lia

theorem meld_meets {p : Program} {w : World} {h₀ : Heap} (hr : PySem.Challenge.rw_md0016_02 = PySem.Challenge.rw_md0016_02) (G : Gnd (topw.heap_39 w.params) h₀) : Meets p w h₀ 57 1 Rmeld := by
  revert hr G
  k_fill
  intro hr G
  refine meets_def ["tiles", "d"] [] [] (G.X _ _ (by k_is)) rfl G.lim (codeRec_of G.X (by k_is)) rfl rfl rfl rfl rfl (fun _ => .nil) ?hb ?hk (by decide) (by decide) ?_ (by decide)
  case hb =>
    intro s vs _ hl
    obtain ⟨v, v', rfl⟩ := vs2 hl
    exact BindsTo.of_eq rfl
  case hk =>
    intro n x hx
    simp only [List.mem_cons, List.not_mem_nil, or_false] at hx
    rcases hx with rfl | rfl <;> exact .inl rfl
  rintro ds k ⟨ns, d, rfl, hl, h0, hd, hk⟩
  refine ⟨rfl, fun A env eo hh hdp hun => ?_⟩
  have ok : EnvOk env := ⟨by rw [eo.scope], eo.glob, eo.blt⟩
  clear eo
  show Ex p w h₀ A env [(Str.ofString "tiles", .val (.list (PI ns))), (Str.ofString "d", .val (.int d))] _ _ _
  refine ex_cons (x1_ret (ev_int ?_))
  repeat (first | walk_at "mI" | refine ⟨by lia, ?_⟩ | refine ⟨⟨by decide, by decide, small4 (h0 _)⟩, ?_⟩)
  have hb : ∀ i, 0 ≤ ns.getD i 0 ∧ ns.getD i 0 ≤ 7 := fun i => by have := h0 i; lia
  have e := meld_num (hb d.toNat) (hb (d + 1).toNat) (hb (d + 2).toNat) (hb (d + 3).toNat) (hb (d + 4).toNat) (hb (d + 5).toNat) (hb (d + 6).toNat) (hb (d + 7).toNat) (hb (d + 8).toNat)
  have e2 : [ns.getD d.toNat 0, ns.getD (d + 1).toNat 0, ns.getD (d + 2).toNat 0, ns.getD (d + 3).toNat 0, ns.getD (d + 4).toNat 0, ns.getD (d + 5).toNat 0, ns.getD (d + 6).toNat 0, ns.getD (d + 7).toNat 0, ns.getD (d + 8).toNat 0] = (List.range 9).map fun i => ns.getD (d.toNat + i) 0 := by
    have t : ∀ i : Nat, (d + (i : Int)).toNat = d.toNat + i := fun i => by lia
    have t1 := t 1; have t2 := t 2; have t3 := t 3; have t4 := t 4; have t5 := t 5; have t6 := t 6; have t7 := t 7; have t8 := t 8
    simp only [Int.cast_ofNat_Int] at t1 t2 t3 t4 t5 t6 t7 t8
    rw [t1, t2, t3, t4, t5, t6, t7, t8]; rfl
  rw [e2] at e
  exact e ▸ hk

theorem mentsu_meets {p : Program} {w : World} {h₀ : Heap} (hr : PySem.Challenge.rw_md0016_02 = PySem.Challenge.rw_md0016_02) (G : Gnd (topw.heap_39 w.params) h₀) : Meets p w h₀ 37 1 Rmentsu := by
  revert hr G
  k_fill
  intro hr G
  refine meets_def ["m"] [] [] (G.X _ _ (by k_is)) rfl G.lim (codeRec_of G.X (by k_is)) rfl rfl rfl rfl rfl (fun _ => .nil) ?hb ?hk (by decide) (by decide) ?_ (by decide)
  case hb =>
    intro s vs _ hl
    obtain ⟨v, rfl⟩ := vs1 hl
    exact BindsTo.of_eq rfl
  case hk =>
    intro n x hx
    rcases List.mem_singleton.mp hx with rfl
    exact .inl rfl
  rintro ds k ⟨m, rfl, h0, hk⟩
  refine ⟨rfl, fun A env eo hh hdp hun => ?_⟩
  have hn : env.scope.names = _ := congrArg Scope.names eo.scope
  have ok : EnvOk env := ⟨by rw [eo.scope], eo.glob, eo.blt⟩
  have hcode : CodeOk h₀ env := ⟨_, _, _, eo.code, G.X _ _ (by k_is), rfl⟩
  dsimp only at hn
  clear eo
  show Ex p w h₀ A env [(Str.ofString "m", .val (.int m))] _ _ _
  refine ex_cons ?_
  walk_at "mAsgI"
  repeat walk_at "mI"
  rw [and7 h0]
  refine ex_cons ?_
  walk_at "mAsgI"
  walk_at "mI"
  refine ex_cons ?_
  walk_at "mAsgI"
  walk_at "mI"
  refine ex_cons (x1_mono (N' := fun l => Has l [("m", .val (.int m)), ("b", .val (.int (rn (m % 8)))), ("c", .val (.int (rn (m % 8))))]) (x1_if ?_) fun l hl => ex_has hl ?_)
  · repeat walk_at "mI"
    refine it_cases (fun hc => ?_) (fun hc => ?_)
    · simp only [Bool.or_eq_true, decide_eq_true_eq] at hc
      have er : rn (m % 8) = 1 := by unfold rn; rw [if_pos hc]
      rw [er]
      refine ex_cons ?_
      walk_at "mAsg2I"
      walk_at "mI"
      exact ex_nil ⟨rfl, rfl, rfl, trivial⟩
    · simp only [Bool.or_eq_false_iff, decide_eq_false_iff_not] at hc
      refine ex_cons (x1_if ?_)
      repeat walk_at "mI"
      refine it_cases (fun h2 => ?_) (fun h2 => ?_)
      · simp only [beq_iff_eq] at h2
        have er : rn (m % 8) = 2 := by unfold rn; rw [if_neg (by lia), if_pos h2]
        rw [er]
        refine ex_cons ?_
        walk_at "mAsg2I"
        walk_at "mI"
        exact ex_nil (ex_nil ⟨rfl, rfl, rfl, trivial⟩)
      · simp only [beq_eq_false_iff_ne, ne_eq] at h2
        have er : rn (m % 8) = 0 := by unfold rn; rw [if_neg (by lia), if_neg h2]
        rw [er]
        exact ex_nil (ex_nil ⟨rfl, rfl, rfl, trivial⟩)
  refine ex_cons ?_
  walk_at "mAugShr"
  walk_at "mI"
  refine ⟨by decide, ?_⟩
  rw [fdiv8]
  refine ex_cons ?_
  walk_at "mAsgI"
  repeat walk_at "mI"
  have h1 : 0 ≤ m / 8 := by lia
  rw [and7 h1]
  refine ex_cons (x1_mono (N' := fun l => (¬ (m / 8 % 8 - rn (m % 8) < 0)) ∧ Has l [("m", .val (.int (m / 8))), ("a", .val (.int (m / 8 % 8 - rn (m % 8)))), ("c", .val (.int (rn (m % 8))))]) (x1_if ?_) ?_)
  · repeat walk_at "mI"
    refine it_cases (fun hc => ?_) (fun hc => ?_)
    · simp only [decide_eq_true_eq] at hc
      refine ex_cons (x1_ret (ev_bool (evB_const ?_)))
      have : mentsu m = false := by unfold mentsu; rw [if_pos hc]
      rw [this] at hk; exact hk
    · simp only [decide_eq_false_iff_not] at hc
      exact ex_nil ⟨hc, rfl, rfl, rfl, trivial⟩
  rintro l ⟨hge, hl⟩
  have em : mentsu m = mentsuL 6 (m / 8 % 8 - rn (m % 8)) (rn (m % 8)) (m / 8) := by unfold mentsu; rw [if_neg hge]
  rw [em] at hk
  generalize m / 8 % 8 - rn (m % 8) = a at hl hk hge
  generalize rn (m % 8) = c at hl hk
  generalize m / 8 = m' at hl hk h1

  refine ex_has hl ?_
  refine ex_cons (x1_mono (N' := fun l => ∃ m c a, 0 ≤ m ∧ Has l [("m", .val (.int m)), ("c", .val (.int c))] ∧ k (.bool (mentsuL 0 a c m))) ?_ ?_)
  · walk_at "mRange"
    walk_at "mI"
    refine ⟨by decide, ?_⟩
    refine forw_inv (fun ds l => ∃ m c a, 0 ≤ m ∧ Has l [("m", .val (.int m)), ("a", .val (.int a)), ("c", .val (.int c))] ∧ k (.bool (mentsuL ds.length a c m))) ?_ ?_ _ _ ⟨m', c, a, h1, ⟨rfl, rfl, rfl, trivial⟩, hk⟩
    · rintro l ⟨m, c, a, h0, ⟨h1, h2, h3, _⟩, hk⟩
      exact ⟨m, c, a, h0, ⟨h1, h3, trivial⟩, hk⟩
    · rintro d ds l ⟨m, c, a, h0, hl, hk⟩
      refine ex_has (m' := [("m", .val (.int m)), ("a", .val (.int a)), ("c", .val (.int c))]) ?_ ?_
      · obtain ⟨h1, h2, h3, _⟩ := hl
        refine ⟨?_, ?_, ?_, trivial⟩ <;> rw [gt_st, if_neg (by decide)] <;> assumption
      refine ex_cons ?_
      walk_at "mAsgI"
      walk_at "mI"
      refine ex_cons ?_
      walk_at "mAsgI"
      walk_at "mI"
      refine ex_cons (x1_mono (N' := fun l => Has l [("m", .val (.int m)), ("b", .val (.int (c + rn a))), ("c", .val (.int (rn a)))]) (x1_if ?_) fun l hl => ex_has hl ?_)
      · repeat walk_at "mI"
        refine it_cases (fun hc => ?_) (fun hc => ?_)
        · simp only [Bool.or_eq_true, decide_eq_true_eq] at hc
          have er : rn a = 1 := by unfold rn; rw [if_pos hc]
          rw [er]
          refine ex_cons ?_
          walk_at "mAugAdd"
          walk_at "mI"
          refine ex_cons ?_
          walk_at "mAugAdd"
          walk_at "mI"
          exact ex_nil ⟨rfl, rfl, rfl, trivial⟩
        · simp only [Bool.or_eq_false_iff, decide_eq_false_iff_not] at hc
          refine ex_cons (x1_if ?_)
          repeat walk_at "mI"
          refine it_cases (fun h2 => ?_) (fun h2 => ?_)
          · simp only [beq_iff_eq] at h2
            have er : rn a = 2 := by unfold rn; rw [if_neg (by lia), if_pos h2]
            rw [er]
            refine ex_cons ?_
            walk_at "mAugAdd"
            walk_at "mI"
            refine ex_cons ?_
            walk_at "mAugAdd"
            walk_at "mI"
            exact ex_nil (ex_nil ⟨rfl, rfl, rfl, trivial⟩)
          · simp only [beq_eq_false_iff_ne, ne_eq] at h2
            have er : rn a = 0 := by unfold rn; rw [if_neg (by lia), if_neg h2]
            rw [er, Int.add_zero]
            exact ex_nil (ex_nil ⟨rfl, rfl, rfl, trivial⟩)
      refine ex_cons ?_
      walk_at "mAugShr"
      walk_at "mI"
      refine ⟨by decide, ?_⟩
      rw [fdiv8]
      refine ex_cons ?_
      walk_at "mAsgI"
      repeat walk_at "mI"
      have h1 : 0 ≤ m / 8 := by lia
      rw [and7 h1]
      refine ex_cons (x1_if ?_)
      repeat walk_at "mI"
      refine it_cases (fun hc => ?_) (fun hc => ?_)
      · simp only [decide_eq_true_eq] at hc
        refine ex_cons (x1_ret (ev_bool (evB_const ?_)))
        have : mentsuL (ds.length + 1) a c m = false := by unfold mentsuL; rw [if_pos hc]
        rw [List.length_cons, this] at hk; exact hk
      · simp only [decide_eq_false_iff_not] at hc
        have : mentsuL (ds.length + 1) a c m = mentsuL ds.length (m / 8 % 8 - (c + rn a)) (rn a) (m / 8) := by conv => lhs; unfold mentsuL; rw [if_neg hc]
        rw [List.length_cons, this] at hk
        exact ex_nil (ex_nil ⟨m / 8, rn a, _, h1, ⟨rfl, rfl, rfl, trivial⟩, hk⟩)
  rintro l ⟨m, c, a, h0, hl, hk⟩
  refine ex_has hl ?_
  refine ex_cons ?_
  walk_at "mAugShr"
  walk_at "mI"
  refine ⟨by decide, ?_⟩
  rw [fdiv8]
  refine ex_cons ?_
  walk_at "mAsgI"
  repeat walk_at "mI"
  rw [and7 (show 0 ≤ m / 8 by lia)]
  refine ex_cons (x1_ret (ev_bool ?_))
  repeat walk_at "mI"
  exact hk

set_option maxRecDepth 100000
set_option maxHeartbeats 4000000
theorem sm_at {p : Program} {w : World} {h₀ : Heap} {K : Frag} {C f sp : Addr} {mc : Value} {name : Str} {rest : List Value} (X : K.In h₀) (hg : specialIn K (.ref C) "__getattribute__" = some (some (.builtin "type.__getattribute__"))) (hr : readsIn K C mc = true)
    (e : findCls K (.ref C) mc name = some (.get (.builtin "staticmethod.__get__") (.ref sp) .none (.ref C))) (hp : recIn K sp "staticmethod" = some (.ref f :: rest)) : SmAt p w h₀ C name f := fun A s pl Q E g h =>
  method_cls (X.keeps g) hg (cls_bind (X.keeps g) hr e (wpAny_call (sm_get (s := { s with toks := s.toks + 1 }) (X.keeps g) hp (handed_on rfl (h _ (Ext.tok s _))))))

theorem sm_all {p : Program} {w : World} {h₀ : Heap} (hr : PySem.Challenge.rw_md0016_02 = PySem.Challenge.rw_md0016_02) (G : Gnd (topw.heap_39 w.params) h₀) : SmAt p w h₀ 63 "is_agari" 27 ∧ SmAt p w h₀ 63 "_is_mentsu" 37 ∧ SmAt p w h₀ 63 "_is_atama_mentsu" 47 ∧ SmAt p w h₀ 63 "_to_meld" 57 := by
  revert hr G
  k_fill
  intro hr G
  refine ⟨?_, ?_, ?_, ?_⟩
  all_goals
    refine' sm_at (mc := .type "type") G.X ?h1 ?h2 ?h3 ?h4
    case h1 => k_is
    case h3 => k_is
    case h2 => k_is
    case h4 => k_is

theorem atama_meets {p : Program} {w : World} {h₀ : Heap} (hr : PySem.Challenge.rw_md0016_02 = PySem.Challenge.rw_md0016_02) (G : Gnd (topw.heap_39 w.params) h₀) : Meets p w h₀ 47 2 Ratama := by
  have hme := mentsu_meets (p := p) hr G
  have hsm := (sm_all (p := p) hr G).2.1
  revert hr G
  k_fill
  intro hr G
  refine meets_def ["nn", "m"] [] [] (G.X _ _ (by k_is)) rfl G.lim (codeRec_of G.X (by k_is)) rfl rfl rfl rfl rfl (fun _ => .nil) ?hb ?hk (by decide) (by decide) ?_ (by decide)
  case hb =>
    intro s vs _ hl
    obtain ⟨v, v', rfl⟩ := vs2 hl
    exact BindsTo.of_eq rfl
  case hk =>
    intro n x hx
    simp only [List.mem_cons, List.not_mem_nil, or_false] at hx
    rcases hx with rfl | rfl <;> exact .inl rfl
  rintro ds k ⟨nn, m, rfl, h0, hk⟩
  refine ⟨rfl, fun A env eo hh hdp hun => ?_⟩
  have hn : env.scope.names = _ := congrArg Scope.names eo.scope
  have ok : EnvOk env := ⟨by rw [eo.scope], eo.glob, eo.blt⟩
  dsimp only at hn
  clear eo
  show Ex p w h₀ A env [(Str.ofString "nn", .val (.int nn)), (Str.ofString "m", .val (.int m))] _ _ _
  have fn37 : FnAt h₀ 37 := ⟨_, _, G.X _ _ (by k_is), rfl⟩
  have gA : Gl h₀ "Agari" (.ref 63) := G.gl (by k_is)
  refine ex_cons (x1_mono (N' := fun _ => atama nn m = false) (x1_if ?_) fun l hf => ?_)
  rotate_left
  · refine ex_cons (x1_ret (ev_bool (evB_const ?_)))
    rw [hf] at hk; exact hk
  repeat walk_at "mI"
  refine it_cases (fun hc => ?_) (fun hc => ?_)
  · simp only [beq_iff_eq] at hc
    refine ex_cons (x1_mono (N' := fun l => at2 m 2 = false ∧ Has l [("m", .val (.int m))]) (x1_if ?_) ?_)
    · repeat (first | walk_at "mI" | refine ⟨⟨by decide, by decide, by decide⟩, ?_⟩)
      rw [cond_dg h0 2 (by decide)]
      refine it_cases (fun hd => ?_) (fun hd => ?_)
      · simp only [decide_eq_true_eq, ge_iff_le] at hd
        refine tst_and (tst_B (evB_of ?_))
        (with_reducible refine' ev_scall ok hme fn37 hsm hh ?hr ?hu ?hx gA ?_ ?hm ?he ?hp ?hd); (case hr => lia); (case hu => lia); (case hx => exact kind_at hn rfl); (case hm => rfl); (case he => rfl); (case hp => rfl); (case hd => decide +kernel)
        (with_reducible refine' evS_cons (ev_int ?_) ?he); (case he => rfl)
        repeat (first | walk_at "mI" | refine ⟨⟨by decide, by decide, by decide⟩, ?_⟩)
        have hle := dg_le h0 hd
        refine evS_nil ⟨m - 2 * 8 ^ 2, rfl, by lia, _, rfl, ?_⟩
        refine it_cases (fun hg => ?_) (fun hg => ?_)
        · walk_at "mI"
          refine it_t rfl (ex_cons (x1_ret (ev_bool (evB_const ?_))))
          have e2 : at2 m 2 = true := by unfold at2; rw [hg]; simp [hd]
          have : atama nn m = true := by unfold atama; simp [hc, e2]
          rw [this] at hk; exact hk
        · refine it_f rfl (ex_nil ⟨by unfold at2; rw [hg]; simp, rfl, trivial⟩)
      · refine it_f rfl (ex_nil ⟨by unfold at2; simp only [decide_eq_false_iff_not, ge_iff_le] at hd; simp [hd], rfl, trivial⟩)
    rintro l ⟨hf2, hl⟩
    refine ex_has hl ?_
    refine ex_cons (x1_mono (N' := fun l => at2 m 5 = false ∧ Has l [("m", .val (.int m))]) (x1_if ?_) ?_)
    · repeat (first | walk_at "mI" | refine ⟨⟨by decide, by decide, by decide⟩, ?_⟩)
      rw [cond_dg h0 5 (by decide)]
      refine it_cases (fun hd => ?_) (fun hd => ?_)
      · simp only [decide_eq_true_eq, ge_iff_le] at hd
        refine tst_and (tst_B (evB_of ?_))
        (with_reducible refine' ev_scall ok hme fn37 hsm hh ?hr ?hu ?hx gA ?_ ?hm ?he ?hp ?hd); (case hr => lia); (case hu => lia); (case hx => exact kind_at hn rfl); (case hm => rfl); (case he => rfl); (case hp => rfl); (case hd => decide +kernel)
        (with_reducible refine' evS_cons (ev_int ?_) ?he); (case he => rfl)
        repeat (first | walk_at "mI" | refine ⟨⟨by decide, by decide, by decide⟩, ?_⟩)
        have hle := dg_le h0 hd
        refine evS_nil ⟨m - 2 * 8 ^ 5, rfl, by lia, _, rfl, ?_⟩
        refine it_cases (fun hg => ?_) (fun hg => ?_)
        · walk_at "mI"
          refine it_t rfl (ex_cons (x1_ret (ev_bool (evB_const ?_))))
          have e2 : at2 m 5 = true := by unfold at2; rw [hg]; simp [hd]
          have : atama nn m = true := by unfold atama; simp [hc, e2]
          rw [this] at hk; exact hk
        · refine it_f rfl (ex_nil ⟨by unfold at2; rw [hg]; simp, rfl, trivial⟩)
      · refine it_f rfl (ex_nil ⟨by unfold at2; simp only [decide_eq_false_iff_not, ge_iff_le] at hd; simp [hd], rfl, trivial⟩)
    rintro l ⟨hf5, hl⟩
    refine ex_has hl ?_
    refine ex_cons (x1_mono (N' := fun l => at2 m 8 = false ∧ Has l [("m", .val (.int m))]) (x1_if ?_) ?_)
    · repeat (first | walk_at "mI" | refine ⟨⟨by decide, by decide, by decide⟩, ?_⟩)
      rw [cond_dg h0 8 (by decide)]
      refine it_cases (fun hd => ?_) (fun hd => ?_)
      · simp only [decide_eq_true_eq, ge_iff_le] at hd
        refine tst_and (tst_B (evB_of ?_))
        (with_reducible refine' ev_scall ok hme fn37 hsm hh ?hr ?hu ?hx gA ?_ ?hm ?he ?hp ?hd); (case hr => lia); (case hu => lia); (case hx => exact kind_at hn rfl); (case hm => rfl); (case he => rfl); (case hp => rfl); (case hd => decide +kernel)
        (with_reducible refine' evS_cons (ev_int ?_) ?he); (case he => rfl)
        repeat (first | walk_at "mI" | refine ⟨⟨by decide, by decide, by decide⟩, ?_⟩)
        have hle := dg_le h0 hd
        refine evS_nil ⟨m - 2 * 8 ^ 8, rfl, by lia, _, rfl, ?_⟩
        refine it_cases (fun hg => ?_) (fun hg => ?_)
        · walk_at "mI"
          refine it_t rfl (ex_cons (x1_ret (ev_bool (evB_const ?_))))
          have e2 : at2 m 8 = true := by unfold at2; rw [hg]; simp [hd]
          have : atama nn m = true := by unfold atama; simp [hc, e2]
          rw [this] at hk; exact hk
        · refine it_f rfl (ex_nil ⟨by unfold at2; rw [hg]; simp, rfl, trivial⟩)
      · refine it_f rfl (ex_nil ⟨by unfold at2; simp only [decide_eq_false_iff_not, ge_iff_le] at hd; simp [hd], rfl, trivial⟩)
    rintro l ⟨hf8, hl⟩
    refine ex_has hl ?_
    refine ex_nil ?_
    unfold atama; simp [hc, hf2, hf5, hf8]
  simp only [beq_eq_false_iff_ne, ne_eq] at hc
  have hc0 := hc
  clear hc
  refine ex_cons (x1_if ?_)
  repeat walk_at "mI"
  refine it_cases (fun hc => ?_) (fun hc => ?_)
  · simp only [beq_iff_eq] at hc
    refine ex_cons (x1_mono (N' := fun l => at2 m 1 = false ∧ Has l [("m", .val (.int m))]) (x1_if ?_) ?_)
    · repeat (first | walk_at "mI" | refine ⟨⟨by decide, by decide, by decide⟩, ?_⟩)
      rw [cond_dg h0 1 (by decide)]
      refine it_cases (fun hd => ?_) (fun hd => ?_)
      · simp only [decide_eq_true_eq, ge_iff_le] at hd
        refine tst_and (tst_B (evB_of ?_))
        (with_reducible refine' ev_scall ok hme fn37 hsm hh ?hr ?hu ?hx gA ?_ ?hm ?he ?hp ?hd); (case hr => lia); (case hu => lia); (case hx => exact kind_at hn rfl); (case hm => rfl); (case he => rfl); (case hp => rfl); (case hd => decide +kernel)
        (with_reducible refine' evS_cons (ev_int ?_) ?he); (case he => rfl)
        repeat (first | walk_at "mI" | refine ⟨⟨by decide, by decide, by decide⟩, ?_⟩)
        have hle := dg_le h0 hd
        refine evS_nil ⟨m - 2 * 8 ^ 1, rfl, by lia, _, rfl, ?_⟩
        refine it_cases (fun hg => ?_) (fun hg => ?_)
        · walk_at "mI"
          refine it_t rfl (ex_cons (x1_ret (ev_bool (evB_const ?_))))
          have e2 : at2 m 1 = true := by unfold at2; rw [hg]; simp [hd]
          have : atama nn m = true := by unfold atama; simp [hc, e2]
          rw [this] at hk; exact hk
        · refine it_f rfl (ex_nil ⟨by unfold at2; rw [hg]; simp, rfl, trivial⟩)
      · refine it_f rfl (ex_nil ⟨by unfold at2; simp only [decide_eq_false_iff_not, ge_iff_le] at hd; simp [hd], rfl, trivial⟩)
    rintro l ⟨hf1, hl⟩
    refine ex_has hl ?_
    refine ex_cons (x1_mono (N' := fun l => at2 m 4 = false ∧ Has l [("m", .val (.int m))]) (x1_if ?_) ?_)
    · repeat (first | walk_at "mI" | refine ⟨⟨by decide, by decide, by decide⟩, ?_⟩)
      rw [cond_dg h0 4 (by decide)]
      refine it_cases (fun hd => ?_) (fun hd => ?_)
      · simp only [decide_eq_true_eq, ge_iff_le] at hd
        refine tst_and (tst_B (evB_of ?_))
        (with_reducible refine' ev_scall ok hme fn37 hsm hh ?hr ?hu ?hx gA ?_ ?hm ?he ?hp ?hd); (case hr => lia); (case hu => lia); (case hx => exact kind_at hn rfl); (case hm => rfl); (case he => rfl); (case hp => rfl); (case hd => decide +kernel)
        (with_reducible refine' evS_cons (ev_int ?_) ?he); (case he => rfl)
        repeat (first | walk_at "mI" | refine ⟨⟨by decide, by decide, by decide⟩, ?_⟩)
        have hle := dg_le h0 hd
        refine evS_nil ⟨m - 2 * 8 ^ 4, rfl, by lia, _, rfl, ?_⟩
        refine it_cases (fun hg => ?_) (fun hg => ?_)
        · walk_at "mI"
          refine it_t rfl (ex_cons (x1_ret (ev_bool (evB_const ?_))))
          have e2 : at2 m 4 = true := by unfold at2; rw [hg]; simp [hd]
          have : atama nn m = true := by unfold atama; simp [hc, e2]
          rw [this] at hk; exact hk
        · refine it_f rfl (ex_nil ⟨by unfold at2; rw [hg]; simp, rfl, trivial⟩)
      · refine it_f rfl (ex_nil ⟨by unfold at2; simp only [decide_eq_false_iff_not, ge_iff_le] at hd; simp [hd], rfl, trivial⟩)
    rintro l ⟨hf4, hl⟩
    refine ex_has hl ?_
    refine ex_cons (x1_mono (N' := fun l => at2 m 7 = false ∧ Has l [("m", .val (.int m))]) (x1_if ?_) ?_)
    · repeat (first | walk_at "mI" | refine ⟨⟨by decide, by decide, by decide⟩, ?_⟩)
      rw [cond_dg h0 7 (by decide)]
      refine it_cases (fun hd => ?_) (fun hd => ?_)
      · simp only [decide_eq_true_eq, ge_iff_le] at hd
        refine tst_and (tst_B (evB_of ?_))
        (with_reducible refine' ev_scall ok hme fn37 hsm hh ?hr ?hu ?hx gA ?_ ?hm ?he ?hp ?hd); (case hr => lia); (case hu => lia); (case hx => exact kind_at hn rfl); (case hm => rfl); (case he => rfl); (case hp => rfl); (case hd => decide +kernel)
        (with_reducible refine' evS_cons (ev_int ?_) ?he); (case he => rfl)
        repeat (first | walk_at "mI" | refine ⟨⟨by decide, by decide, by decide⟩, ?_⟩)
        have hle := dg_le h0 hd
        refine evS_nil ⟨m - 2 * 8 ^ 7, rfl, by lia, _, rfl, ?_⟩
        refine it_cases (fun hg => ?_) (fun hg => ?_)
        · walk_at "mI"
          refine it_t rfl (ex_cons (x1_ret (ev_bool (evB_const ?_))))
          have e2 : at2 m 7 = true := by unfold at2; rw [hg]; simp [hd]
          have : atama nn m = true := by unfold atama; simp [hc, e2]
          rw [this] at hk; exact hk
        · refine it_f rfl (ex_nil ⟨by unfold at2; rw [hg]; simp, rfl, trivial⟩)
      · refine it_f rfl (ex_nil ⟨by unfold at2; simp only [decide_eq_false_iff_not, ge_iff_le] at hd; simp [hd], rfl, trivial⟩)
    rintro l ⟨hf7, hl⟩
    refine ex_has hl ?_
    refine ex_nil (ex_nil ?_)
    unfold atama; simp [hc, hf1, hf4, hf7]
  simp only [beq_eq_false_iff_ne, ne_eq] at hc
  have hc1 := hc
  clear hc
  refine ex_cons (x1_if ?_)
  repeat walk_at "mI"
  refine it_cases (fun hc => ?_) (fun hc => ?_)
  · simp only [beq_iff_eq] at hc
    refine ex_cons (x1_mono (N' := fun l => at2 m 0 = false ∧ Has l [("m", .val (.int m))]) (x1_if ?_) ?_)
    · repeat (first | walk_at "mI" | refine ⟨⟨by decide, by decide, by decide⟩, ?_⟩)
      rw [and7 h0, ← dg0]
      refine it_cases (fun hd => ?_) (fun hd => ?_)
      · simp only [decide_eq_true_eq, ge_iff_le] at hd
        refine tst_and (tst_B (evB_of ?_))
        (with_reducible refine' ev_scall ok hme fn37 hsm hh ?hr ?hu ?hx gA ?_ ?hm ?he ?hp ?hd); (case hr => lia); (case hu => lia); (case hx => exact kind_at hn rfl); (case hm => rfl); (case he => rfl); (case hp => rfl); (case hd => decide +kernel)
        (with_reducible refine' evS_cons (ev_int ?_) ?he); (case he => rfl)
        repeat (first | walk_at "mI" | refine ⟨⟨by decide, by decide, by decide⟩, ?_⟩)
        have hle := dg_le h0 hd
        refine evS_nil ⟨m - 2 * 8 ^ 0, rfl, by lia, _, rfl, ?_⟩
        refine it_cases (fun hg => ?_) (fun hg => ?_)
        · walk_at "mI"
          refine it_t rfl (ex_cons (x1_ret (ev_bool (evB_const ?_))))
          have e2 : at2 m 0 = true := by unfold at2; rw [hg]; simp [hd]
          have : atama nn m = true := by unfold atama; simp [hc, e2]
          rw [this] at hk; exact hk
        · refine it_f rfl (ex_nil ⟨by unfold at2; rw [hg]; simp, rfl, trivial⟩)
      · refine it_f rfl (ex_nil ⟨by unfold at2; simp only [decide_eq_false_iff_not, ge_iff_le] at hd; simp [hd], rfl, trivial⟩)
    rintro l ⟨hf0, hl⟩
    refine ex_has hl ?_
    refine ex_cons (x1_mono (N' := fun l => at2 m 3 = false ∧ Has l [("m", .val (.int m))]) (x1_if ?_) ?_)
    · repeat (first | walk_at "mI" | refine ⟨⟨by decide, by decide, by decide⟩, ?_⟩)
      rw [cond_dg h0 3 (by decide)]
      refine it_cases (fun hd => ?_) (fun hd => ?_)
      · simp only [decide_eq_true_eq, ge_iff_le] at hd
        refine tst_and (tst_B (evB_of ?_))
        (with_reducible refine' ev_scall ok hme fn37 hsm hh ?hr ?hu ?hx gA ?_ ?hm ?he ?hp ?hd); (case hr => lia); (case hu => lia); (case hx => exact kind_at hn rfl); (case hm => rfl); (case he => rfl); (case hp => rfl); (case hd => decide +kernel)
        (with_reducible refine' evS_cons (ev_int ?_) ?he); (case he => rfl)
        repeat (first | walk_at "mI" | refine ⟨⟨by decide, by decide, by decide⟩, ?_⟩)
        have hle := dg_le h0 hd
        refine evS_nil ⟨m - 2 * 8 ^ 3, rfl, by lia, _, rfl, ?_⟩
        refine it_cases (fun hg => ?_) (fun hg => ?_)
        · walk_at "mI"
          refine it_t rfl (ex_cons (x1_ret (ev_bool (evB_const ?_))))
          have e2 : at2 m 3 = true := by unfold at2; rw [hg]; simp [hd]
          have : atama nn m = true := by unfold atama; simp [hc, e2]
          rw [this] at hk; exact hk
        · refine it_f rfl (ex_nil ⟨by unfold at2; rw [hg]; simp, rfl, trivial⟩)
      · refine it_f rfl (ex_nil ⟨by unfold at2; simp only [decide_eq_false_iff_not, ge_iff_le] at hd; simp [hd], rfl, trivial⟩)
    rintro l ⟨hf3, hl⟩
    refine ex_has hl ?_
    refine ex_cons (x1_mono (N' := fun l => at2 m 6 = false ∧ Has l [("m", .val (.int m))]) (x1_if ?_) ?_)
    · repeat (first | walk_at "mI" | refine ⟨⟨by decide, by decide, by decide⟩, ?_⟩)
      rw [cond_dg h0 6 (by decide)]
      refine it_cases (fun hd => ?_) (fun hd => ?_)
      · simp only [decide_eq_true_eq, ge_iff_le] at hd
        refine tst_and (tst_B (evB_of ?_))
        (with_reducible refine' ev_scall ok hme fn37 hsm hh ?hr ?hu ?hx gA ?_ ?hm ?he ?hp ?hd); (case hr => lia); (case hu => lia); (case hx => exact kind_at hn rfl); (case hm => rfl); (case he => rfl); (case hp => rfl); (case hd => decide +kernel)
        (with_reducible refine' evS_cons (ev_int ?_) ?he); (case he => rfl)
        repeat (first | walk_at "mI" | refine ⟨⟨by decide, by decide, by decide⟩, ?_⟩)
        have hle := dg_le h0 hd
        refine evS_nil ⟨m - 2 * 8 ^ 6, rfl, by lia, _, rfl, ?_⟩
        refine it_cases (fun hg => ?_) (fun hg => ?_)
        · walk_at "mI"
          refine it_t rfl (ex_cons (x1_ret (ev_bool (evB_const ?_))))
          have e2 : at2 m 6 = true := by unfold at2; rw [hg]; simp [hd]
          have : atama nn m = true := by unfold atama; simp [hc, e2]
          rw [this] at hk; exact hk
        · refine it_f rfl (ex_nil ⟨by unfold at2; rw [hg]; simp, rfl, trivial⟩)
      · refine it_f rfl (ex_nil ⟨by unfold at2; simp only [decide_eq_false_iff_not, ge_iff_le] at hd; simp [hd], rfl, trivial⟩)
    rintro l ⟨hf6, hl⟩
    refine ex_has hl ?_
    refine ex_nil (ex_nil (ex_nil ?_))
    unfold atama; simp [hc, hf0, hf3, hf6]
  simp only [beq_eq_false_iff_ne, ne_eq] at hc
  refine ex_nil (ex_nil (ex_nil ?_))
  unfold atama; simp [hc0, hc1, hc]

set_option maxRecDepth 100000
set_option maxHeartbeats 4000000

def Ragari : Spec := fun ds k => ∃ ts ns, ((ds = [.list (PI ts)] ∧ ns = ts) ∨ ∃ ms, ds = [.list (PI ts), .list (PL ms)] ∧ ms ≠ [] ∧ ms.length ≤ 4 ∧ MeldsOk ms ∧ ts.length = 34 ∧ ∀ i, i < 34 → ts.getD i 0 = ns.getD i 0 + cnt ms i) ∧ ns.length = 34 ∧ (∀ i, 0 ≤ ns.getD i 0 ∧ ns.getD i 0 ≤ 4) ∧ k (.bool (AGb ns))
def dvA (j : Nat) : List Value := if j = 1 then [.none] else []
def ddA (j : Nat) : List PyData := if j = 1 then [.none] else []
theorem vsA {vs : List Value} (h : vs.length + (dvA vs.length).length = 2) : (∃ v, vs = [v]) ∨ ∃ v v', vs = [v, v'] := by
  rcases vs with _ | ⟨v, _ | ⟨v', _ | ⟨_, vs⟩⟩⟩
  · cases h
  · exact .inl ⟨v, rfl⟩
  · exact .inr ⟨v, v', rfl⟩
  · simp [dvA] at h
theorem mul4 {a n : Int} (h : 0 ≤ n ∧ n ≤ 4) : IntMulOk a n := by
  have : Builtin.Int.intBits n ≤ 64 := by
    rcases five h with rfl | rfl | rfl | rfl | rfl <;> decide
  exact IntMulOk.of_right this
theorem or4 {a b c d : Int} (ha : 0 ≤ a) (hb : 0 ≤ b) (hc : 0 ≤ c) (hd : 0 ≤ d) : (!(Builtin.bitOr (Builtin.bitOr (Builtin.bitOr a b) c) d != 0)) = true ↔ (a = 0 ∧ b = 0) ∧ c = 0 ∧ d = 0 := by
  have h1 := or_zero ha hb
  have h2 := or_zero h1.1 hc
  have h3 := or_zero h2.1 hd
  have e : (!(Builtin.bitOr (Builtin.bitOr (Builtin.bitOr a b) c) d != 0)) = true ↔ Builtin.bitOr (Builtin.bitOr (Builtin.bitOr a b) c) d = 0 := by simp
  rw [e, h3.2, h2.2, h1.2]
  simp only [and_assoc]
theorem or6 {a b c d e f : Int} (ha : 0 ≤ a) (hb : 0 ≤ b) (hc : 0 ≤ c) (hd : 0 ≤ d) (he : 0 ≤ e) (hf : 0 ≤ f) : (!(Builtin.bitOr (Builtin.bitOr (Builtin.bitOr (Builtin.bitOr (Builtin.bitOr a b) c) d) e) f != 0)) = true ↔ (a = 0 ∧ b = 0) ∧ (c = 0 ∧ d = 0) ∧ e = 0 ∧ f = 0 := by
  have h1 := or_zero ha hb
  have h2 := or_zero h1.1 hc
  have h3 := or_zero h2.1 hd
  have h4 := or_zero h3.1 he
  have h5 := or_zero h4.1 hf
  have e : (!(Builtin.bitOr (Builtin.bitOr (Builtin.bitOr (Builtin.bitOr (Builtin.bitOr a b) c) d) e) f != 0)) = true ↔ Builtin.bitOr (Builtin.bitOr (Builtin.bitOr (Builtin.bitOr (Builtin.bitOr a b) c) d) e) f = 0 := by simp
  rw [e, h5.2, h4.2, h3.2, h2.2, h1.2]
  simp only [and_assoc]
theorem fsum (ns : List Int) (s : Nat) : ((ns.getD (9 * s + 0) 0 + ns.getD (9 * s + 3) 0 + ns.getD (9 * s + 6) 0) + (ns.getD (9 * s + 1) 0 + ns.getD (9 * s + 4) 0 + ns.getD (9 * s + 7) 0) + (ns.getD (9 * s + 2) 0 + ns.getD (9 * s + 5) 0 + ns.getD (9 * s + 8) 0)).fmod 3 = (seg ns s).sum % 3 := by
  have : seg ns s = [ns.getD (9 * s + 0) 0, ns.getD (9 * s + 1) 0, ns.getD (9 * s + 2) 0, ns.getD (9 * s + 3) 0, ns.getD (9 * s + 4) 0, ns.getD (9 * s + 5) 0, ns.getD (9 * s + 6) 0, ns.getD (9 * s + 7) 0, ns.getD (9 * s + 8) 0] := rfl
  rw [this, Int.fmod_eq_emod_of_nonneg _ (by decide)]
  simp only [List.sum_cons, List.sum_nil]
  congr 1
  lia
theorem fwsum (ns : List Int) (s : Nat) : ((ns.getD (9 * s + 0) 0 + ns.getD (9 * s + 3) 0 + ns.getD (9 * s + 6) 0) * 1 + (ns.getD (9 * s + 1) 0 + ns.getD (9 * s + 4) 0 + ns.getD (9 * s + 7) 0) * 2).fmod 3 = wsum (seg ns s) % 3 := by
  rw [Int.fmod_eq_emod_of_nonneg _ (by decide)]; rfl
theorem num_seg0 {ns : List Int} (hb : ∀ i, 0 ≤ ns.getD i 0 ∧ ns.getD i 0 ≤ 4) (s : Nat) : 0 ≤ num (seg ns s) := num_nonneg _ fun a ha => (seg_four hb s a ha).1

theorem it_any {c : Bool} {P : Bool → Prop} (t : c = true → P true) (f : c = false → P false) : P c := by
  cases c with
  | true => exact t rfl
  | false => exact f rfl
theorem bne_ff {a b : Int} (h : (a != b) = false) : a = b := by simpa using h
theorem suit_two {ns : List Int} (hl : ns.length = 34) (hb : ∀ i, 0 ≤ ns.getD i 0 ∧ ns.getD i 0 ≤ 4) (h1 : hasv ns 1 = false) (h4 : hasv ns 4 = false) (h2 : hasv ns 2 = false) {s a b : Nat} (hs : s < 3) (hab : a < 3 ∧ b < 3 ∧ a ≠ s ∧ b ≠ s ∧ a ≠ b) (hn : (seg ns s).sum % 3 = 2) :
    PS ns ↔ GG 0 0 0 (seg ns a) = true ∧ GG 0 0 0 (seg ns b) = true ∧ atama (wsum (seg ns s) % 3) (num (seg ns s)) = true := by
  rw [ps_iff_suit hl hb h1 h4 h2 hs hn]
  constructor
  · rintro ⟨h, ha⟩
    exact ⟨h a hab.1 hab.2.2.1, h b hab.2.1 hab.2.2.2.1, ha⟩
  · rintro ⟨ga, gb, ha⟩
    refine ⟨fun s' hs' hne => ?_, ha⟩
    have : s' = a ∨ s' = b := by lia
    rcases this with rfl | rfl <;> assumption

theorem agari_meets {p : Program} {w : World} {h₀ : Heap} (hr : PySem.Challenge.rw_md0016_02 = PySem.Challenge.rw_md0016_02) (G : Gnd (topw.heap_39 w.params) h₀) : Meets p w h₀ 27 3 Ragari := by
  have hme := mentsu_meets (p := p) hr G
  have hat := atama_meets (p := p) hr G
  have hml := meld_meets (p := p) hr G
  have hsm := sm_all (p := p) hr G
  revert hr G
  k_fill
  intro hr G
  refine meets_def2 ["tiles_34", "open_sets_34"] dvA ddA (G.X _ _ (by k_is)) rfl G.lim (codeRec_of G.X (by k_is)) rfl rfl rfl rfl rfl ?hdd ?hb ?hk (by decide) (by decide) ?hone ?_ (by decide)
  case hdd =>
    intro j h
    unfold dvA ddA
    split
    · exact .cons .none .nil
    · exact .nil
  case hone => intro j j' h1 h2; lia
  case hb =>
    intro s vs hg hl
    rcases vsA hl with ⟨v, rfl⟩ | ⟨v, v', rfl⟩
    · exact BindsTo.of_defaults rfl (hg _ _ (G.X _ _ (by k_is))) rfl rfl rfl
    · exact BindsTo.of_defaults rfl (hg _ _ (G.X _ _ (by k_is))) rfl rfl rfl
  case hk =>
    intro n x hx
    simp only [List.mem_cons, List.not_mem_nil, or_false] at hx
    rcases hx with rfl | rfl <;> exact .inl rfl
  rintro ds k ⟨ts, ns, hor, hl, hb, hk⟩
  refine ⟨?hlen, fun A env eo hh hdp hun => ?_⟩
  case hlen =>
    rcases hor with ⟨rfl, _⟩ | ⟨ms, rfl, _⟩ <;> rfl
  have hn : env.scope.names = _ := congrArg Scope.names eo.scope
  have ok : EnvOk env := ⟨by rw [eo.scope], eo.glob, eo.blt⟩
  have hce : env.cells = [(Str.ofString "tiles", env.locals + 1)] := eo.cells.trans rfl
  dsimp only at hn
  clear eo
  have hcl : env.cells.lookup (Str.ofString "tiles") = some (env.locals + 1) := by rw [hce]; rfl
  have fn37 : FnAt h₀ 37 := ⟨_, _, G.X _ _ (by k_is), rfl⟩
  have fn47 : FnAt h₀ 47 := ⟨_, _, G.X _ _ (by k_is), rfl⟩
  have fn57 : FnAt h₀ 57 := ⟨_, _, G.X _ _ (by k_is), rfl⟩
  have gA : Gl h₀ "Agari" (.ref 63) := G.gl (by k_is)
  refine ex_cons (x1_mono (N' := fun l => Has l [("tiles", .val (.list (PI ns)))]) (x1_if ?_) fun l hlo => ex_has hlo ?_)
  · rcases hor with ⟨rfl, rfl⟩ | ⟨ms, rfl, hne, h4, hok, hts, heq⟩
    · show Tst p w h₀ A env [(Str.ofString "tiles_34", .val (.list (PI ns))), (Str.ofString "open_sets_34", .val .none)] _ _
      (with_reducible refine' tst_none ok.kind ?hx ?_ ?hd); (case hx => exact rfl); (case hd => decide +kernel)
      refine it_f rfl (ex_cons ?_)
      (with_reducible refine' x1_asgV ok.kind ?hx ?_ ?hs); (case hx => exact stored_cell hn rfl hcl); (case hs => rfl)
      (with_reducible refine' ev_name ok.kind ?hx ?_ ?hd); (case hx => exact rfl); (case hd => decide +kernel)
      exact ex_nil ⟨rfl, trivial⟩
    · show Tst p w h₀ A env [(Str.ofString "tiles_34", .val (.list (PI ts))), (Str.ofString "open_sets_34", .val (.list (PL ms)))] _ _
      refine tst_list ?_
      (with_reducible refine' ev_nameAny ok.kind ?hx ?_ ?hd); (case hx => exact rfl); (case hd => decide +kernel)
      have hpl : (PL ms).length = ms.length := by simp [PL]
      refine ⟨_, rfl, by rw [hpl]; lia, it_t (by cases ms with | nil => exact absurd rfl hne | cons _ _ => rfl) ?_⟩
      refine ex_cons ?_
      (with_reducible refine' x1_asgN ok.kind ?hx (evN_list ok ?hx2 ?hB ?_ ?he ?hd) ?hs); (case hx => exact stored_cell hn rfl hcl); (case hs => rfl); (case hx2 => exact kind_at hn rfl); (case hB => exact G.bi (by k_is) (by kernel_rfl) (by decide +kernel)); (case he => rfl); (case hd => decide +kernel)
      walk_at "mI"
      refine ⟨by rw [hts]; decide, ?_⟩
      refine ex_cons ?_
      (with_reducible refine' x1_for hh ok.kind ?hx (it_list ?_) ?hs); (case hx => exact stored_at hn rfl); (case hs => intro _; rfl)
      (with_reducible refine' ev_name ok.kind ?hx ?_ ?hd); (case hx => exact rfl); (case hd => decide +kernel)
      refine ⟨_, rfl, ?_⟩
      refine forw_inv (fun ds l => ∃ ms' cur, ds = PL ms' ∧ Has l [("tiles", .own (PI cur))] ∧ cur.length = 34 ∧ MeldsOk ms' ∧ ∀ i, i < 34 → cur.getD i 0 = ns.getD i 0 + cnt ms' i) ?_ ?_ _ _ ⟨ms, ts, rfl, ⟨rfl, trivial⟩, hts, hok, heq⟩
      · rintro l ⟨ms', cur, e, hlo, hc, _, heq⟩
        cases ms' with
        | cons _ _ => cases e
        | nil =>
          have : cur = ns := eq_of_getD hc hl fun i hi => by rw [heq i hi, cnt_nil]; lia
          subst this
          exact ex_has hlo (ex_freeze (x := "tiles") rfl (ex_nil ⟨rfl, trivial⟩))
      · clear heq hts hok hne h4 hpl
        rintro d ds l ⟨ms', cur, e, ⟨g1, _⟩, hc, hok, heq⟩
        cases ms' with
        | nil => cases e
        | cons m ms' =>
          obtain ⟨rfl, rfl⟩ := List.cons.inj (show d :: ds = .list (PI m) :: PL ms' from e)
          obtain ⟨hm, hin⟩ := hok m (.head _)
          have hok' : MeldsOk ms' := fun q hq => hok q (.tail _ hq)
          have nxt : ∀ cur' : List Int, cur' = m.foldl sub1 cur → cur'.length = 34 ∧ ∀ i, i < 34 → cur'.getD i 0 = ns.getD i 0 + cnt ms' i := fun cur' e => by
            subst e
            obtain ⟨h1, h2⟩ := subs_get m cur hc hin
            refine ⟨h1, fun i hi => ?_⟩
            rw [h2, heq i hi, cnt_cons]; lia
          refine ex_has (m' := [("tiles", .own (PI cur)), ("meld", .val (.list (PI m)))]) ⟨by rw [gt_st, if_neg (by decide)]; exact g1, by rw [gt_st, if_pos rfl], trivial⟩ ?_
          have fit : ∀ {c : List Int}, c.length = 34 → (c.length : Int) < 2 ^ 63 := fun h => by rw [h]; decide
          have step : ∀ (cur : List Int) (a : Int), cur.length = 34 → (sub1 cur a).length = 34 := fun cur a h => by rw [sub1_len]; exact h
          rcases m with _ | ⟨a, _ | ⟨b, _ | ⟨c, m⟩⟩⟩
          · simp at hm
          · simp at hm
          · simp at hm
          have ha := hin a (.head _)
          have hb' := hin b (.tail _ (.head _))
          have hc' := hin c (.tail _ (.tail _ (.head _)))
          have l0 : 0 < (a :: b :: c :: m).length ∧ ((a :: b :: c :: m).length : Int) < 2 ^ 63 := ⟨by simp, by rcases hm with h | h <;> rw [h] <;> decide⟩
          have l1 : 1 < (a :: b :: c :: m).length ∧ ((a :: b :: c :: m).length : Int) < 2 ^ 63 := ⟨by simp, l0.2⟩
          have l2 : 2 < (a :: b :: c :: m).length ∧ ((a :: b :: c :: m).length : Int) < 2 ^ 63 := ⟨by simp, l0.2⟩
          have s1 := step cur a hc
          have s2 := step (sub1 cur a) b s1
          have s3 := step (sub1 (sub1 cur a) b) c s2
          refine ex_cons ?_
          (with_reducible refine' x1_item_sub ok.kind ?hg ?hf ?_ ?hi ?hd); (case hg => exact rfl); (case hf => exact fit hc); (case hi => intros; rfl); (case hd => decide +kernel)
          repeat (first | walk_at "mI" | refine ⟨l0, ?_⟩)
          refine ⟨show 0 ≤ a ∧ a < _ by lia, ?_⟩
          walk_at "mI"
          refine ex_cons ?_
          (with_reducible refine' x1_item_sub (ns := sub1 cur a) ok.kind ?hg ?hf ?_ ?hi ?hd); (case hg => exact rfl); (case hf => exact fit s1); (case hi => intros; rfl); (case hd => decide +kernel)
          repeat (first | walk_at "mI" | refine ⟨l1, ?_⟩)
          refine ⟨show 0 ≤ b ∧ b < _ by lia, ?_⟩
          walk_at "mI"
          refine ex_cons ?_
          (with_reducible refine' x1_item_sub (ns := sub1 (sub1 cur a) b) ok.kind ?hg ?hf ?_ ?hi ?hd); (case hg => exact rfl); (case hf => exact fit s2); (case hi => intros; rfl); (case hd => decide +kernel)
          repeat (first | walk_at "mI" | refine ⟨l2, ?_⟩)
          refine ⟨show 0 ≤ c ∧ c < _ by lia, ?_⟩
          walk_at "mI"
          refine ex_cons (x1_if ?_)
          (with_reducible refine tst_gt ?_ ?hm); (case hm => with_unfolding_all rfl)
          (with_reducible refine' evI_len ok ?hx ?hB ?_ ?he ?hd); (case hx => exact kind_at hn rfl); (case hB => exact G.bi (by k_is) (by kernel_rfl) (by decide +kernel)); (case he => rfl); (case hd => decide +kernel)
          (with_reducible refine' ev_nameAny ok.kind ?hx ?_ ?hd); (case hx => exact rfl); (case hd => decide +kernel)
          have hpl : (PI (a :: b :: c :: m)).length = (a :: b :: c :: m).length := by simp [PI]
          refine ⟨_, rfl, by rw [hpl]; exact l0.2, ?_⟩
          rw [hpl]
          walk_at "mI"
          refine it_cases (fun hq => ?_) (fun hq => ?_)
          · simp only [decide_eq_true_eq, gt_iff_lt] at hq
            rcases m with _ | ⟨d, _ | ⟨_, _⟩⟩
            · simp at hq
            · have hd' := hin d (.tail _ (.tail _ (.tail _ (.head _))))
              refine ex_cons ?_
              (with_reducible refine' x1_item_sub (ns := sub1 (sub1 (sub1 cur a) b) c) ok.kind ?hg ?hf ?_ ?hi ?hd); (case hg => exact rfl); (case hf => exact fit s3); (case hi => intros; rfl); (case hd => decide +kernel)
              have l3 : 3 < (a :: b :: c :: d :: []).length ∧ ((a :: b :: c :: d :: []).length : Int) < 2 ^ 63 := ⟨by simp, l0.2⟩
              repeat (first | walk_at "mI" | refine ⟨l3, ?_⟩)
              refine ⟨show 0 ≤ d ∧ d < _ by lia, ?_⟩
              walk_at "mI"
              obtain ⟨n1, n2⟩ := nxt _ rfl
              exact ex_nil (ex_nil ⟨ms', _, rfl, ⟨rfl, trivial⟩, n1, hok', n2⟩)
            · simp at hm
          · simp only [decide_eq_false_iff_not, gt_iff_lt] at hq
            rcases m with _ | ⟨d, m⟩
            · obtain ⟨n1, n2⟩ := nxt _ rfl
              exact ex_nil (ex_nil ⟨ms', _, rfl, ⟨rfl, trivial⟩, n1, hok', n2⟩)
            · exfalso
              simp at hq hm
              lia
  refine ex_cons ?_
  walk_at "mAsgI"
  repeat (first | walk_at "mI" | refine ⟨by rw [hl]; decide, ?_⟩ | refine ⟨⟨(hb _).1, Int.le_trans (hb _).2 (by decide), by decide⟩, ?_⟩)
  rw [jv_eq hb]
  refine ex_cons (x1_mono (N' := fun l => hasv ns 4 = false ∧ Has l [("tiles", .val (.list (PI ns))), ("j", .val (.int (J5 (hasv ns 0) (hasv ns 1) (hasv ns 2) (hasv ns 3) (hasv ns 4))))]) (x1_if ?_) ?_)
  · repeat walk_at "mI"
    rw [J5_ge]
    refine it_cases (fun hc => ?_) (fun hc => ?_)
    · refine ex_cons (x1_ret (ev_bool (evB_const ?_)))
      rw [agb_f (lf_4 hl hb hc)] at hk; exact hk
    · exact ex_nil ⟨hc, rfl, rfl, trivial⟩
  rintro l ⟨h4, hlo⟩
  refine ex_has hlo ?_
  refine ex_cons (x1_mono (N' := fun l => ¬ KOK ns ∧ Has l [("tiles", .val (.list (PI ns))), ("j", .val (.int (J5 (hasv ns 0) (hasv ns 1) (hasv ns 2) (hasv ns 3) (hasv ns 4))))]) (x1_if ?_) ?_)
  · repeat walk_at "mI"
    rw [J5_3]
    refine it_cases (fun hc => ?_) (fun hc => ?_)
    · repeat (first | walk_at "mI" | refine ⟨by rw [hl]; decide, ?_⟩ | refine ⟨mul4 (hb _), ?_⟩)
      refine it_cases (fun hq => ?_) (fun hq => ?_)
      · walk_at "mI"
        refine it_t rfl (ex_cons (x1_ret (ev_bool (evB_const ?_))))
        have : KOK ns := by first | exact beq_iff_eq.mp hq | (have hq := beq_iff_eq.mp hq; exact hq)
        rw [agb_t (.inl this)] at hk; exact hk
      · refine it_f rfl (ex_nil ⟨lf_kok0 hb (.inr ?_), rfl, rfl, trivial⟩)
        exact beq_eq_false_iff_ne.mp hq
    · exact it_f rfl (ex_nil ⟨lf_kok0 hb (.inl hc), rfl, rfl, trivial⟩)
  rintro l ⟨hnk, hlo⟩
  refine ex_has hlo ?_
  refine ex_cons (x1_mono (N' := fun l => ¬ CHI ns ∧ Has l [("tiles", .val (.list (PI ns))), ("j", .val (.int (J5 (hasv ns 0) (hasv ns 1) (hasv ns 2) (hasv ns 3) (hasv ns 4))))]) (x1_if ?_) ?_)
  · refine tst_and (tst_not (tst_I ?_))
    repeat walk_at "mI"
    rw [J5_10]
    refine it_cases (fun hc => ?_) (fun hc => ?_)
    · refine tst_and ?_
      (with_reducible refine tst_eq ?_ ?hm); (case hm => with_unfolding_all rfl)
      (with_reducible refine' evI_sumB ok hh ?hx ?hB ?_ ?he ?hd); (case hx => exact kind_at hn rfl); (case hB => exact G.bi (by k_is) (by kernel_rfl) (by decide +kernel)); (case he => rfl); (case hd => decide +kernel)
      (with_reducible refine' ev_new (evN_comp [(Str.ofString "tiles", env.locals + 1)] [(Str.ofString "tiles", .val (.list (PI ns)))] hh ?K ?hc ?_ ?hs))
      case hs => intro _; rfl
      case K =>
        refine ⟨by decide, rfl, rfl, by decide, closureFor_closes ?_, ?_, ?_⟩
        · simp only [closes, hcl]; rfl
        · intro q hq; rw [hce]; exact hq
        · exact List.pairwise_singleton _ _
      case hc =>
        refine caught_cons ok.kind rfl (kind_at hn rfl) rfl rfl hcl caught_nil
      (with_reducible refine' it_range ok ?hg ?hb ?_ ?he ?hd); (case hg => exact kind_at (by assumption) rfl); (case hb => exact Gnd.bi (by assumption) (by k_is) (by kernel_rfl) (by decide +kernel)); (case he => rfl); (case hd => decide +kernel)
      repeat walk_at "mI"
      refine ⟨by decide, by decide, fun C => compw_env ok rfl fun e' ok' _ => ?_⟩
      refine compw_map (fun d => match d with | .int i => .bool (ns.getD i.toNat 0 == 2) | d => d) _ _ (fun d hd => ?_) ⟨(List.range 34).map fun i => (ns.getD i 0 == 2), rfl, ?_⟩
      · obtain ⟨i, hi, rfl⟩ := List.mem_map.mp hd
        obtain ⟨j, hj, rfl⟩ := List.mem_map.mp hi
        have hj := List.mem_range.mp hj
        refine ev_bool ?_
        (with_reducible refine evB_eq ?_ ?hm); (case hm => with_unfolding_all rfl)
        repeat walk_at "mI"
        refine ⟨⟨by lia, by rw [hl]; exact Int.ofNat_lt.mpr hj, by rw [hl]; decide⟩, ?_⟩
        repeat walk_at "mI"
        rfl
      · repeat walk_at "mI"
        refine it_cases (fun hq => ?_) (fun hq => ?_)
        · walk_at "mI"
          refine it_t rfl (ex_cons (x1_ret (ev_bool (evB_const ?_))))
          have h1 : hasv ns 1 = false := by cases h : hasv ns 1 with | false => rfl | true => rw [h] at hc; cases hc
          have h3 : hasv ns 3 = false := by cases h : hasv ns 3 with | false => rfl | true => rw [h, Bool.or_true] at hc; cases hc
          have : CHI ns := ⟨h1, h3, h4, beq_iff_eq.mp hq⟩
          rw [agb_t (.inr (.inl this))] at hk; exact hk
        · exact it_f rfl (ex_nil ⟨fun q => beq_eq_false_iff_ne.mp hq q.2.2.2, rfl, rfl, trivial⟩)
    · exact it_f rfl (ex_nil ⟨fun q => by (rw [q.1, q.2.1] at hc; cases hc), rfl, rfl, trivial⟩)
  rintro l ⟨hnc, hlo⟩
  refine ex_has hlo ?_
  refine ex_cons (x1_mono (N' := fun l => hasv ns 1 = false ∧ Has l [("tiles", .val (.list (PI ns))), ("j", .val (.int (J5 (hasv ns 0) (hasv ns 1) (hasv ns 2) (hasv ns 3) (hasv ns 4))))]) (x1_if ?_) ?_)
  · refine tst_I ?_
    repeat walk_at "mI"
    rw [J5_2]
    refine it_cases (fun hc => ?_) (fun hc => ?_)
    · refine ex_cons (x1_ret (ev_bool (evB_const ?_)))
      rw [agb_f (lf_1 hl hb hnk hc)] at hk; exact hk
    · exact ex_nil ⟨hc, rfl, rfl, trivial⟩
  rintro l ⟨h1, hlo⟩
  refine ex_has hlo ?_
  have fin_f : ¬ PS ns → k (.bool false) := fun h => by
    rw [agb_f (fun q => by rcases q with q | q | q; exact hnk q; exact hnc q; exact h q)] at hk; exact hk
  have fin_t : PS ns → k (.bool true) := fun h => by
    rw [agb_t (.inr (.inr h))] at hk; exact hk
  have em0 : num ((List.range 9).map fun i => ns.getD ((0 : Int).toNat + i) 0) = num (seg ns 0) := rfl
  have em1 : num ((List.range 9).map fun i => ns.getD ((9 : Int).toNat + i) 0) = num (seg ns 1) := rfl
  have em2 : num ((List.range 9).map fun i => ns.getD ((18 : Int).toNat + i) 0) = num (seg ns 2) := rfl
  have es0 := fsum ns 0
  have es1 := fsum ns 1
  have es2 := fsum ns 2
  have ew0 := fwsum ns 0
  have ew1 := fwsum ns 1
  have ew2 := fwsum ns 2
  simp only [Nat.mul_zero, Nat.mul_one, Nat.zero_add, Nat.reduceAdd, Nat.reduceMul] at es0 es1 es2 ew0 ew1 ew2
  refine ex_cons ?_
  walk_at "mAsgI"
  repeat (first | walk_at "mI" | refine ⟨by rw [hl]; decide, ?_⟩ | refine ⟨by decide, ?_⟩ | refine ⟨mul_ok _, ?_⟩ | refine ⟨mul_ok1 _, ?_⟩)
  refine ex_cons ?_
  walk_at "mAsgI"
  repeat (first | walk_at "mI" | refine ⟨by rw [hl]; decide, ?_⟩ | refine ⟨by decide, ?_⟩ | refine ⟨mul_ok _, ?_⟩ | refine ⟨mul_ok1 _, ?_⟩)
  refine ex_cons ?_
  walk_at "mAsgI"
  repeat (first | walk_at "mI" | refine ⟨by rw [hl]; decide, ?_⟩ | refine ⟨by decide, ?_⟩ | refine ⟨mul_ok _, ?_⟩ | refine ⟨mul_ok1 _, ?_⟩)
  refine ex_cons ?_
  walk_at "mAsgI"
  repeat (first | walk_at "mI" | refine ⟨by rw [hl]; decide, ?_⟩ | refine ⟨by decide, ?_⟩ | refine ⟨mul_ok _, ?_⟩ | refine ⟨mul_ok1 _, ?_⟩)
  refine ex_cons ?_
  walk_at "mAsgI"
  repeat (first | walk_at "mI" | refine ⟨by rw [hl]; decide, ?_⟩ | refine ⟨by decide, ?_⟩ | refine ⟨mul_ok _, ?_⟩ | refine ⟨mul_ok1 _, ?_⟩)
  refine ex_cons ?_
  walk_at "mAsgI"
  repeat (first | walk_at "mI" | refine ⟨by rw [hl]; decide, ?_⟩ | refine ⟨by decide, ?_⟩ | refine ⟨mul_ok _, ?_⟩ | refine ⟨mul_ok1 _, ?_⟩)
  refine ex_cons ?_
  walk_at "mAsgI"
  repeat (first | walk_at "mI" | refine ⟨by rw [hl]; decide, ?_⟩ | refine ⟨by decide, ?_⟩ | refine ⟨mul_ok _, ?_⟩ | refine ⟨mul_ok1 _, ?_⟩)
  refine ex_cons ?_
  walk_at "mAsgI"
  repeat (first | walk_at "mI" | refine ⟨by rw [hl]; decide, ?_⟩ | refine ⟨by decide, ?_⟩ | refine ⟨mul_ok _, ?_⟩ | refine ⟨mul_ok1 _, ?_⟩)
  refine ex_cons ?_
  walk_at "mAsgI"
  repeat (first | walk_at "mI" | refine ⟨by rw [hl]; decide, ?_⟩ | refine ⟨by decide, ?_⟩ | refine ⟨mul_ok _, ?_⟩ | refine ⟨mul_ok1 _, ?_⟩)
  refine ex_has (m' := [("tiles", .val (.list (PI ns))), ("j", .val (.int (J5 (hasv ns 0) (hasv ns 1) (hasv ns 2) (hasv ns 3) (hasv ns 4)))), ("n00", .val (.int (ns.getD 0 0 + ns.getD 3 0 + ns.getD 6 0))), ("n01", .val (.int (ns.getD 1 0 + ns.getD 4 0 + ns.getD 7 0))), ("n02", .val (.int (ns.getD 2 0 + ns.getD 5 0 + ns.getD 8 0))), ("n10", .val (.int (ns.getD 9 0 + ns.getD 12 0 + ns.getD 15 0))), ("n11", .val (.int (ns.getD 10 0 + ns.getD 13 0 + ns.getD 16 0))), ("n12", .val (.int (ns.getD 11 0 + ns.getD 14 0 + ns.getD 17 0))), ("n20", .val (.int (ns.getD 18 0 + ns.getD 21 0 + ns.getD 24 0))), ("n21", .val (.int (ns.getD 19 0 + ns.getD 22 0 + ns.getD 25 0))), ("n22", .val (.int (ns.getD 20 0 + ns.getD 23 0 + ns.getD 26 0)))]) ⟨rfl, rfl, rfl, rfl, rfl, rfl, rfl, rfl, rfl, rfl, rfl, trivial⟩ ?_
  refine ex_cons ?_
  walk_at "mAsgI"
  repeat (first | walk_at "mI" | refine ⟨by rw [hl]; decide, ?_⟩ | refine ⟨by decide, ?_⟩ | refine ⟨mul_ok _, ?_⟩ | refine ⟨mul_ok1 _, ?_⟩)
  rw [es0]
  refine ex_cons (x1_if ?_)
  repeat walk_at "mI"
  refine it_cases (fun hc => ?_) (fun hc0 => ex_nil ?_)
  · refine ex_cons (x1_ret (ev_bool (evB_const (fin_f (ps_n1 hl hb rfl rfl rfl (.inl (beq_iff_eq.mp hc)))))))
  refine ex_cons ?_
  walk_at "mAsgI"
  repeat (first | walk_at "mI" | refine ⟨by rw [hl]; decide, ?_⟩ | refine ⟨by decide, ?_⟩ | refine ⟨mul_ok _, ?_⟩ | refine ⟨mul_ok1 _, ?_⟩)
  rw [es1]
  refine ex_cons (x1_if ?_)
  repeat walk_at "mI"
  refine it_cases (fun hc => ?_) (fun hc1 => ex_nil ?_)
  · refine ex_cons (x1_ret (ev_bool (evB_const (fin_f (ps_n1 hl hb rfl rfl rfl (.inr (.inl (beq_iff_eq.mp hc))))))))
  refine ex_cons ?_
  walk_at "mAsgI"
  repeat (first | walk_at "mI" | refine ⟨by rw [hl]; decide, ?_⟩ | refine ⟨by decide, ?_⟩ | refine ⟨mul_ok _, ?_⟩ | refine ⟨mul_ok1 _, ?_⟩)
  rw [es2]
  refine ex_cons (x1_if ?_)
  repeat walk_at "mI"
  refine it_cases (fun hc => ?_) (fun hc2 => ex_nil ?_)
  · refine ex_cons (x1_ret (ev_bool (evB_const (fin_f (ps_n1 hl hb rfl rfl rfl (.inr (.inr (beq_iff_eq.mp hc))))))))
  refine ex_has (m' := [("tiles", .val (.list (PI ns))), ("j", .val (.int (J5 (hasv ns 0) (hasv ns 1) (hasv ns 2) (hasv ns 3) (hasv ns 4)))), ("n00", .val (.int (ns.getD 0 0 + ns.getD 3 0 + ns.getD 6 0))), ("n01", .val (.int (ns.getD 1 0 + ns.getD 4 0 + ns.getD 7 0))), ("n02", .val (.int (ns.getD 2 0 + ns.getD 5 0 + ns.getD 8 0))), ("n10", .val (.int (ns.getD 9 0 + ns.getD 12 0 + ns.getD 15 0))), ("n11", .val (.int (ns.getD 10 0 + ns.getD 13 0 + ns.getD 16 0))), ("n12", .val (.int (ns.getD 11 0 + ns.getD 14 0 + ns.getD 17 0))), ("n20", .val (.int (ns.getD 18 0 + ns.getD 21 0 + ns.getD 24 0))), ("n21", .val (.int (ns.getD 19 0 + ns.getD 22 0 + ns.getD 25 0))), ("n22", .val (.int (ns.getD 20 0 + ns.getD 23 0 + ns.getD 26 0))), ("n0", .val (.int ((seg ns 0).sum % 3))), ("n1", .val (.int ((seg ns 1).sum % 3))), ("n2", .val (.int ((seg ns 2).sum % 3)))]) ⟨rfl, rfl, rfl, rfl, rfl, rfl, rfl, rfl, rfl, rfl, rfl, rfl, rfl, rfl, trivial⟩ ?_
  -- the pairs
  refine ex_cons (x1_if ?_)
  (with_reducible refine tst_ne ?_ ?hm); (case hm => with_unfolding_all rfl)
  with_reducible refine evI_addIB ?_
  with_reducible refine evI_addIB ?_
  with_reducible refine evI_addIB ?_
  with_reducible refine evI_addIB ?_
  with_reducible refine evI_addIB ?_
  with_reducible refine evI_addIB ?_
  with_reducible refine evI_addIB ?_
  with_reducible refine evI_addIB ?_
  with_reducible refine evI_addBB ?_
  repeat (first | ((with_reducible refine evB_eq ?_ ?hm); (case hm => with_unfolding_all rfl)) | walk_at "mI" | refine ⟨by rw [hl]; decide, ?_⟩)
  refine it_cases (fun hc => ?_) (fun hc => ex_nil ?_)
  · refine ex_cons (x1_ret (ev_bool (evB_const (fin_f fun hps => ?_))))
    exact bne_iff_ne.mp hc (ps_pairs hl hb rfl rfl rfl hps)
  have hpr : pairs ns ((seg ns 0).sum % 3) ((seg ns 1).sum % 3) ((seg ns 2).sum % 3) = 1 := bne_ff hc
  refine ex_cons ?_
  walk_at "mAsgI"
  repeat (first | walk_at "mI" | refine ⟨IntMulOk.of_right (by decide), ?_⟩ | refine ⟨by decide, ?_⟩)
  rw [ew0]
  refine ex_cons ?_
  walk_at "mAsgI"
  with_reducible refine evI_of ?_
  (with_reducible refine' ev_scall ok hml fn57 hsm.2.2.2 hh ?hr ?hu ?hx gA ?_ ?hm ?he ?hp ?hd); (case hr => lia); (case hu => lia); (case hx => exact kind_at hn rfl); (case hm => rfl); (case he => rfl); (case hp => rfl); (case hd => decide +kernel)
  (with_reducible refine' evS_cons (ev_nameAny ok.kind ?hx ?_ ?hd) ?he); (case hx => exact rfl); (case hd => decide +kernel); (case he => rfl)
  (with_reducible refine' evS_cons (ev_int ?_) ?he); (case he => rfl)
  walk_at "mI"
  refine evS_nil ⟨ns, 0, rfl, hl, hb, by decide, _, rfl, ?_⟩
  rw [em0]
  refine ex_cons ?_
  walk_at "mAsgI"
  repeat (first | walk_at "mI" | refine ⟨IntMulOk.of_right (by decide), ?_⟩ | refine ⟨by decide, ?_⟩)
  rw [ew1]
  refine ex_cons ?_
  walk_at "mAsgI"
  with_reducible refine evI_of ?_
  (with_reducible refine' ev_scall ok hml fn57 hsm.2.2.2 hh ?hr ?hu ?hx gA ?_ ?hm ?he ?hp ?hd); (case hr => lia); (case hu => lia); (case hx => exact kind_at hn rfl); (case hm => rfl); (case he => rfl); (case hp => rfl); (case hd => decide +kernel)
  (with_reducible refine' evS_cons (ev_nameAny ok.kind ?hx ?_ ?hd) ?he); (case hx => exact rfl); (case hd => decide +kernel); (case he => rfl)
  (with_reducible refine' evS_cons (ev_int ?_) ?he); (case he => rfl)
  walk_at "mI"
  refine evS_nil ⟨ns, 9, rfl, hl, hb, by decide, _, rfl, ?_⟩
  rw [em1]
  refine ex_cons ?_
  walk_at "mAsgI"
  repeat (first | walk_at "mI" | refine ⟨IntMulOk.of_right (by decide), ?_⟩ | refine ⟨by decide, ?_⟩)
  rw [ew2]
  refine ex_cons ?_
  walk_at "mAsgI"
  with_reducible refine evI_of ?_
  (with_reducible refine' ev_scall ok hml fn57 hsm.2.2.2 hh ?hr ?hu ?hx gA ?_ ?hm ?he ?hp ?hd); (case hr => lia); (case hu => lia); (case hx => exact kind_at hn rfl); (case hm => rfl); (case he => rfl); (case hp => rfl); (case hd => decide +kernel)
  (with_reducible refine' evS_cons (ev_nameAny ok.kind ?hx ?_ ?hd) ?he); (case hx => exact rfl); (case hd => decide +kernel); (case he => rfl)
  (with_reducible refine' evS_cons (ev_int ?_) ?he); (case he => rfl)
  walk_at "mI"
  refine evS_nil ⟨ns, 18, rfl, hl, hb, by decide, _, rfl, ?_⟩
  rw [em2]
  refine ex_has (m' := [("tiles", .val (.list (PI ns))), ("j", .val (.int (J5 (hasv ns 0) (hasv ns 1) (hasv ns 2) (hasv ns 3) (hasv ns 4)))), ("n0", .val (.int ((seg ns 0).sum % 3))), ("nn0", .val (.int (wsum (seg ns 0) % 3))), ("m0", .val (.int (num (seg ns 0)))), ("n1", .val (.int ((seg ns 1).sum % 3))), ("nn1", .val (.int (wsum (seg ns 1) % 3))), ("m1", .val (.int (num (seg ns 1)))), ("n2", .val (.int ((seg ns 2).sum % 3))), ("nn2", .val (.int (wsum (seg ns 2) % 3))), ("m2", .val (.int (num (seg ns 2))))]) ⟨rfl, rfl, rfl, rfl, rfl, rfl, rfl, rfl, rfl, rfl, rfl, trivial⟩ ?_
  refine ex_cons (x1_if (tst_I ?_))
  repeat walk_at "mI"
  rw [J5_4]
  refine it_cases (fun h2 => ?_) (fun h2 => ex_nil ?_)
  · have hP := ps_iff_hon hl hb h1 h4 h2 hpr rfl rfl rfl
    have hor := or6 (a := (seg ns 0).sum % 3) (b := wsum (seg ns 0) % 3) (c := (seg ns 1).sum % 3) (d := wsum (seg ns 1) % 3) (e := (seg ns 2).sum % 3) (f := wsum (seg ns 2) % 3) (Int.emod_nonneg _ (by decide)) (Int.emod_nonneg _ (by decide)) (Int.emod_nonneg _ (by decide)) (Int.emod_nonneg _ (by decide)) (Int.emod_nonneg _ (by decide)) (Int.emod_nonneg _ (by decide))
    refine ex_cons (x1_ret (ev_bool ?_))
    with_reducible refine evB_and ?_
    with_reducible refine evB_notI ?_
    repeat walk_at "mI"
    refine it_cases (fun hq => ?_) (fun hq => fin_f fun hps => ?_)
    rotate_left
    · obtain ⟨g0, g1, g2⟩ := hP.mp hps
      have q0 := (suit_iff hb 0).mp g0
      have q1 := (suit_iff hb 1).mp g1
      have q2 := (suit_iff hb 2).mp g2
      rw [hor.mpr ⟨⟨q0.1, q0.2.1⟩, ⟨q1.1, q1.2.1⟩, q2.1, q2.2.1⟩] at hq; cases hq
    have hz := hor.mp hq
    with_reducible refine evB_and ?_
    with_reducible refine evB_of ?_
    (with_reducible refine' ev_scall ok hme fn37 hsm.2.1 hh ?hr ?hu ?hx gA ?_ ?hm ?he ?hp ?hd); (case hr => lia); (case hu => lia); (case hx => exact kind_at hn rfl); (case hm => rfl); (case he => rfl); (case hp => rfl); (case hd => decide +kernel)
    (with_reducible refine' evS_cons (ev_int ?_) ?he); (case he => rfl)
    walk_at "mI"
    refine evS_nil ⟨num (seg ns 0), rfl, num_seg0 hb 0, _, rfl, ?_⟩
    refine it_cases (fun hm0 => ?_) (fun hq => fin_f fun hps => ?_)
    rotate_left
    · obtain ⟨g0, g1, g2⟩ := hP.mp hps
      rw [((suit_iff hb 0).mp g0).2.2] at hq; cases hq
    with_reducible refine evB_and ?_
    with_reducible refine evB_of ?_
    (with_reducible refine' ev_scall ok hme fn37 hsm.2.1 hh ?hr ?hu ?hx gA ?_ ?hm ?he ?hp ?hd); (case hr => lia); (case hu => lia); (case hx => exact kind_at hn rfl); (case hm => rfl); (case he => rfl); (case hp => rfl); (case hd => decide +kernel)
    (with_reducible refine' evS_cons (ev_int ?_) ?he); (case he => rfl)
    walk_at "mI"
    refine evS_nil ⟨num (seg ns 1), rfl, num_seg0 hb 1, _, rfl, ?_⟩
    refine it_cases (fun hm1 => ?_) (fun hq => fin_f fun hps => ?_)
    rotate_left
    · obtain ⟨g0, g1, g2⟩ := hP.mp hps
      rw [((suit_iff hb 1).mp g1).2.2] at hq; cases hq
    with_reducible refine evB_and1 ?_
    with_reducible refine evB_of ?_
    (with_reducible refine' ev_scall ok hme fn37 hsm.2.1 hh ?hr ?hu ?hx gA ?_ ?hm ?he ?hp ?hd); (case hr => lia); (case hu => lia); (case hx => exact kind_at hn rfl); (case hm => rfl); (case he => rfl); (case hp => rfl); (case hd => decide +kernel)
    (with_reducible refine' evS_cons (ev_int ?_) ?he); (case he => rfl)
    walk_at "mI"
    refine evS_nil ⟨num (seg ns 2), rfl, num_seg0 hb 2, _, rfl, ?_⟩
    refine it_any (P := fun b => k (.bool b)) (fun hm2 => fin_t (hP.mpr ⟨(suit_iff hb 0).mpr ⟨hz.1.1, hz.1.2, hm0⟩, (suit_iff hb 1).mpr ⟨hz.2.1.1, hz.2.1.2, hm1⟩, (suit_iff hb 2).mpr ⟨hz.2.2.1, hz.2.2.2, hm2⟩⟩)) (fun hq => fin_f fun hps => ?_)
    obtain ⟨g0, g1, g2⟩ := hP.mp hps
    rw [((suit_iff hb 2).mp g2).2.2] at hq; cases hq
  refine ex_cons (x1_if ?_)
  repeat walk_at "mI"
  refine it_cases (fun hn2 => ?_) (fun hn2 => ex_nil ?_)
  · have hn2 := beq_iff_eq.mp hn2
    have hP := suit_two hl hb h1 h4 h2 (s := 0) (a := 1) (b := 2) (by decide) (by decide) hn2
    have hor := or4 (a := (seg ns 1).sum % 3) (b := wsum (seg ns 1) % 3) (c := (seg ns 2).sum % 3) (d := wsum (seg ns 2) % 3)  (Int.emod_nonneg _ (by decide)) (Int.emod_nonneg _ (by decide)) (Int.emod_nonneg _ (by decide)) (Int.emod_nonneg _ (by decide))
    refine ex_cons (x1_ret (ev_bool ?_))
    with_reducible refine evB_and ?_
    with_reducible refine evB_notI ?_
    repeat walk_at "mI"
    refine it_cases (fun hq => ?_) (fun hq => fin_f fun hps => ?_)
    rotate_left
    · obtain ⟨g1, g2, ga⟩ := hP.mp hps
      have q1 := (suit_iff hb 1).mp g1
      have q2 := (suit_iff hb 2).mp g2
      rw [hor.mpr ⟨⟨q1.1, q1.2.1⟩, q2.1, q2.2.1⟩] at hq; cases hq
    have hz := hor.mp hq
    with_reducible refine evB_and ?_
    with_reducible refine evB_of ?_
    (with_reducible refine' ev_scall ok hme fn37 hsm.2.1 hh ?hr ?hu ?hx gA ?_ ?hm ?he ?hp ?hd); (case hr => lia); (case hu => lia); (case hx => exact kind_at hn rfl); (case hm => rfl); (case he => rfl); (case hp => rfl); (case hd => decide +kernel)
    (with_reducible refine' evS_cons (ev_int ?_) ?he); (case he => rfl)
    walk_at "mI"
    refine evS_nil ⟨num (seg ns 1), rfl, num_seg0 hb 1, _, rfl, ?_⟩
    refine it_cases (fun hm1 => ?_) (fun hq => fin_f fun hps => ?_)
    rotate_left
    · obtain ⟨g1, g2, ga⟩ := hP.mp hps
      rw [((suit_iff hb 1).mp g1).2.2] at hq; cases hq
    with_reducible refine evB_and ?_
    with_reducible refine evB_of ?_
    (with_reducible refine' ev_scall ok hme fn37 hsm.2.1 hh ?hr ?hu ?hx gA ?_ ?hm ?he ?hp ?hd); (case hr => lia); (case hu => lia); (case hx => exact kind_at hn rfl); (case hm => rfl); (case he => rfl); (case hp => rfl); (case hd => decide +kernel)
    (with_reducible refine' evS_cons (ev_int ?_) ?he); (case he => rfl)
    walk_at "mI"
    refine evS_nil ⟨num (seg ns 2), rfl, num_seg0 hb 2, _, rfl, ?_⟩
    refine it_cases (fun hm2 => ?_) (fun hq => fin_f fun hps => ?_)
    rotate_left
    · obtain ⟨g1, g2, ga⟩ := hP.mp hps
      rw [((suit_iff hb 2).mp g2).2.2] at hq; cases hq
    with_reducible refine evB_and1 ?_
    with_reducible refine evB_of ?_
    (with_reducible refine' ev_scall ok hat fn47 hsm.2.2.1 hh ?hr ?hu ?hx gA ?_ ?hm ?he ?hp ?hd); (case hr => lia); (case hu => lia); (case hx => exact kind_at hn rfl); (case hm => rfl); (case he => rfl); (case hp => rfl); (case hd => decide +kernel)
    (with_reducible refine' evS_cons (ev_int ?_) ?he); (case he => rfl)
    walk_at "mI"
    (with_reducible refine' evS_cons (ev_int ?_) ?he); (case he => rfl)
    walk_at "mI"
    refine evS_nil ⟨wsum (seg ns 0) % 3, num (seg ns 0), rfl, num_seg0 hb 0, _, rfl, ?_⟩
    refine it_any (P := fun b => k (.bool b)) (fun hma => fin_t (hP.mpr ⟨(suit_iff hb 1).mpr ⟨hz.1.1, hz.1.2, hm1⟩, (suit_iff hb 2).mpr ⟨hz.2.1, hz.2.2, hm2⟩, hma⟩)) (fun hq => fin_f fun hps => ?_)
    obtain ⟨g1, g2, ga⟩ := hP.mp hps
    rw [ga] at hq; cases hq
  have hn20 := beq_eq_false_iff_ne.mp hn2
  refine ex_cons (x1_if ?_)
  repeat walk_at "mI"
  refine it_cases (fun hn2 => ?_) (fun hn2 => ex_nil ?_)
  · have hn2 := beq_iff_eq.mp hn2
    have hP := suit_two hl hb h1 h4 h2 (s := 1) (a := 2) (b := 0) (by decide) (by decide) hn2
    have hor := or4 (a := (seg ns 2).sum % 3) (b := wsum (seg ns 2) % 3) (c := (seg ns 0).sum % 3) (d := wsum (seg ns 0) % 3)  (Int.emod_nonneg _ (by decide)) (Int.emod_nonneg _ (by decide)) (Int.emod_nonneg _ (by decide)) (Int.emod_nonneg _ (by decide))
    refine ex_cons (x1_ret (ev_bool ?_))
    with_reducible refine evB_and ?_
    with_reducible refine evB_notI ?_
    repeat walk_at "mI"
    refine it_cases (fun hq => ?_) (fun hq => fin_f fun hps => ?_)
    rotate_left
    · obtain ⟨g2, g0, ga⟩ := hP.mp hps
      have q2 := (suit_iff hb 2).mp g2
      have q0 := (suit_iff hb 0).mp g0
      rw [hor.mpr ⟨⟨q2.1, q2.2.1⟩, q0.1, q0.2.1⟩] at hq; cases hq
    have hz := hor.mp hq
    with_reducible refine evB_and ?_
    with_reducible refine evB_of ?_
    (with_reducible refine' ev_scall ok hme fn37 hsm.2.1 hh ?hr ?hu ?hx gA ?_ ?hm ?he ?hp ?hd); (case hr => lia); (case hu => lia); (case hx => exact kind_at hn rfl); (case hm => rfl); (case he => rfl); (case hp => rfl); (case hd => decide +kernel)
    (with_reducible refine' evS_cons (ev_int ?_) ?he); (case he => rfl)
    walk_at "mI"
    refine evS_nil ⟨num (seg ns 2), rfl, num_seg0 hb 2, _, rfl, ?_⟩
    refine it_cases (fun hm2 => ?_) (fun hq => fin_f fun hps => ?_)
    rotate_left
    · obtain ⟨g2, g0, ga⟩ := hP.mp hps
      rw [((suit_iff hb 2).mp g2).2.2] at hq; cases hq
    with_reducible refine evB_and ?_
    with_reducible refine evB_of ?_
    (with_reducible refine' ev_scall ok hme fn37 hsm.2.1 hh ?hr ?hu ?hx gA ?_ ?hm ?he ?hp ?hd); (case hr => lia); (case hu => lia); (case hx => exact kind_at hn rfl); (case hm => rfl); (case he => rfl); (case hp => rfl); (case hd => decide +kernel)
    (with_reducible refine' evS_cons (ev_int ?_) ?he); (case he => rfl)
    walk_at "mI"
    refine evS_nil ⟨num (seg ns 0), rfl, num_seg0 hb 0, _, rfl, ?_⟩
    refine it_cases (fun hm0 => ?_) (fun hq => fin_f fun hps => ?_)
    rotate_left
    · obtain ⟨g2, g0, ga⟩ := hP.mp hps
      rw [((suit_iff hb 0).mp g0).2.2] at hq; cases hq
    with_reducible refine evB_and1 ?_
    with_reducible refine evB_of ?_
    (with_reducible refine' ev_scall ok hat fn47 hsm.2.2.1 hh ?hr ?hu ?hx gA ?_ ?hm ?he ?hp ?hd); (case hr => lia); (case hu => lia); (case hx => exact kind_at hn rfl); (case hm => rfl); (case he => rfl); (case hp => rfl); (case hd => decide +kernel)
    (with_reducible refine' evS_cons (ev_int ?_) ?he); (case he => rfl)
    walk_at "mI"
    (with_reducible refine' evS_cons (ev_int ?_) ?he); (case he => rfl)
    walk_at "mI"
    refine evS_nil ⟨wsum (seg ns 1) % 3, num (seg ns 1), rfl, num_seg0 hb 1, _, rfl, ?_⟩
    refine it_any (P := fun b => k (.bool b)) (fun hma => fin_t (hP.mpr ⟨(suit_iff hb 2).mpr ⟨hz.1.1, hz.1.2, hm2⟩, (suit_iff hb 0).mpr ⟨hz.2.1, hz.2.2, hm0⟩, hma⟩)) (fun hq => fin_f fun hps => ?_)
    obtain ⟨g2, g0, ga⟩ := hP.mp hps
    rw [ga] at hq; cases hq
  have hn21 := beq_eq_false_iff_ne.mp hn2
  have hn2 : (seg ns 2).sum % 3 = 2 := by
    rcases pairs_suit hpr h2 with q | q | q
    · exact absurd q.1 hn20
    · exact absurd q.2.1 hn21
    · exact q.2.2
  have hP := suit_two hl hb h1 h4 h2 (s := 2) (a := 0) (b := 1) (by decide) (by decide) hn2
  have hor := or4 (a := (seg ns 0).sum % 3) (b := wsum (seg ns 0) % 3) (c := (seg ns 1).sum % 3) (d := wsum (seg ns 1) % 3)  (Int.emod_nonneg _ (by decide)) (Int.emod_nonneg _ (by decide)) (Int.emod_nonneg _ (by decide)) (Int.emod_nonneg _ (by decide))
  refine ex_cons (x1_ret (ev_bool ?_))
  with_reducible refine evB_and ?_
  with_reducible refine evB_notI ?_
  repeat walk_at "mI"
  refine it_cases (fun hq => ?_) (fun hq => fin_f fun hps => ?_)
  rotate_left
  · obtain ⟨g0, g1, ga⟩ := hP.mp hps
    have q0 := (suit_iff hb 0).mp g0
    have q1 := (suit_iff hb 1).mp g1
    rw [hor.mpr ⟨⟨q0.1, q0.2.1⟩, q1.1, q1.2.1⟩] at hq; cases hq
  have hz := hor.mp hq
  with_reducible refine evB_and ?_
  with_reducible refine evB_of ?_
  (with_reducible refine' ev_scall ok hme fn37 hsm.2.1 hh ?hr ?hu ?hx gA ?_ ?hm ?he ?hp ?hd); (case hr => lia); (case hu => lia); (case hx => exact kind_at hn rfl); (case hm => rfl); (case he => rfl); (case hp => rfl); (case hd => decide +kernel)
  (with_reducible refine' evS_cons (ev_int ?_) ?he); (case he => rfl)
  walk_at "mI"
  refine evS_nil ⟨num (seg ns 0), rfl, num_seg0 hb 0, _, rfl, ?_⟩
  refine it_cases (fun hm0 => ?_) (fun hq => fin_f fun hps => ?_)
  rotate_left
  · obtain ⟨g0, g1, ga⟩ := hP.mp hps
    rw [((suit_iff hb 0).mp g0).2.2] at hq; cases hq
  with_reducible refine evB_and ?_
  with_reducible refine evB_of ?_
  (with_reducible refine' ev_scall ok hme fn37 hsm.2.1 hh ?hr ?hu ?hx gA ?_ ?hm ?he ?hp ?hd); (case hr => lia); (case hu => lia); (case hx => exact kind_at hn rfl); (case hm => rfl); (case he => rfl); (case hp => rfl); (case hd => decide +kernel)
  (with_reducible refine' evS_cons (ev_int ?_) ?he); (case he => rfl)
  walk_at "mI"
  refine evS_nil ⟨num (seg ns 1), rfl, num_seg0 hb 1, _, rfl, ?_⟩
  refine it_cases (fun hm1 => ?_) (fun hq => fin_f fun hps => ?_)
  rotate_left
  · obtain ⟨g0, g1, ga⟩ := hP.mp hps
    rw [((suit_iff hb 1).mp g1).2.2] at hq; cases hq
  with_reducible refine evB_and1 ?_
  with_reducible refine evB_of ?_
  (with_reducible refine' ev_scall ok hat fn47 hsm.2.2.1 hh ?hr ?hu ?hx gA ?_ ?hm ?he ?hp ?hd); (case hr => lia); (case hu => lia); (case hx => exact kind_at hn rfl); (case hm => rfl); (case he => rfl); (case hp => rfl); (case hd => decide +kernel)
  (with_reducible refine' evS_cons (ev_int ?_) ?he); (case he => rfl)
  walk_at "mI"
  (with_reducible refine' evS_cons (ev_int ?_) ?he); (case he => rfl)
  walk_at "mI"
  refine evS_nil ⟨wsum (seg ns 2) % 3, num (seg ns 2), rfl, num_seg0 hb 2, _, rfl, ?_⟩
  refine it_any (P := fun b => k (.bool b)) (fun hma => fin_t (hP.mpr ⟨(suit_iff hb 0).mpr ⟨hz.1.1, hz.1.2, hm0⟩, (suit_iff hb 1).mpr ⟨hz.2.1, hz.2.2, hm1⟩, hma⟩)) (fun hq => fin_f fun hps => ?_)
  obtain ⟨g0, g1, ga⟩ := hP.mp hps
  rw [ga] at hq; cases hq

set_option maxRecDepth 100000
set_option maxHeartbeats 4000000

def wdata : Option (List Int) → List PyData
  | none => []
  | some r => [.list (PI r)]
def Rwo : Spec := fun ds k => ∃ ts bl, ds = [.list (PI ts), .list (PI bl)] ∧ ts.length ≤ 100 ∧ k (.list (wdata (without ts bl)))
theorem without_meets {p : Program} {w : World} {h₀ : Heap} (hr : PySem.Challenge.rw_md0016_02 = PySem.Challenge.rw_md0016_02) (G : Gnd (topw.heap_39 w.params) h₀) : Meets p w h₀ 79 1 Rwo := by
  revert hr G
  k_fill
  intro hr G
  refine meets_def ["tiles", "block"] [] [] (G.X _ _ (by k_is)) rfl G.lim (codeRec_of G.X (by k_is)) rfl rfl rfl rfl rfl (fun _ => .nil) ?hb ?hk (by decide) (by decide) ?_ (by decide)
  case hb =>
    intro s vs hg hl
    obtain ⟨v, v', rfl⟩ := vs2 hl
    exact BindsTo.of_eq rfl
  case hk =>
    intro n x hx
    simp only [List.mem_cons, List.not_mem_nil, or_false] at hx
    rcases hx with rfl | rfl <;> exact .inl rfl
  rintro ds k ⟨ts, bl, rfl, hl, hk⟩
  refine ⟨rfl, fun A env eo hh hdp hun => ?_⟩
  have hn : env.scope.names = _ := congrArg Scope.names eo.scope
  have ok : EnvOk env := ⟨by rw [eo.scope], eo.glob, eo.blt⟩
  dsimp only at hn
  clear eo
  show Ex p w h₀ A env [(Str.ofString "tiles", .val (.list (PI ts))), (Str.ofString "block", .val (.list (PI bl)))] _ _ _
  refine ex_cons ?_
  (with_reducible refine' x1_asgN ok.kind ?hx (evN_all ?_) ?hs); (case hx => exact stored_at hn rfl); (case hs => rfl)
  walk_at "mI"
  refine ⟨Nat.le_trans hl (by decide), ?_⟩
  refine ex_cons (x1_mono (N' := fun l => ∃ r, Has l [("rest", .own (PI r))] ∧ without ts bl = some r) ?_ ?_)
  · (with_reducible refine' x1_for hh ok.kind ?hx (it_list ?_) ?hs); (case hx => exact stored_at hn rfl); (case hs => intro _; rfl)
    (with_reducible refine' ev_name ok.kind ?hx ?_ ?hd); (case hx => exact rfl); (case hd => decide +kernel)
    refine ⟨_, rfl, ?_⟩
    refine forw_inv (fun ds l => ∃ bl' cur, ds = PI bl' ∧ Has l [("rest", .own (PI cur))] ∧ cur.length ≤ 100 ∧ without ts bl = without cur bl') ?_ ?_ _ _ ⟨bl, ts, rfl, ⟨rfl, trivial⟩, hl, rfl⟩
    · rintro l ⟨bl', cur, e, hlo, _, hw⟩
      cases bl' with
      | nil => exact ⟨cur, hlo, hw⟩
      | cons b t => cases e
    · rintro d ds l ⟨bl', cur, e, ⟨g1, _⟩, hc, hw⟩
      cases bl' with
      | nil => cases e
      | cons b t =>
        obtain ⟨rfl, rfl⟩ := List.cons.inj (show d :: ds = .int b :: PI t from e)
        refine ex_has (m' := [("rest", .own (PI cur)), ("kind", .val (.int b))]) ⟨by rw [gt_st, if_neg (by decide)]; exact g1, by rw [gt_st, if_pos rfl], trivial⟩ ?_
        refine ex_cons (x1_mono (N' := fun l => cur.contains b = true ∧ Has l [("rest", .own (PI cur)), ("kind", .val (.int b))]) (x1_if ?_) ?_)
        · (with_reducible refine tst_notin ?_ ?hm); (case hm => with_unfolding_all rfl)
          walk_at "mI"
          walk_at "mI"
          refine it_cases (fun hq => ?_) (fun hq => ?_)
          · refine ex_cons (x1_ret (ev_disp (evS_nil ⟨by decide, ?_⟩)))
            have : without ts bl = none := by rw [hw, without, if_neg]; simpa using hq
            rw [this] at hk; exact hk
          · exact ex_nil ⟨by simpa using hq, rfl, rfl, trivial⟩
        · rintro l ⟨hm, hlo⟩
          refine ex_has hlo ?_
          refine ex_cons ?_
          (with_reducible refine' x1_remove ok ?hg ?hz ?_ ?hm ?he ?hd ?hs); (case hg => exact rfl); (case hz => exact Nat.le_trans hc (by decide)); (case hm => rfl); (case he => rfl); (case hd => decide +kernel); (case hs => rfl)
          walk_at "mI"
          refine ⟨List.contains_iff_mem.mp hm, ex_nil ⟨t, cur.erase b, rfl, ⟨rfl, trivial⟩, Nat.le_trans List.length_erase_le hc, ?_⟩⟩
          rw [hw, without, if_pos hm]
  · rintro l ⟨r, hlo, hw⟩
    refine ex_has hlo ?_
    refine ex_cons (x1_ret (ev_disp ?_))
    (with_reducible refine' evS_cons (ev_nameRet ok.kind ?hx ?_ ?hd) ?he); (case hx => exact rfl); (case hd => decide +kernel); (case he => rfl)
    refine evS_nil ⟨Nat.le_of_ble_eq_true rfl, ?_⟩
    rw [hw] at hk; exact hk

set_option maxRecDepth 100000
set_option maxHeartbeats 4000000

def Rsets2 (n : Int) : Spec := fun ds k => ∃ ns, ds = [.list (PI (expand ns))] ∧ ns.length = 34 ∧ (∀ i, 0 ≤ ns.getD i 0) ∧ ns.sum < n ∧ ns.sum ≤ 90 ∧ k (.bool (GG 0 0 0 ns))
theorem sets2_meets {p : Program} {w : World} {h₀ : Heap} (hr : PySem.Challenge.rw_md0016_02 = PySem.Challenge.rw_md0016_02) (G : Gnd (topw.heap_39 w.params) h₀) : ∀ j : Nat, Meets p w h₀ 86 (j + 10) (Rsets2 (3 * (j + 1))) := by
  have hwo := without_meets (p := p) hr G
  revert hr G
  k_fill
  intro hr G j
  have main : ∀ (j : Nat), (∀ j', j = j' + 1 → Meets p w h₀ 86 (j' + 10) (Rsets2 (3 * j))) → Meets p w h₀ 86 (j + 10) (Rsets2 (3 * (j + 1))) := by
    intro j ih
    refine meets_def ["tiles"] [] [] (G.X _ _ (by k_is)) rfl G.lim (codeRec_of G.X (by k_is)) rfl rfl rfl rfl rfl (fun _ => .nil) ?hb ?hk (by decide) (by decide) ?_ (Nat.succ_pos _)
    case hb =>
      intro s vs _ hl
      obtain ⟨v, rfl⟩ := vs1 hl
      exact BindsTo.of_eq rfl
    case hk =>
      intro n x hx
      rcases List.mem_singleton.mp hx with rfl
      exact .inl rfl
    rintro ds k ⟨ns, rfl, hl, h0, hs, h90, hk⟩
    refine ⟨rfl, fun A env eo hh hdp hun => ?_⟩
    have hn : env.scope.names = _ := congrArg Scope.names eo.scope
    have ok : EnvOk env := ⟨by rw [eo.scope], eo.glob, eo.blt⟩
    dsimp only at hn
    clear eo
    have fn79 : FnAt h₀ 79 := ⟨_, _, G.X _ _ (by k_is), rfl⟩
    have fn86 : FnAt h₀ 86 := ⟨_, _, G.X _ _ (by k_is), rfl⟩
    show Ex p w h₀ A env [(Str.ofString "tiles", .val (.list (PI (expand ns))))] _ _ _
    have hlen := expand_length h0
    have hu64 : A.units + 64 < cLine := by lia
    refine ex_cons (x1_mono (N' := fun l => expand ns ≠ [] ∧ Has l [("tiles", .val (.list (PI (expand ns))))]) (x1_if ?_) ?_)
    · (with_reducible refine tst_eqD hu64 ?_ ?hm); (case hm => with_unfolding_all rfl)
      (with_reducible refine' ev_nameAny ok.kind ?hx ?_ ?hd); (case hx => exact rfl); (case hd => decide +kernel)
      refine ev_disp (evS_nil ⟨by decide, ⟨shaped_PI _, by decide⟩, ?_⟩)
      show if PyData.eqv (.list (PI (expand ns))) (.list []) = true then _ else _
      rw [eqv_nil]
      refine it_cases (fun hq => ?_) (fun hq => ?_)
      · refine ex_cons (x1_ret (ev_bool (evB_const ?_)))
        rw [expand_nil hl h0 (List.isEmpty_iff.mp hq)] at hk; exact hk
      · exact ex_nil ⟨fun e => by (rw [e] at hq; cases hq), rfl, trivial⟩
    rintro l ⟨hne, hlo⟩
    refine ex_has hlo ?_
    obtain ⟨a, t, ee⟩ := List.exists_cons_of_ne_nil hne
    obtain ⟨i, rfl, hi, h1, hz⟩ := expand_cons hl h0 ee
    have e0 : (expand ns).getD 0 0 = (i : Int) := by rw [ee]; rfl
    have hiC : 0 < (expand ns).length ∧ ((expand ns).length : Int) < 2 ^ 63 := ⟨by rw [ee]; simp, by lia⟩
    have emod : (i : Int).fmod 9 = ((i % 9 : Nat) : Int) := by
      rw [Int.fmod_eq_emod_of_nonneg _ (by decide)]; lia
    refine ex_cons ?_
    (with_reducible refine' x1_asgN ok.kind ?hx (evN_disp ?_) ?hs); (case hx => exact stored_at hn rfl); (case hs => rfl)
    (with_reducible refine' evS_cons (ev_new (evN_mul (evP_new (evN_disp ?_)))) ?he); (case he => rfl)
    (with_reducible refine' evS_cons (ev_int ?_) ?he); (case he => rfl)
    repeat walk_at "mI"
    refine ⟨hiC, ?_⟩
    rw [e0]
    refine evS_nil ⟨Nat.le_of_ble_eq_true rfl, [(i : Int)], rfl, ?_⟩
    walk_at "mI"
    refine ⟨⟨by simp, by decide, by decide, Nat.le_of_ble_eq_true rfl⟩, evS_nil ⟨Nat.le_of_ble_eq_true rfl, ?_⟩⟩
    rw [show (List.replicate (3 : Int).toNat [(i : Int)]).flatten = [(i : Int), (i : Int), (i : Int)] from rfl]
    refine ex_cons (x1_mono (N' := fun l => Has l [("tiles", .val (.list (PI (expand ns)))), ("blocks", .own ((blocks i ns).map fun q => .list (PI q.1)))]) (x1_if ?_) ?_)
    · repeat (first | walk_at "mI" | (refine ⟨hiC, ?_⟩; rw [e0]))
      refine it_cases (fun h27 => ?_) (fun h27 => ?_)
      rotate_left
      · simp only [decide_eq_false_iff_not] at h27
        have hc : ¬ (can i = true) := fun q => by have := can_lt q; lia
        refine it_f rfl (ex_nil ⟨rfl, ?_, trivial⟩)
        rw [blocks, if_neg hc]; rfl
      simp only [decide_eq_true_eq] at h27
      repeat (first | walk_at "mI" | (refine ⟨hiC, ?_⟩; rw [e0]) | refine ⟨by decide, ?_⟩)
      rw [emod]
      refine it_cases (fun h7 => ?_) (fun h7 => ?_)
      rotate_left
      · simp only [decide_eq_false_iff_not] at h7
        have hc : ¬ (can i = true) := fun q => by
          simp only [can, Bool.and_eq_true, decide_eq_true_eq] at q; lia
        refine it_f rfl (ex_nil ⟨rfl, ?_, trivial⟩)
        rw [blocks, if_neg hc]; rfl
      simp only [decide_eq_true_eq] at h7
      have hc : can i = true := by simp only [can, Bool.and_eq_true, decide_eq_true_eq]; lia
      walk_at "mI"
      refine it_t rfl (ex_cons ?_)
      (with_reducible refine' x1_append ok ?hg ?hz ?_ ?hm ?he ?hd ?hs); (case hg => exact rfl); (case hz => exact Nat.le_of_ble_eq_true rfl); (case hm => rfl); (case he => rfl); (case hd => decide +kernel); (case hs => rfl)
      refine ev_new (evN_disp ?_)
      (with_reducible refine' evS_cons (ev_int ?_) ?he); (case he => rfl)
      repeat (first | walk_at "mI" | (refine ⟨hiC, ?_⟩; rw [e0]))
      (with_reducible refine' evS_cons (ev_int ?_) ?he); (case he => rfl)
      repeat (first | walk_at "mI" | (refine ⟨hiC, ?_⟩; rw [e0]))
      (with_reducible refine' evS_cons (ev_int ?_) ?he); (case he => rfl)
      repeat (first | walk_at "mI" | (refine ⟨hiC, ?_⟩; rw [e0]))
      refine evS_nil ⟨Nat.le_of_ble_eq_true rfl, ex_nil ⟨rfl, ?_, trivial⟩⟩
      rw [blocks, if_pos hc]; rfl
    intro l hlo
    refine ex_has hlo (ex_freeze (x := "blocks") rfl ?_)
    refine ex_cons (x1_mono (N' := fun l => GG 0 0 0 ns = false) ?_ fun l hf => ?_)
    rotate_left
    · refine ex_cons (x1_ret (ev_bool (evB_const ?_)))
      rw [hf] at hk; exact hk
    (with_reducible refine' x1_for hh ok.kind ?hx (it_list ?_) ?hs); (case hx => exact stored_at hn rfl); (case hs => intro _; rfl)
    (with_reducible refine' ev_name ok.kind ?hx ?_ ?hd); (case hx => exact rfl); (case hd => decide +kernel)
    refine ⟨_, rfl, ?_⟩
    refine forw_inv (fun ds l => ∃ bo : List (List Int × Option (List Int)), ds = (bo.map fun q => .list (PI q.1)) ∧ Has l [("tiles", .val (.list (PI (expand ns))))] ∧ (∀ q ∈ bo, without (expand ns) q.1 = q.2.map expand ∧ ∀ ns', q.2 = some ns' → ns'.length = 34 ∧ (∀ z, 0 ≤ ns'.getD z 0) ∧ ns'.sum = ns.sum - 3) ∧ GG 0 0 0 ns = bo.any fun q => q.2.elim false (GG 0 0 0)) ?_ ?_ _ _
      ⟨blocks i ns, rfl, ⟨rfl, trivial⟩, blocks_ok hl h0 hi h1, blocks_any hl h0 hi h1 hz⟩
    · rintro l ⟨bo, e, _, _, hg⟩
      cases bo with
      | nil => exact hg
      | cons q t => cases e
    · rintro d ds l ⟨bo, e, ⟨g1, _⟩, hok, hg⟩
      cases bo with
      | nil => cases e
      | cons q bo =>
        obtain ⟨b, o⟩ := q
        obtain ⟨rfl, rfl⟩ := List.cons.inj (show d :: ds = .list (PI b) :: (bo.map fun q => .list (PI q.1)) from e)
        obtain ⟨hw, ho⟩ := hok (b, o) (.head _)
        have hok' : ∀ q ∈ bo, without (expand ns) q.1 = q.2.map expand ∧ ∀ ns', q.2 = some ns' → ns'.length = 34 ∧ (∀ z, 0 ≤ ns'.getD z 0) ∧ ns'.sum = ns.sum - 3 := fun q hq => hok q (.tail _ hq)
        rw [List.any_cons] at hg
        simp only at hw ho hg
        refine ex_has (m' := [("tiles", .val (.list (PI (expand ns)))), ("block", .val (.list (PI b)))]) ⟨by rw [gt_st, if_neg (by decide)]; exact g1, by rw [gt_st, if_pos rfl], trivial⟩ ?_
        refine ex_cons ?_
        (with_reducible refine' x1_for hh ok.kind ?hx (it_list ?_) ?hs); (case hx => exact stored_at hn rfl); (case hs => intro _; rfl)
        (with_reducible refine' ev_call ok hwo fn79 hh ?hr ?hu ?hx ?hg ?_ ?he ?hp ?hd); (case hr => lia); (case hu => lia); (case hx => exact kind_at hn rfl); (case hg => exact G.gl (by k_is)); (case he => rfl); (case hp => rfl); (case hd => decide +kernel)
        (with_reducible refine' evS_cons ?_ ?he); (case he => rfl)
        (with_reducible refine' ev_nameAny ok.kind ?hx ?_ ?hd); (case hx => exact rfl); (case hd => decide +kernel)
        (with_reducible refine' evS_cons ?_ ?he); (case he => rfl)
        (with_reducible refine' ev_nameAny ok.kind ?hx ?_ ?hd); (case hx => exact rfl); (case hd => decide +kernel)
        refine evS_nil ⟨expand ns, b, rfl, by lia, _, rfl, ?_⟩
        rw [hw]
        cases o with
        | none => exact forw_nil (ex_nil ⟨bo, rfl, ⟨rfl, trivial⟩, hok', by simpa using hg⟩)
        | some ns' =>
          obtain ⟨hl', h0', hs'⟩ := ho ns' rfl
          simp only [Option.elim] at hg
          refine forw_cons ?_
          have hpos := le_sum ns i h0
          have hge : 0 ≤ ns'.sum := sum_nonneg ns' h0'
          obtain ⟨j', hj⟩ : ∃ j', j = j' + 1 := ⟨j - 1, by lia⟩
          refine ex_cons (x1_if (tst_B (evB_of ?_)))
          (with_reducible refine' ev_call ok (ih j' hj) fn86 hh ?hr ?hu ?hx ?hg ?_ ?he ?hp ?hd); (case hr => lia); (case hu => lia); (case hx => exact kind_at hn rfl); (case hg => exact G.gl (by k_is)); (case he => rfl); (case hp => rfl); (case hd => decide +kernel)
          (with_reducible refine' evS_cons ?_ ?he); (case he => rfl)
          (with_reducible refine' ev_nameAny ok.kind ?hx ?_ ?hd); (case hx => exact rfl); (case hd => decide +kernel)
          refine evS_nil ⟨ns', rfl, hl', h0', by lia, by lia, _, rfl, ?_⟩
          refine it_cases (fun hq => ?_) (fun hq => ?_)
          · refine ex_cons (x1_ret (ev_bool (evB_const ?_)))
            rw [hq, Bool.true_or] at hg
            rw [hg] at hk; exact hk
          · rw [hq, Bool.false_or] at hg
            exact ex_nil (ex_nil (forw_nil (ex_nil ⟨bo, rfl, ⟨rfl, trivial⟩, hok', hg⟩)))
  induction j with
  | zero => exact main 0 fun j' e => by lia
  | succ j ih =>
    refine main (j + 1) fun j' e => ?_
    have : j' = j := by lia
    subst this
    rw [Int.natCast_add]
    exact ih

set_option maxRecDepth 100000
set_option maxHeartbeats 4000000

def Rwon2 : Spec := fun ds k => ∃ ns, ds = [.list (PI ns)] ∧ ns.length = 34 ∧ (∀ i, 0 ≤ ns.getD i 0 ∧ ns.getD i 0 ≤ 4) ∧ ns.sum ≤ 14 ∧ k (.bool (PSb ns))
theorem won2_meets {p : Program} {w : World} {h₀ : Heap} (hr : PySem.Challenge.rw_md0016_02 = PySem.Challenge.rw_md0016_02) (G : Gnd (topw.heap_39 w.params) h₀) : Meets p w h₀ 91 15 Rwon2 := by
  have hwo := without_meets (p := p) hr G
  have hse := sets2_meets (p := p) hr G 4
  revert hr G
  k_fill
  intro hr G
  refine meets_def ["closed"] [] [] (G.X _ _ (by k_is)) rfl G.lim (codeRec_of G.X (by k_is)) rfl rfl rfl rfl rfl (fun _ => .nil) ?hb ?hk (by decide) (by decide) ?_ (by decide)
  case hb =>
    intro s vs hg hl
    obtain ⟨v, rfl⟩ := vs1 hl
    exact BindsTo.of_eq rfl
  case hk =>
    intro n x hx
    rcases List.mem_singleton.mp hx with rfl
    exact .inr ⟨rfl, rfl⟩
  rintro ds k ⟨ns, rfl, hl, hb, hs, hk⟩
  refine ⟨rfl, fun A env eo hh hdp hun => ?_⟩
  have hn : env.scope.names = _ := congrArg Scope.names eo.scope
  have ok : EnvOk env := ⟨by rw [eo.scope], eo.glob, eo.blt⟩
  have hce : env.cells = [(Str.ofString "closed", env.locals + 1)] := eo.cells.trans rfl
  dsimp only at hn
  clear eo
  have hcl : env.cells.lookup (Str.ofString "closed") = some (env.locals + 1) := by rw [hce]; rfl
  have fn79 : FnAt h₀ 79 := ⟨_, _, G.X _ _ (by k_is), rfl⟩
  have fn86 : FnAt h₀ 86 := ⟨_, _, G.X _ _ (by k_is), rfl⟩
  have h0 : ∀ i, 0 ≤ ns.getD i 0 := fun i => (hb i).1
  have h34 : (ns.length : Int) < 2 ^ 63 := by rw [hl]; decide
  have hlen := expand_length h0
  show Ex p w h₀ A env [(Str.ofString "closed", .val (.list (PI ns)))] _ _ _
  refine ex_cons (x1_mono (N' := fun l => Has l [("closed", .val (.list (PI ns))), ("tiles", .own (PI (expand ns)))]) ?_ fun l hlo => ex_has hlo ?_)
  · (with_reducible refine' x1_asgComp2 [(Str.ofString "closed", env.locals + 1)] [(Str.ofString "closed", .val (.list (PI ns)))] (Str.ofString ".acc") ok hh ?K ?hyl ?hc ?hxm ?hym ?hzm ?hyx ?hzx ?hzy ?hv ?hsw ?_ ?hs2 ?hs)
    case K =>
      refine ⟨by decide, rfl, rfl, by decide, closureFor_closes ?_, ?_, ?_⟩
      · simp only [closes, hcl]; rfl
      · intro q hq; rw [hce]; exact hq
      · exact List.pairwise_singleton _ _
    case hyl => rfl
    case hc => exact caught_cons ok.kind rfl (kind_at hn rfl) rfl rfl hcl caught_nil
    case hxm => rfl
    case hym => rfl
    case hzm => rfl
    case hyx => decide
    case hzx => decide
    case hzy => decide
    case hv => exact kind_at hn rfl
    case hsw => exact swaps_t ok (kind_at hn rfl) rfl (by decide +kernel)
    case hs2 => intro _ _; rfl
    case hs => intro _; rfl
    (with_reducible refine' it_range ok ?hg ?hb ?_ ?he ?hd); (case hg => exact kind_at (by assumption) rfl); (case hb => exact Gnd.bi (by assumption) (by k_is) (by kernel_rfl) (by decide +kernel)); (case he => rfl); (case hd => decide +kernel)
    repeat walk_at "mI"
    refine ⟨by decide, fun C => compw2_env ok rfl fun e' ok' hke => ?_⟩
    refine compW2_expand hl h0 (by lia) (fun i hi => ?_) (fun i e => ?_) ⟨rfl, rfl, trivial⟩
    · (with_reducible refine' it_range ok' ?hg ?hb ?_ ?he ?hd); (case hg => exact hke _ _ (by decide) rfl); (case hb => exact Gnd.bi (by assumption) (by k_is) (by kernel_rfl) (by decide +kernel)); (case he => rfl); (case hd => decide +kernel)
      repeat (first | walk_at "mI" | refine ⟨⟨by lia, by lia, h34⟩, ?_⟩)
      rw [Int.toNat_natCast]
      have := hb i
      exact ⟨by lia, rfl⟩
    · repeat walk_at "mI"
      rfl
  refine ex_cons (x1_mono (N' := fun l => ¬ PS ns) ?_ fun l hf => ?_)
  rotate_left
  · refine ex_cons (x1_ret (ev_bool (evB_const ?_)))
    rw [psb_f hf] at hk; exact hk
  walk_at "mRange"
  walk_at "mI"
  refine ⟨by decide, ?_⟩
  refine forw_range 34 (fun i l => Has l [("closed", .val (.list (PI ns))), ("tiles", .own (PI (expand ns)))] ∧ ∀ z, z < i → ¬ (2 ≤ ns.getD z 0 ∧ GG 0 0 0 (ns.set z (ns.getD z 0 - 2)) = true)) ?_ ?_ _ ⟨⟨rfl, rfl, trivial⟩, fun z hz => absurd hz (Nat.not_lt_zero _)⟩
  · rintro l ⟨_, hno⟩ ⟨z, hz, h2, hg⟩
    exact hno z hz ⟨h2, hg⟩
  · rintro i l hi ⟨⟨g1, g2, _⟩, hno⟩
    refine ex_has (m' := [("closed", .val (.list (PI ns))), ("tiles", .own (PI (expand ns))), ("kind", .val (.int i))]) ⟨by rw [gt_st, if_neg (by decide)]; exact g1, by rw [gt_st, if_neg (by decide)]; exact g2, by rw [gt_st, if_pos rfl], trivial⟩ ?_
    have nxt : ¬ (2 ≤ ns.getD i 0 ∧ GG 0 0 0 (ns.set i (ns.getD i 0 - 2)) = true) → ∀ z, z < i + 1 → ¬ (2 ≤ ns.getD z 0 ∧ GG 0 0 0 (ns.set z (ns.getD z 0 - 2)) = true) := fun h z hz => by
      by_cases e : z = i
      · rw [e]; exact h
      · exact hno z (by lia)
    refine ex_cons (x1_if ?_)
    repeat (first | walk_at "mI" | refine ⟨⟨by lia, by lia, h34⟩, ?_⟩)
    rw [Int.toNat_natCast]
    refine it_cases (fun hc => ?_) (fun hc => ?_)
    rotate_left
    · simp only [decide_eq_false_iff_not, gt_iff_lt] at hc
      exact ex_nil (ex_nil ⟨⟨rfl, rfl, trivial⟩, nxt fun q => hc (by lia)⟩)
    simp only [decide_eq_true_eq, gt_iff_lt] at hc
    refine ex_cons ?_
    (with_reducible refine' x1_for hh ok.kind ?hx (it_list ?_) ?hs); (case hx => exact stored_at hn rfl); (case hs => intro _; rfl)
    (with_reducible refine' ev_call ok hwo fn79 hh ?hr ?hu ?hx ?hg ?_ ?he ?hp ?hd); (case hr => lia); (case hu => lia); (case hx => exact kind_at hn rfl); (case hg => exact G.gl (by k_is)); (case he => rfl); (case hp => rfl); (case hd => decide +kernel)
    (with_reducible refine' evS_cons ?_ ?he); (case he => rfl)
    (with_reducible refine' ev_nameAny ok.kind ?hx ?_ ?hd); (case hx => exact rfl); (case hd => decide +kernel)
    (with_reducible refine' evS_cons (ev_disp ?_) ?he); (case he => rfl)
    (with_reducible refine' evS_cons (ev_int ?_) ?he); (case he => rfl)
    walk_at "mI"
    (with_reducible refine' evS_cons (ev_int ?_) ?he); (case he => rfl)
    walk_at "mI"
    refine evS_nil ⟨Nat.le_of_ble_eq_true rfl, evS_nil ⟨expand ns, [(i : Int), (i : Int)], rfl, by lia, _, rfl, ?_⟩⟩
    rw [without_two (by lia) (by lia)]
    refine forw_cons ?_
    refine ex_cons (x1_if (tst_B (evB_of ?_)))
    (with_reducible refine' ev_call ok hse fn86 hh ?hr ?hu ?hx ?hg ?_ ?he ?hp ?hd); (case hr => lia); (case hu => lia); (case hx => exact kind_at hn rfl); (case hg => exact G.gl (by k_is)); (case he => rfl); (case hp => rfl); (case hd => decide +kernel)
    (with_reducible refine' evS_cons ?_ ?he); (case he => rfl)
    (with_reducible refine' ev_nameAny ok.kind ?hx ?_ ?hd); (case hx => exact rfl); (case hd => decide +kernel)
    have hsum : (ns.set i (ns.getD i 0 - 2)).sum = ns.sum - 2 := by rw [sum_set ns i _ (by lia)]; lia
    refine evS_nil ⟨ns.set i (ns.getD i 0 - 2), rfl, by simpa using hl, fun z => ?_, by lia, by lia, _, rfl, ?_⟩
    · rw [getD_set]; split
      · lia
      · exact h0 z
    refine it_cases (fun hg => ?_) (fun hg => ?_)
    · refine ex_cons (x1_ret (ev_bool (evB_const ?_)))
      rw [psb_t ⟨i, hi, by lia, hg⟩] at hk; exact hk
    · refine ex_nil (ex_nil (forw_nil (ex_nil (ex_nil ⟨⟨rfl, rfl, trivial⟩, nxt fun q => ?_⟩))))
      rw [q.2] at hg; cases hg

set_option maxRecDepth 100000
set_option maxHeartbeats 4000000

def Rmeld2 : Spec := fun ds k => ∃ wh num most, ds = [.list (PI wh), .int num, .int most] ∧ wh.length = 34 ∧ (∀ i, 0 ≤ wh.getD i 0 ∧ wh.getD i 0 ≤ 4) ∧ wh.sum ≤ 12 ∧ (most = 3 ∨ most = 4) ∧ ∀ m, MeldOk wh most m → k (.list (PI m))
theorem fm_nat (a : Int) (n : Nat) (hn : 0 < n) : ∃ q : Nat, q < n ∧ a.fmod (n : Int) = (q : Int) := by
  have h0 := Int.fmod_nonneg_of_pos a (b := (n : Int)) (by lia)
  have h1 := Int.fmod_lt_of_pos a (b := (n : Int)) (by lia)
  exact ⟨(a.fmod n).toNat, by lia, by lia⟩
theorem fm_succ (q n : Nat) : ((q : Int) + 1).fmod (n : Int) = (((q + 1) % n : Nat) : Int) := by
  rw [Int.fmod_eq_emod_of_nonneg _ (by lia), Int.natCast_emod, Int.natCast_add]; rfl
theorem meld2_meets {p : Program} {w : World} {h₀ : Heap} (hr : PySem.Challenge.rw_md0016_02 = PySem.Challenge.rw_md0016_02) (G : Gnd (topw.heap_39 w.params) h₀) : Meets p w h₀ 72 1 Rmeld2 := by
  revert hr G
  k_fill
  intro hr G
  refine meets_def ["whole", "number", "most"] [] [] (G.X _ _ (by k_is)) rfl G.lim (codeRec_of G.X (by k_is)) rfl rfl rfl rfl rfl (fun _ => .nil) ?hb ?hk (by decide) (by decide) ?_ (by decide)
  case hb =>
    intro s vs hg hl
    obtain ⟨v, v', v'', rfl⟩ := vs3 hl
    exact BindsTo.of_eq rfl
  case hk =>
    intro n x hx
    simp only [List.mem_cons, List.not_mem_nil, or_false] at hx
    rcases hx with rfl | rfl | rfl
    · exact .inr ⟨rfl, rfl⟩
    · exact .inl rfl
    · exact .inl rfl
  rintro ds k ⟨wh, num, most, rfl, hl, hb, hs, hm, hk⟩
  refine ⟨rfl, fun A env eo hh hdp hun => ?_⟩
  have hn : env.scope.names = _ := congrArg Scope.names eo.scope
  have ok : EnvOk env := ⟨by rw [eo.scope], eo.glob, eo.blt⟩
  have hce : env.cells = [(Str.ofString "place", env.locals + 1 + 1), (Str.ofString "whole", env.locals + 1)] := eo.cells.trans rfl
  dsimp only at hn
  clear eo
  have hcp : env.cells.lookup (Str.ofString "place") = some (env.locals + 1 + 1) := by rw [hce]; rfl
  have hcw : env.cells.lookup (Str.ofString "whole") = some (env.locals + 1) := by rw [hce]; rfl
  have h34 : (wh.length : Int) < 2 ^ 63 := by rw [hl]; decide
  have h0 : ∀ i, 0 ≤ wh.getD i 0 := fun i => (hb i).1
  show Ex p w h₀ A env [(Str.ofString "whole", .val (.list (PI wh))), (Str.ofString "number", .val (.int num)), (Str.ofString "most", .val (.int most))] _ _ _
  refine ex_cons (x1_mono (N' := fun l => Has l [("whole", .val (.list (PI wh))), ("number", .val (.int num)), ("most", .val (.int most))]) (x1_if ?_) fun l hlo => ex_has hlo ?_)
  · repeat (first | walk_at "mI" | refine ⟨by decide, ?_⟩)
    refine it_cases (fun hc => ?_) (fun hc => ?_)
    rotate_left
    · exact ex_nil ⟨rfl, rfl, rfl, trivial⟩
    refine ex_cons ?_
    (with_reducible refine' x1_asgI ok.kind ?hx ?_ ?hs); (case hx => exact stored_cell hn rfl hcp); (case hs => rfl)
    repeat (first | walk_at "mI" | refine ⟨⟨by decide, by decide⟩, ?_⟩ | refine ⟨by decide, ?_⟩)
    obtain ⟨q, hq, eq⟩ := fm_nat (num.fdiv 3) 21 (by decide)
    simp only [Int.cast_ofNat_Int] at eq
    rw [eq]
    refine ex_cons (x1_mono (N' := fun l => ∃ q, q < 21 ∧ RunFree wh q ∧ Has l [("whole", .val (.list (PI wh))), ("place", .val (.int (q : Nat)))]) (x1_while 22 ?_) ?_)
    · refine whw_inv (fun n l => ∃ q, q < 21 ∧ (∃ d, d < n ∧ RunFree wh ((q + d) % 21)) ∧ Has l [("whole", .val (.list (PI wh))), ("place", .val (.int (q : Nat)))]) ?_ ?_ 22 _ ⟨q, hq, ?_, rfl, rfl, trivial⟩
      rotate_left
      rotate_left
      · obtain ⟨d, hd, hp⟩ := cyc (some_run hl h0 hs) hq
        exact ⟨d, by lia, hp⟩
      · rintro l ⟨_, _, ⟨d, hd, _⟩, _⟩; lia
      rintro n l ⟨q, hq, hfr, hlo⟩
      have hlt := runAt_lt hq
      refine tst_has hlo ?_
      (with_reducible refine tst_gt ?_ ?hm); (case hm => with_unfolding_all rfl)
      (with_reducible refine' evI_max ok hh ?hx ?hB ?_ ?he ?hd); (case hx => exact kind_at hn rfl); (case hB => exact G.bi (by k_is) (by kernel_rfl) (by decide +kernel)); (case he => rfl); (case hd => decide +kernel)
      refine evP_new ?_
      (with_reducible refine' evN_comp [(Str.ofString "whole", env.locals + 1), (Str.ofString "place", env.locals + 1 + 1)] [(Str.ofString "whole", .val (.list (PI wh))), (Str.ofString "place", .val (.int (q : Nat)))] hh ?K ?hc ?_ ?hs)
      case hs => intro _; rfl
      case K =>
        refine ⟨by decide, rfl, rfl, by decide, closureFor_closes ?_, ?_, ?_⟩
        · simp only [closes, hcp, hcw]; rfl
        · intro q hq
          rw [hce]
          simp only [List.mem_cons, List.not_mem_nil, or_false] at hq ⊢
          exact hq.symm
        · simp
      case hc => exact caught_cons ok.kind rfl (kind_at hn rfl) rfl rfl hcw (caught_cons ok.kind rfl (kind_at hn rfl) rfl rfl hcp caught_nil)
      (with_reducible refine' it_range ok ?hg ?hb ?_ ?he ?hd); (case hg => exact kind_at (by assumption) rfl); (case hb => exact Gnd.bi (by assumption) (by k_is) (by kernel_rfl) (by decide +kernel)); (case he => rfl); (case hd => decide +kernel)
      walk_at "mI"
      refine ⟨by decide, by decide, fun C => compw_env ok rfl fun e' ok' _ => ?_⟩
      refine compw_map (fun d => match d with | .int i => .int (wh.getD (runAt q + i.toNat) 0) | d => d) _ _ (fun d hd => ?_) ⟨[wh.getD (runAt q + 0) 0, wh.getD (runAt q + 1) 0, wh.getD (runAt q + 2) 0], rfl, by simp, fun M hM hmax => ?_⟩
      · obtain ⟨i, hi, rfl⟩ := List.mem_map.mp hd
        obtain ⟨j, hj, rfl⟩ := List.mem_map.mp hi
        have hj := List.mem_range.mp hj
        have hj3 : j < 3 := hj
        refine ev_int ?_
        repeat (first | walk_at "mI" | refine ⟨⟨by decide, by decide⟩, ?_⟩ | refine ⟨by decide, ?_⟩ | refine ⟨IntMulOk.of_right (by decide), ?_⟩)
        rw [runAt_int]
        have ej : ((runAt q : Int) + (j : Int)).toNat = runAt q + j := by lia
        refine ⟨⟨by lia, by lia, h34⟩, ?_⟩
        rw [ej]; rfl
      · walk_at "mI"
        refine it_cases (fun hq2 => ?_) (fun hq2 => ?_)
        · simp only [decide_eq_true_eq, gt_iff_lt] at hq2
          have hnf : ¬ RunFree wh q := fun hf => by
            have f0 := hf 0 (by decide); have f1 := hf 1 (by decide); have f2 := hf 2 (by decide)
            simp only [List.mem_cons, List.not_mem_nil, or_false] at hM
            rcases hM with rfl | rfl | rfl <;> lia
          refine ex_has hlo (ex_cons ?_)
          (with_reducible refine' x1_asgI ok.kind ?hx ?_ ?hs); (case hx => exact stored_cell hn rfl hcp); (case hs => rfl)
          repeat (first | walk_at "mI" | refine ⟨by decide, ?_⟩)
          have ef := fm_succ q 21
          simp only [Int.cast_ofNat_Int] at ef
          rw [ef]
          exact ex_nil ⟨(q + 1) % 21, Nat.mod_lt _ (by decide), cyc_step hq hnf hfr, rfl, rfl, trivial⟩
        · simp only [decide_eq_false_iff_not, gt_iff_lt, Int.not_lt] at hq2
          refine ⟨q, hq, fun s hs => ?_, hlo⟩
          have : s = 0 ∨ s = 1 ∨ s = 2 := by lia
          rcases this with rfl | rfl | rfl
          · exact Int.le_trans (hmax _ (.head _)) hq2
          · exact Int.le_trans (hmax _ (.tail _ (.head _))) hq2
          · exact Int.le_trans (hmax _ (.tail _ (.tail _ (.head _)))) hq2
    clear hq eq q
    rintro l ⟨q, hq, hfr, hlo⟩
    have hlt := runAt_lt hq
    refine ex_has hlo (ex_cons (x1_ret (ev_new ?_)))
    (with_reducible refine' evN_comp [(Str.ofString "place", env.locals + 1 + 1)] [(Str.ofString "place", .val (.int (q : Nat)))] hh ?K ?hc ?_ ?hs)
    case hs => intro _; rfl
    case K =>
      refine ⟨by decide, rfl, rfl, by decide, closureFor_closes ?_, ?_, ?_⟩
      · simp only [closes, hcp]; rfl
      · intro q hq
        rw [hce]
        rcases List.mem_singleton.mp hq with rfl
        exact .head _
      · simp
    case hc => exact caught_cons ok.kind rfl (kind_at hn rfl) rfl rfl hcp caught_nil
    (with_reducible refine' it_range ok ?hg ?hb ?_ ?he ?hd); (case hg => exact kind_at (by assumption) rfl); (case hb => exact Gnd.bi (by assumption) (by k_is) (by kernel_rfl) (by decide +kernel)); (case he => rfl); (case hd => decide +kernel)
    walk_at "mI"
    refine ⟨by decide, by decide, fun C => compw_env ok rfl fun e' ok' _ => ?_⟩
    refine compw_map (fun d => match d with | .int i => .int ((runAt q : Int) + i) | d => d) _ _ (fun d hd => ?_) (hk [(runAt q : Int) + 0, (runAt q : Int) + 1, (runAt q : Int) + 2] (run_ok hb hq hfr))
    obtain ⟨i, hi, rfl⟩ := List.mem_map.mp hd
    refine ev_int ?_
    repeat (first | walk_at "mI" | refine ⟨⟨by decide, by decide⟩, ?_⟩ | refine ⟨by decide, ?_⟩ | refine ⟨IntMulOk.of_right (by decide), ?_⟩)
    rw [runAt_int]
  refine ex_cons (x1_mono (N' := fun l => ∃ size : Int, (size = 3 ∨ (size = 4 ∧ most = 4)) ∧ Has l [("whole", .val (.list (PI wh))), ("number", .val (.int num)), ("size", .val (.int size))]) ?_ ?_)
  · walk_at "mAsgI"
    refine evI_ite ?_
    repeat (first | walk_at "mI" | refine ⟨by decide, ?_⟩)
    refine it_cases (fun hc => ?_) (fun hc => ?_)
    · walk_at "mI"
      exact ⟨most, by lia, rfl, rfl, rfl, trivial⟩
    · walk_at "mI"
      exact ⟨3, .inl rfl, rfl, rfl, rfl, trivial⟩
  rintro l ⟨size, hz, hlo⟩
  refine ex_has hlo ?_
  refine ex_cons ?_
  walk_at "mAsgI"
  repeat (first | walk_at "mI" | refine ⟨⟨by decide, by decide⟩, ?_⟩ | refine ⟨by decide, ?_⟩)
  obtain ⟨q, hq, eq⟩ := fm_nat (num.fdiv 3) 34 (by decide)
  simp only [Int.cast_ofNat_Int] at eq
  rw [eq]
  refine ex_cons (x1_mono (N' := fun l => ∃ q, q < 34 ∧ wh.getD q 0 + size ≤ 4 ∧ Has l [("kind", .val (.int (q : Nat))), ("size", .val (.int size))]) (x1_while 35 ?_) ?_)
  · refine whw_inv (fun n l => ∃ q, q < 34 ∧ (∃ d, d < n ∧ wh.getD ((q + d) % 34) 0 + size ≤ 4) ∧ Has l [("whole", .val (.list (PI wh))), ("kind", .val (.int (q : Nat))), ("size", .val (.int size))]) ?_ ?_ 35 _ ⟨q, hq, ?_, rfl, rfl, rfl, trivial⟩
    rotate_left
    rotate_left
    · obtain ⟨z, hz1, hz2⟩ := some_low hl h0 (c := 1) (by decide) (by lia)
      obtain ⟨d, hd, hp⟩ := cyc (P := fun z => wh.getD z 0 + size ≤ 4) ⟨z, hz1, by have := h0 z; lia⟩ hq
      exact ⟨d, by lia, hp⟩
    · rintro l ⟨_, _, ⟨d, hd, _⟩, _⟩; lia
    rintro n l ⟨q, hq, hfr, hlo⟩
    refine tst_has hlo ?_
    repeat (first | walk_at "mI" | refine ⟨⟨by lia, by lia, h34⟩, ?_⟩)
    rw [Int.toNat_natCast]
    refine it_cases (fun hq2 => ?_) (fun hq2 => ?_)
    · simp only [decide_eq_true_eq, gt_iff_lt] at hq2
      refine ex_has hlo (ex_cons ?_)
      walk_at "mAsgI"
      repeat (first | walk_at "mI" | refine ⟨by decide, ?_⟩)
      have ef := fm_succ q 34
      simp only [Int.cast_ofNat_Int] at ef
      rw [ef]
      exact ex_nil ⟨(q + 1) % 34, Nat.mod_lt _ (by decide), cyc_step (P := fun z => wh.getD z 0 + size ≤ 4) hq (by lia) hfr, rfl, rfl, rfl, trivial⟩
    · simp only [decide_eq_false_iff_not, gt_iff_lt, Int.not_lt] at hq2
      obtain ⟨g1, g2, g3, _⟩ := hlo
      exact ⟨q, hq, hq2, g2, g3, trivial⟩
  clear hq eq q
  rintro l ⟨q, hq, hfr, hlo⟩
  refine ex_has hlo (ex_cons (x1_ret (ev_new (evN_mul (evP_new (evN_disp ?_))))))
  (with_reducible refine' evS_cons (ev_int ?_) ?he); (case he => rfl)
  walk_at "mI"
  refine evS_nil ⟨Nat.le_of_ble_eq_true rfl, [(q : Int)], rfl, ?_⟩
  walk_at "mI"
  refine ⟨⟨by simp, by lia, by lia, by simp; lia⟩, ?_⟩
  rw [rep_flat]
  exact hk _ (same_ok hb hq hz hfr)

set_option maxRecDepth 100000
set_option maxHeartbeats 4000000

structure Hand (wh ns : List Int) (ms : List (List Int)) : Prop where
  lw : wh.length = 34
  ln : ns.length = 34
  pos : ∀ i, 0 ≤ ns.getD i 0
  four : ∀ i, wh.getD i 0 ≤ 4
  some : ms ≠ []
  few : ms.length ≤ 4
  ok : MeldsOk ms
  eq : ∀ i, i < 34 → wh.getD i 0 = ns.getD i 0 + cnt ms i
  sum : ns.sum ≤ 11
theorem Hand.le {wh ns : List Int} {ms : List (List Int)} (H : Hand wh ns ms) (i : Nat) : 0 ≤ ns.getD i 0 ∧ ns.getD i 0 ≤ 4 := by
  refine ⟨H.pos i, ?_⟩
  by_cases h : i < 34
  · have := H.eq i h; have := H.four i; have := cnt_nonneg ms i; lia
  · have : ns.getD i 0 = 0 := by simp [List.getD, List.getElem?_eq_none (show ns.length ≤ i by have := H.ln; lia)]
    lia
theorem AGb_PSb {ns : List Int} (hl : ns.length = 34) (hb : ∀ i, 0 ≤ ns.getD i 0 ∧ ns.getD i 0 ≤ 4) (hs : ns.sum ≤ 13) : AGb ns = PSb ns := by
  by_cases h : PS ns
  · rw [psb_t h, agb_t ((small_ag hl hb hs).mpr h)]
  · rw [psb_f h, agb_f fun q => h ((small_ag hl hb hs).mp q)]
def turn (ms : List (List Int)) : List (List Int) := ms.reverse.map List.reverse
def Kept (wh ns : List Int) (ms ms' : List (List Int)) : PyData := .list [.list (PI wh), .list (PI ns), .list (PL ms), .list (PL ms')]
theorem kept_lay (wh ns : List Int) (ms ms' : List (List Int)) : (Kept wh ns ms ms').canLay0 = true := by
  simp only [Kept, PyData.canLay0, PyData.canLayAll0, canLay_PI, canLay_PL, Bool.and_self]
theorem kept_shaped (wh ns : List Int) (ms ms' : List (List Int)) : SeqAt.shaped (Kept wh ns ms ms') = true := by
  have e : (Kept wh ns ms ms').depth ≤ 64 := by
    have h1 := depth_PI wh; have h2 := depth_PI ns; have h3 := depth_PL ms; have h4 := depth_PL ms'
    simp only [Kept, PyData.depth, PyData.depthAll]
    lia
  show ((Kept wh ns ms ms').canLay0 && decide ((Kept wh ns ms ms').depth ≤ 64)) = true
  rw [decide_eq_true e, Bool.and_true]
  exact kept_lay ..
theorem kept_eqv (wh ns : List Int) (ms ms' : List (List Int)) : PyData.eqv (Kept wh ns ms ms') (Kept wh ns ms ms') = true := PySem.SeqAt.eqv_refl _ (kept_lay ..)
def Rright : Spec := fun ds k => ∃ wh ns ms, ds = [.list (PI wh), .list (PI ns), .list (PL ms)] ∧ Hand wh ns ms ∧ k (.bool true)
theorem right_meets {p : Program} {w : World} {h₀ : Heap} (hr : PySem.Challenge.rw_md0016_02 = PySem.Challenge.rw_md0016_02) (G : Gnd (topw.heap_39 w.params) h₀) : Meets p w h₀ 96 16 Rright := by
  have hwn := won2_meets (p := p) hr G
  have hag := agari_meets (p := p) hr G
  have hsm := (sm_all (p := p) hr G).1
  revert hr G
  k_fill
  intro hr G
  refine meets_def ["whole", "closed", "melds"] [] [] (G.X _ _ (by k_is)) rfl G.lim (codeRec_of G.X (by k_is)) rfl rfl rfl rfl rfl (fun _ => .nil) ?hb ?hk (by decide) (by decide) ?_ (by decide)
  case hb =>
    intro s vs hg hl
    obtain ⟨v, v', v'', rfl⟩ := vs3 hl
    exact BindsTo.of_eq rfl
  case hk =>
    intro n x hx
    simp only [List.mem_cons, List.not_mem_nil, or_false] at hx
    rcases hx with rfl | rfl | rfl <;> exact .inl rfl
  rintro ds k ⟨wh, ns, ms, rfl, H, hk⟩
  refine ⟨rfl, fun A env eo hh hdp hun => ?_⟩
  have hn : env.scope.names = _ := congrArg Scope.names eo.scope
  have ok : EnvOk env := ⟨by rw [eo.scope], eo.glob, eo.blt⟩
  have hce : env.cells = [(Str.ofString "won", env.locals + 1)] := eo.cells.trans rfl
  dsimp only at hn
  clear eo
  have hcl : env.cells.lookup (Str.ofString "won") = some (env.locals + 1) := by rw [hce]; rfl
  have fn91 : FnAt h₀ 91 := ⟨_, _, G.X _ _ (by k_is), rfl⟩
  have fn27 : FnAt h₀ 27 := ⟨_, _, G.X _ _ (by k_is), rfl⟩
  have gA : Gl h₀ "Agari" (.ref 63) := G.gl (by k_is)
  have hu64 : A.units + 64 < cLine := by lia
  have hsl : (100 : Nat) ≤ sizeLine := by decide
  have hpl : ∀ ms : List (List Int), (PL ms).length = ms.length := fun ms => by simp [PL]
  have hin : ∀ (ms : List (List Int)), MeldsOk ms → ∀ d ∈ PL ms, ∃ m : List Int, d = .list (PI m) ∧ m.length ≤ 4 := fun ms ok d hd => by
    obtain ⟨m, hm, rfl⟩ := List.mem_map.mp hd
    exact ⟨m, rfl, by have := (ok m hm).1; lia⟩
  show Ex p w h₀ A env [(Str.ofString "whole", .val (.list (PI wh))), (Str.ofString "closed", .val (.list (PI ns))), (Str.ofString "melds", .val (.list (PL ms)))] _ _ _
  refine ex_cons ?_
  (with_reducible refine' x1_asgB ok.kind ?hx (evB_of ?_) ?hs); (case hx => exact stored_cell hn rfl hcl); (case hs => rfl)
  (with_reducible refine' ev_call ok hwn fn91 hh ?hr ?hu ?hx ?hg ?_ ?he ?hp ?hd); (case hr => lia); (case hu => lia); (case hx => exact kind_at hn rfl); (case hg => exact G.gl (by k_is)); (case he => rfl); (case hp => rfl); (case hd => decide +kernel)
  (with_reducible refine' evS_cons ?_ ?he); (case he => rfl)
  (with_reducible refine' ev_nameAny ok.kind ?hx ?_ ?hd); (case hx => exact rfl); (case hd => decide +kernel)
  have hsum := H.sum
  refine evS_nil ⟨ns, rfl, H.ln, H.le, by lia, _, rfl, ?_⟩
  -- turned
  refine ex_cons ?_
  (with_reducible refine' x1_asgComp [] [] ok hh ?K ?hc ?hy ?hsw ?_ ?hs)
  case hs => intro _; rfl
  case K => exact ⟨by decide, rfl, rfl, by decide, closureFor_closes (by simp only [closes]; rfl), (fun _ h => nomatch h), .nil⟩
  case hc => exact caught_nil
  case hy => exact kind_at hn rfl
  case hsw => exact swaps_t ok (kind_at hn rfl) rfl (by decide +kernel)
  refine it_list (ev_revD ?_)
  (with_reducible refine' ev_name ok.kind ?hx ?_ ?hd); (case hx => exact rfl); (case hd => decide +kernel)
  have hfew := H.few
  refine ⟨_, rfl, evI_neg ⟨rfl, by rw [hpl]; lia, _, rfl, ?_⟩⟩
  refine ⟨by rw [List.length_reverse, hpl]; lia, fun C => compw_env ok rfl fun e' ok' _ => ?_⟩
  refine compw_map (fun d => match d with | .list xs => .list xs.reverse | d => d) _ _ (fun d hd => ?_) ?_
  · obtain ⟨m, rfl, hm4⟩ := hin ms H.ok d (List.mem_reverse.mp hd)
    refine ev_new (evN_rev ?_)
    walk_at "mI"
    refine evI_neg ⟨rfl, by lia, ?_⟩
    simp [PI]
  have et : ([] ++ ((PL ms).reverse.map fun d => match d with | .list xs => .list xs.reverse | d => d) : List PyData) = PL (turn ms) := by
    simp only [PL, turn, List.nil_append, ← List.map_reverse, List.map_map]
    refine List.map_congr_left fun m _ => ?_
    simp [PI]
  rw [et]
  have okt : MeldsOk (turn ms) := ok_rev H.ok
  have lent : (turn ms).length = ms.length := by simp [turn]
  refine ex_freeze (x := "turned") rfl ?_
  refine ex_has (m' := [("whole", .val (.list (PI wh))), ("closed", .val (.list (PI ns))), ("melds", .val (.list (PL ms))), ("won", .val (.bool (PSb ns))), ("turned", .val (.list (PL (turn ms))))]) ⟨rfl, rfl, rfl, rfl, rfl, trivial⟩ ?_
  -- kept
  refine ex_cons ?_
  (with_reducible refine' x1_asgN ok.kind ?hx (evN_disp ?_) ?hs); (case hx => exact stored_at hn rfl); (case hs => rfl)
  (with_reducible refine' evS_cons (ev_new (evN_all ?_)) ?he); (case he => rfl)
  walk_at "mI"
  refine ⟨by rw [H.lw]; decide, ?_⟩
  (with_reducible refine' evS_cons (ev_new (evN_all ?_)) ?he); (case he => rfl)
  walk_at "mI"
  refine ⟨by rw [H.ln]; decide, ?_⟩
  (with_reducible refine' evS_cons (ev_new (evN_comp [] [] hh ?K ?hc ?_ ?hs)) ?he)
  case he => rfl
  case hs => intro _; rfl
  case K => exact ⟨by decide, rfl, rfl, by decide, closureFor_closes (by simp only [closes]; rfl), (fun _ h => nomatch h), .nil⟩
  case hc => exact caught_nil
  refine it_list ?_
  (with_reducible refine' ev_name ok.kind ?hx ?_ ?hd); (case hx => exact rfl); (case hd => decide +kernel)
  refine ⟨_, rfl, by rw [hpl]; lia, fun C => compw_env ok rfl fun e' ok' _ => ?_⟩
  refine compw_map (fun d => d) _ _ (fun d hd => ?_) ?_
  · obtain ⟨m, rfl, hm4⟩ := hin ms H.ok d hd
    refine ev_new (evN_all ?_)
    walk_at "mI"
    exact ⟨by lia, rfl⟩
  rw [List.nil_append, List.map_id']
  (with_reducible refine' evS_cons (ev_new (evN_comp [] [] hh ?K ?hc ?_ ?hs)) ?he)
  case he => rfl
  case hs => intro _; rfl
  case K => exact ⟨by decide, rfl, rfl, by decide, closureFor_closes (by simp only [closes]; rfl), (fun _ h => nomatch h), .nil⟩
  case hc => exact caught_nil
  refine it_list ?_
  (with_reducible refine' ev_name ok.kind ?hx ?_ ?hd); (case hx => exact rfl); (case hd => decide +kernel)
  refine ⟨_, rfl, by rw [hpl]; lia, fun C => compw_env ok rfl fun e' ok' _ => ?_⟩
  refine compw_map (fun d => d) _ _ (fun d hd => ?_) ?_
  · obtain ⟨m, rfl, hm4⟩ := hin (turn ms) okt d hd
    refine ev_new (evN_all ?_)
    walk_at "mI"
    exact ⟨by lia, rfl⟩
  rw [List.nil_append, List.map_id']
  refine evS_nil ⟨Nat.le_of_ble_eq_true rfl, ?_⟩
  -- answers
  have eAP := AGb_PSb H.ln H.le (by lia)
  have hxt : turn ms ≠ [] := fun e => H.some (by have := congrArg List.length e; rw [lent] at this; exact List.eq_nil_of_length_eq_zero this)
  refine ex_cons ?_
  (with_reducible refine' x1_asgN ok.kind ?hx (evN_disp ?_) ?hs); (case hx => exact stored_at hn rfl); (case hs => rfl)
  (with_reducible refine' evS_cons (ev_scall ok hag fn27 hsm hh ?hr ?hu ?hx gA ?_ ?hm ?he2 ?hp ?hd) ?he); (case hr => lia); (case hu => lia); (case hx => exact kind_at hn rfl); (case hm => rfl); (case he2 => rfl); (case hp => rfl); (case hd => decide +kernel); (case he => rfl)
  (with_reducible refine' evS_cons ?_ ?he); (case he => rfl)
  (with_reducible refine' ev_nameAny ok.kind ?hx ?_ ?hd); (case hx => exact rfl); (case hd => decide +kernel)
  (with_reducible refine' evS_cons ?_ ?he); (case he => rfl)
  (with_reducible refine' ev_nameAny ok.kind ?hx ?_ ?hd); (case hx => exact rfl); (case hd => decide +kernel)
  refine evS_nil ⟨wh, ns, .inr ⟨ms, rfl, H.some, H.few, H.ok, H.lw, H.eq⟩, H.ln, H.le, ?_⟩
  (with_reducible refine' evS_cons (ev_scall ok hag fn27 hsm hh ?hr ?hu ?hx gA ?_ ?hm ?he2 ?hp ?hd) ?he); (case hr => lia); (case hu => lia); (case hx => exact kind_at hn rfl); (case hm => rfl); (case he2 => rfl); (case hp => rfl); (case hd => decide +kernel); (case he => rfl)
  (with_reducible refine' evS_cons ?_ ?he); (case he => rfl)
  (with_reducible refine' ev_nameAny ok.kind ?hx ?_ ?hd); (case hx => exact rfl); (case hd => decide +kernel)
  (with_reducible refine' evS_cons ?_ ?he); (case he => rfl)
  (with_reducible refine' ev_nameAny ok.kind ?hx ?_ ?hd); (case hx => exact rfl); (case hd => decide +kernel)
  refine evS_nil ⟨wh, ns, .inr ⟨turn ms, rfl, hxt, by lia, okt, H.lw, fun i hi => by rw [turn, cnt_rev]; exact H.eq i hi⟩, H.ln, H.le, ?_⟩
  (with_reducible refine' evS_cons (ev_scall ok hag fn27 hsm hh ?hr ?hu ?hx gA ?_ ?hm ?he2 ?hp ?hd) ?he); (case hr => lia); (case hu => lia); (case hx => exact kind_at hn rfl); (case hm => rfl); (case he2 => rfl); (case hp => rfl); (case hd => decide +kernel); (case he => rfl)
  (with_reducible refine' evS_cons ?_ ?he); (case he => rfl)
  (with_reducible refine' ev_nameAny ok.kind ?hx ?_ ?hd); (case hx => exact rfl); (case hd => decide +kernel)
  refine evS_nil ⟨ns, ns, .inl ⟨rfl, rfl⟩, H.ln, H.le, ?_⟩
  refine evS_nil ⟨Nat.le_of_ble_eq_true rfl, ?_⟩
  rw [eAP]
  refine ex_freeze (x := "answers") rfl ?_
  -- same
  refine ex_cons ?_
  (with_reducible refine' x1_asgB ok.kind ?hx ?_ ?hs); (case hx => exact stored_at hn rfl); (case hs => rfl)
  (with_reducible refine evB_eqD hu64 (ev_disp ?_) ?hm); (case hm => with_unfolding_all rfl)
  (with_reducible refine' evS_cons ?_ ?he); (case he => rfl)
  (with_reducible refine' ev_nameAny ok.kind ?hx ?_ ?hd); (case hx => exact rfl); (case hd => decide +kernel)
  (with_reducible refine' evS_cons ?_ ?he); (case he => rfl)
  (with_reducible refine' ev_nameAny ok.kind ?hx ?_ ?hd); (case hx => exact rfl); (case hd => decide +kernel)
  (with_reducible refine' evS_cons ?_ ?he); (case he => rfl)
  (with_reducible refine' ev_nameAny ok.kind ?hx ?_ ?hd); (case hx => exact rfl); (case hd => decide +kernel)
  (with_reducible refine' evS_cons ?_ ?he); (case he => rfl)
  (with_reducible refine' ev_nameAny ok.kind ?hx ?_ ?hd); (case hx => exact rfl); (case hd => decide +kernel)
  refine evS_nil ⟨Nat.le_of_ble_eq_true rfl, ?_⟩
  (with_reducible refine' ev_nameAny ok.kind ?hx ?_ ?hd); (case hx => exact rfl); (case hd => decide +kernel)
  refine ⟨⟨kept_shaped wh ns ms (turn ms), kept_shaped wh ns ms (turn ms)⟩, ?_⟩
  have ek := kept_eqv wh ns ms (turn ms)
  generalize hbb : PyData.eqv _ _ = bb
  have hbt : bb = true := hbb.symm.trans ek
  subst hbt
  clear hbb
  -- the answer
  refine ex_cons (x1_ret (ev_bool (evB_and ?_)))
  (with_reducible refine' evB_name ok.kind ?hx ?_ ?hd); (case hx => exact rfl); (case hd => decide +kernel)
  refine it_t rfl (evB_and1 ?_)
  (with_reducible refine evB_eq ?_ ?hm); (case hm => with_unfolding_all rfl)
  (with_reducible refine' evI_len ok ?hx ?hB ?_ ?he ?hd); (case hx => exact kind_at hn rfl); (case hB => exact G.bi (by k_is) (by kernel_rfl) (by decide +kernel)); (case he => rfl); (case hd => decide +kernel)
  (with_reducible refine' ev_new (evN_comp [(Str.ofString "won", env.locals + 1)] [(Str.ofString "won", .val (.bool (PSb ns)))] hh ?K ?hc ?_ ?hs))
  case hs => intro _; rfl
  case K =>
    refine ⟨by decide, rfl, rfl, by decide, closureFor_closes ?_, ?_, ?_⟩
    · simp only [closes, hcl]; rfl
    · intro q hq; rw [hce]; exact hq
    · exact List.pairwise_singleton _ _
  case hc => exact caught_cons ok.kind rfl (kind_at hn rfl) rfl rfl hcl caught_nil
  refine it_list ?_
  (with_reducible refine' ev_name ok.kind ?hx ?_ ?hd); (case hx => exact rfl); (case hd => decide +kernel)
  refine ⟨_, rfl, Nat.le_of_ble_eq_true rfl, fun C => compw_env ok rfl fun e' ok' _ => ?_⟩
  have hbool : ∀ d ∈ [PyData.bool (PSb ns), PyData.bool (PSb ns), PyData.bool (PSb ns)], d = .bool (PSb ns) := fun d hd => by
    simp only [List.mem_cons, List.not_mem_nil, or_false, or_self] at hd; exact hd
  refine compw_filter (fun d => true) (fun d => d) _ _ (fun d hd => ?_) (fun d hd _ => ?_) ?_
  · have := hbool d hd
    subst this
    (with_reducible refine tst_isB ?_ ?hm); (case hm => with_unfolding_all rfl)
    (with_reducible refine' evB_name ok'.kind ?hx ?_ ?hd); (case hx => exact rfl); (case hd => decide +kernel)
    (with_reducible refine' evB_name ok'.kind ?hx ?_ ?hd); (case hx => exact rfl); (case hd => decide +kernel)
    exact beq_self_eq_true _
  · have := hbool d hd
    subst this
    refine ev_bool ?_
    (with_reducible refine' evB_name ok'.kind ?hx ?_ ?hd); (case hx => exact rfl); (case hd => decide +kernel)
    rfl
  refine ⟨_, rfl, show ((3 : Nat) : Int) < 2 ^ 63 by decide, ?_⟩
  walk_at "mI"
  exact hk

theorem getD_out {ns : List Int} (hl : ns.length = 34) {i : Nat} (h : ¬ i < 34) : ns.getD i 0 = 0 := by
  simp [List.getD, List.getElem?_eq_none (show ns.length ≤ i by lia)]
structure Mid (o p : Nat) (wh ns : List Int) (ms : List (List Int)) : Prop where
  lw : wh.length = 34
  ln : ns.length = 34
  pos : ∀ i, 0 ≤ ns.getD i 0
  four : ∀ i, wh.getD i 0 ≤ 4
  ok : MeldsOk ms
  eq : ∀ i, i < 34 → wh.getD i 0 = ns.getD i 0 + cnt ms i
  wsum : wh.sum ≤ 4 * (p : Int)
  nsum : ns.sum = 3 * ((p - min p o : Nat) : Int)
  mlen : ms.length = min p o
theorem Mid.wpos {o p : Nat} {wh ns : List Int} {ms : List (List Int)} (M : Mid o p wh ns ms) (i : Nat) : 0 ≤ wh.getD i 0 ∧ wh.getD i 0 ≤ 4 := by
  refine ⟨?_, M.four i⟩
  by_cases h : i < 34
  · have := M.eq i h; have := M.pos i; have := cnt_nonneg ms i; lia
  · rw [getD_out M.lw h]; lia
theorem Hand.wpos {wh ns : List Int} {ms : List (List Int)} (M : Hand wh ns ms) (i : Nat) : 0 ≤ wh.getD i 0 := by
  by_cases h : i < 34
  · have := M.eq i h; have := M.pos i; have := cnt_nonneg ms i; lia
  · rw [getD_out M.lw h]; lia
theorem mid_zero (o : Nat) : Mid o 0 (List.replicate 34 0) (List.replicate 34 0) [] := by
  have g : ∀ i, (List.replicate 34 (0 : Int)).getD i 0 = 0 := fun i => by
    rw [List.getD_eq_getElem?_getD, List.getElem?_replicate]; split <;> simp
  refine ⟨by simp, by simp, fun i => by rw [g]; lia, fun i => by rw [g]; lia, (fun _ h => nomatch h), (fun i _ => by rw [g, cnt_nil]; rfl), ?_, ?_, by simp⟩
  · have : (List.replicate 34 (0 : Int)).sum = 0 := by decide
    rw [this]; lia
  · have : (List.replicate 34 (0 : Int)).sum = 0 := by decide
    rw [this]; simp
theorem cnt_snoc (ms : List (List Int)) (m : List Int) (i : Nat) : cnt (ms ++ [m]) i = cnt ms i + (m.count (i : Int) : Int) := by
  rw [cnt_append, cnt_cons, cnt_nil]; lia
theorem mid_four {o p : Nat} {wh ns : List Int} {ms : List (List Int)} (M : Mid o p wh ns ms) {most : Int} {m : List Int} (hm : MeldOk wh most m) : ∀ i, (m.foldl add1 wh).getD i 0 ≤ 4 := fun i => by
  obtain ⟨h1, h2⟩ := adds_get m wh M.lw hm.2.1
  by_cases h : i < 34
  · rw [h2]; exact hm.2.2 i h
  · rw [getD_out h1 h]; lia
theorem mid_open {o p : Nat} {wh ns : List Int} {ms : List (List Int)} (M : Mid o p wh ns ms) (hp : p < o) {m : List Int} (hm : MeldOk wh 4 m) : Mid o (p + 1) (m.foldl add1 wh) ns (ms ++ [m]) := by
  obtain ⟨h1, h2⟩ := adds_get m wh M.lw hm.2.1
  have hw := M.wsum; have hn := M.nsum; have hl := M.mlen
  have hlen : m.length = 3 ∨ m.length = 4 := hm.1.imp id And.left
  refine ⟨h1, M.ln, M.pos, mid_four M hm, fun q hq => ?_, fun i hi => ?_, ?_, ?_, ?_⟩
  · rcases List.mem_append.mp hq with hq | hq
    · exact M.ok q hq
    · rcases List.mem_singleton.mp hq with rfl
      exact ⟨hlen, hm.2.1⟩
  · rw [h2, M.eq i hi, cnt_snoc]; lia
  · rw [adds_sum m wh M.lw hm.2.1]; lia
  · rw [hn]; congr 2; lia
  · rw [List.length_append, hl, List.length_singleton]; lia
theorem mid_closed {o p : Nat} {wh ns : List Int} {ms : List (List Int)} (M : Mid o p wh ns ms) (hp : ¬ p < o) {m : List Int} (hm : MeldOk wh 3 m) : Mid o (p + 1) (m.foldl add1 wh) (m.foldl add1 ns) ms := by
  obtain ⟨h1, h2⟩ := adds_get m wh M.lw hm.2.1
  obtain ⟨n1, n2⟩ := adds_get m ns M.ln hm.2.1
  have hw := M.wsum; have hn := M.nsum; have hl := M.mlen
  have hlen : m.length = 3 := hm.1.resolve_right fun q => by have := q.2; lia
  refine ⟨h1, n1, fun i => ?_, mid_four M hm, M.ok, fun i hi => ?_, ?_, ?_, ?_⟩
  · rw [n2]; have := M.pos i; lia
  · rw [h2, n2, M.eq i hi]; lia
  · rw [adds_sum m wh M.lw hm.2.1]; lia
  · rw [adds_sum m ns M.ln hm.2.1]; lia
  · lia
theorem mid_hand {o : Nat} {wh ns : List Int} {ms : List (List Int)} (M : Mid o 4 wh ns ms) (h1 : 1 ≤ o) (h4 : o ≤ 4) : Hand wh ns ms ∧ ns.sum ≤ 9 ∧ 0 ≤ ns.sum ∧ wh.sum ≤ 16 := by
  have hw := M.wsum; have hn := M.nsum; have hl := M.mlen
  refine ⟨⟨M.lw, M.ln, M.pos, M.four, fun e => ?_, by lia, M.ok, M.eq, by lia⟩, by lia, by lia, by lia⟩
  rw [e] at hl
  simp at hl
  lia
theorem hand_put {wh ns : List Int} {ms : List (List Int)} (H : Hand wh ns ms) {c : Nat} (hc : c < 34) (v : Int) (h0 : 0 ≤ ns.getD c 0 + v) (h4 : wh.getD c 0 + v ≤ 4) (hs : ns.sum + v ≤ 11) :
    Hand (wh.set c (wh.getD c 0 + v)) (ns.set c (ns.getD c 0 + v)) ms ∧ (ns.set c (ns.getD c 0 + v)).sum = ns.sum + v ∧ (wh.set c (wh.getD c 0 + v)).sum = wh.sum + v := by
  have hlw := H.lw; have hln := H.ln
  have e1 : (ns.set c (ns.getD c 0 + v)).sum = ns.sum + v := by rw [sum_set _ _ _ (by lia)]; lia
  have e2 : (wh.set c (wh.getD c 0 + v)).sum = wh.sum + v := by rw [sum_set _ _ _ (by lia)]; lia
  refine ⟨⟨by simpa using H.lw, by simpa using H.ln, fun i => ?_, fun i => ?_, H.some, H.few, H.ok, fun i hi => ?_, by lia⟩, e1, e2⟩
  · rw [getD_set]; split
    · exact h0
    · exact H.pos i
  · rw [getD_set]; split
    · exact h4
    · exact H.four i
  · have := H.eq i hi
    rw [getD_set, getD_set]
    by_cases e : i = c
    · subst e
      rw [if_pos ⟨rfl, by lia⟩, if_pos ⟨rfl, by lia⟩]; lia
    · rw [if_neg (fun q => e q.1), if_neg (fun q => e q.1)]; exact this
theorem come_ok {g : Nat} (hg : g < 34) : (26 < g → ∃ c : Nat, c < 34 ∧ 27 + ((g : Int) - 26).fmod 7 = (c : Int)) ∧ (¬ 26 < g → (g : Int).fmod 9 < 6 → ∃ c : Nat, c < 34 ∧ (g : Int) + 3 = (c : Int)) ∧ (¬ 26 < g → ¬ (g : Int).fmod 9 < 6 → ∃ c : Nat, c < 34 ∧ (g : Int) - 3 = (c : Int)) := by
  rw [Int.fmod_eq_emod_of_nonneg _ (by decide), Int.fmod_eq_emod_of_nonneg _ (by decide)]
  refine ⟨fun h => ⟨27 + (g - 26) % 7, by lia, by lia⟩, fun h h6 => ⟨g + 3, by lia, by lia⟩, fun h h6 => ⟨g - 3, by lia, by lia⟩⟩

def Rlaw : Spec := fun ds k => ∃ ns : List Int, ds = [.list (PI ns)] ∧ ns.length ≤ 63 ∧ k (.bool true)
theorem gnd_of {K : Frag} {p : Program} {loose : List Str} {mean : ExcName → Option Value} {mg mb : Str → Option Value} {h : Heap} (X : K.In h) (T : Top p loose mean mg mb h) : Gnd K h :=
  ⟨X, ⟨mg, mb, T.g, T.b, T.builtins⟩, T.nolimit⟩
theorem rd_of_well {P : Params} {h : Heap} {v : Value} {ns : List Int} (W : Well P h v (ofPy (.list (ns.map .int)))) : Rd h v (.list (PI ns)) ([match v with | .ref a => a | _ => 0]) := by
  have gen : ∀ (ns : List Int) (vs : List Value), WellAll P h vs (ofPys (ns.map PyData.int)) → RdAll h vs (PI ns) [] := by
    intro ns
    induction ns with
    | nil => intro vs W; cases W; exact .nil
    | cons n ns ih =>
      intro vs W
      cases W with
      | cons W1 W2 =>
        cases W1
        exact RdAll.cons (as := []) (.int _ _) (ih _ W2)
  cases W with
  | list ho W => exact .list ⟨_, ho⟩ (gen ns _ W)
set_option maxRecDepth 100000 in
set_option maxHeartbeats 8000000 in
theorem join (LM : ∀ {p : Program} {w : World} {h₀ : Heap}, (PySem.Challenge.rw_md0016_02 = PySem.Challenge.rw_md0016_02) → Gnd (topw.heap_39 w.params) h₀ → Meets p w h₀ 101 50 Rlaw) : PySem.Challenge.rw_md0016_02.Holds := topw (by
  k_fill
  intro w s₀ s₁ mg mb G Y fa o pm cd doc dV kV ho hd hcd hD hmg hg args vals as hpre hlay hrd hwl hlo
  have KX := kIn_of Y
  refine Ground.open G ?_
  intro T B D TE TW
  have G1 := gnd_of KX T
  have hfa : fa = 101 := by
    have h1 : mg "law" = some (.ref 101) := mg_of KX T.g (by k_is)
    have h2 := hmg.symm.trans h1
    cases h2; rfl
  subst hfa
  have LM1 := LM (p := PySem.Challenge.rw_md0016_02.row.prog) rfl G1
  clear hmg hd ho hcd hD LM
  wrow_args hpre hlay hrd hwl hlo
  rename_i script _ _ _ _ _ _ _ _ _ _ _ _ W1 _ _ _ hlen _
  refine LM1 callerA s₁ _ _ _ (fun d => d = .bool true) _ _ rfl (by decide) (by decide) (fun _ _ e => e) (.cons (rd_of_well W1) .nil) ⟨script, rfl, by lia, rfl⟩ ?_
  intro v d as s' x r _ hd
  subst hd
  cases r
  refine GoodW.toG ⟨.inl ⟨_, _, _, rfl, ?_, .bool true, ?_, ?_⟩, x.keep, ?_, ?_⟩
  · intro cls; rfl
  · wrow_post
  · exact fun _ => ⟨List.nodup_nil, fun _ h => nomatch h⟩
  · obtain ⟨h, tk, e⟩ := x.same
    rw [e]
  · obtain ⟨h, tk, e⟩ := x.same
    rw [e]; exact hg)

set_option maxRecDepth 100000
set_option maxHeartbeats 4000000

def dflt2 : List Int := [1, 2, 1, 10, 19, 30, 5, 2, 0]
theorem law_meets {p : Program} {w : World} {h₀ : Heap} (hr : PySem.Challenge.rw_md0016_02 = PySem.Challenge.rw_md0016_02) (G : Gnd (topw.heap_39 w.params) h₀) : Meets p w h₀ 101 50 Rlaw := by
  have hml := meld2_meets (p := p) hr G
  have hri := right_meets (p := p) hr G
  revert hr G
  k_fill
  intro hr G
  refine meets_def ["script"] [] [] (G.X _ _ (by k_is)) rfl G.lim (codeRec_of G.X (by k_is)) rfl rfl rfl rfl rfl (fun _ => .nil) ?hb ?hk (by decide) (by decide) ?_ (by decide)
  case hb =>
    intro s vs hg hl
    obtain ⟨v, rfl⟩ := vs1 hl
    exact BindsTo.of_eq rfl
  case hk =>
    intro n x hx
    rcases List.mem_singleton.mp hx with rfl
    exact .inl rfl
  rintro ds k ⟨sc, rfl, hl, hk⟩
  refine ⟨rfl, fun A env eo hh hdp hun => ?_⟩
  have hn : env.scope.names = _ := congrArg Scope.names eo.scope
  have ok : EnvOk env := ⟨by rw [eo.scope], eo.glob, eo.blt⟩
  have hce : env.cells = [(Str.ofString "closed", env.locals + 1)] := eo.cells.trans rfl
  dsimp only at hn
  clear eo
  have hcl : env.cells.lookup (Str.ofString "closed") = some (env.locals + 1) := by rw [hce]; rfl
  have fn72 : FnAt h₀ 72 := ⟨_, _, G.X _ _ (by k_is), rfl⟩
  have fn96 : FnAt h₀ 96 := ⟨_, _, G.X _ _ (by k_is), rfl⟩
  have hu64 : A.units + 64 < cLine := by lia
  show Ex p w h₀ A env [(Str.ofString "script", .val (.list (PI sc)))] _ _ _
  have hnl : (sc ++ dflt2.drop sc.length).length ≤ 72 ∧ 9 ≤ (sc ++ dflt2.drop sc.length).length := by simp [dflt2]; lia
  refine ex_cons ?_
  (with_reducible refine' x1_asgN ok.kind ?hx (evN_add ?_) ?hs); (case hx => exact stored_at hn rfl); (case hs => rfl)
  walk_at "mI"
  refine evP_new (evN_from (evP_new (evN_disp ?_)))
  repeat (first | ((with_reducible refine' evS_cons (ev_int (evI_const ?_)) ?he); (case he => rfl)))
  refine evS_nil ⟨by decide, dflt2, rfl, ?_⟩
  (with_reducible refine' evI_len ok ?hx ?hB ?_ ?he ?hd); (case hx => exact kind_at hn rfl); (case hB => exact G.bi (by k_is) (by kernel_rfl) (by decide +kernel)); (case he => rfl); (case hd => decide +kernel)
  (with_reducible refine' ev_nameAny ok.kind ?hx ?_ ?hd); (case hx => exact rfl); (case hd => decide +kernel)
  have hpl : (PI sc).length = sc.length := by simp [PI]
  refine ⟨_, rfl, by rw [hpl]; lia, ?_⟩
  rw [hpl]
  refine ⟨⟨by lia, by decide⟩, _, rfl, ?_⟩
  rw [Int.toNat_natCast]
  rw [List.length_append] at hnl
  refine ⟨Nat.le_trans hnl.1 (by decide), ?_⟩
  rw [← List.length_append] at hnl
  generalize sc ++ dflt2.drop sc.length = nums at hnl
  have hi63 : (nums.length : Int) < 2 ^ 63 := by lia
  have hiC : ∀ n, n < 9 → n < nums.length ∧ (nums.length : Int) < 2 ^ 63 := fun n h => ⟨by lia, hi63⟩
  have t34 : ∀ {ts : List Int}, ts.length = 34 → (ts.length : Int) < 2 ^ 63 := fun h => by rw [h]; decide
  -- whole
  refine ex_cons ?_
  (with_reducible refine' x1_asgN ok.kind ?hx (evN_mul ?_) ?hs); (case hx => exact stored_at hn rfl); (case hs => rfl)
  refine evP_new (evN_disp ?_)
  (with_reducible refine' evS_cons (ev_int (evI_const ?_)) ?he); (case he => rfl)
  refine evS_nil ⟨by decide, [0], rfl, ?_⟩
  walk_at "mI"
  refine ⟨⟨by decide, by decide, by decide, by decide⟩, ?_⟩
  rw [show (List.replicate (34 : Int).toNat [(0 : Int)]).flatten = List.replicate 34 0 from rfl]
  -- closed
  refine ex_cons ?_
  (with_reducible refine' x1_asgN ok.kind ?hx (evN_mul ?_) ?hs); (case hx => exact stored_cell hn rfl hcl); (case hs => rfl)
  refine evP_new (evN_disp ?_)
  (with_reducible refine' evS_cons (ev_int (evI_const ?_)) ?he); (case he => rfl)
  refine evS_nil ⟨by decide, [0], rfl, ?_⟩
  walk_at "mI"
  refine ⟨⟨by decide, by decide, by decide, by decide⟩, ?_⟩
  rw [show (List.replicate (34 : Int).toNat [(0 : Int)]).flatten = List.replicate 34 0 from rfl]
  -- melds
  refine ex_cons ?_
  (with_reducible refine' x1_asgN ok.kind ?hx (evN_disp (evS_nil ⟨by decide, ?_⟩)) ?hs); (case hx => exact stored_at hn rfl); (case hs => rfl)
  obtain ⟨o1, ho1, eo1⟩ := fm_nat (nums.getD 0 0) 4 (by decide)
  simp only [Int.cast_ofNat_Int] at eo1
  refine ex_cons (x1_mono (N' := fun l => ∃ wh ns ms, Mid (o1 + 1) 4 wh ns ms ∧ Has l [("numbers", .own (PI nums)), ("whole", .own (PI wh)), ("closed", .own (PI ns)), ("melds", .own (PL ms))]) ?_ ?_)
  · walk_at "mRange"
    walk_at "mI"
    refine ⟨by decide, ?_⟩
    refine forw_range 4 (fun i l => ∃ wh ns ms, Mid (o1 + 1) i wh ns ms ∧ Has l [("numbers", .own (PI nums)), ("whole", .own (PI wh)), ("closed", .own (PI ns)), ("melds", .own (PL ms))]) (fun l h => h) ?_ _ ⟨_, _, [], mid_zero _, rfl, rfl, rfl, rfl, trivial⟩
    rintro i l hi ⟨wh, ns, ms, M, g1, g2, g3, g4, _⟩
    refine ex_has (m' := [("numbers", .own (PI nums)), ("whole", .own (PI wh)), ("closed", .own (PI ns)), ("melds", .own (PL ms)), ("place", .val (.int i))]) ⟨by rw [gt_st, if_neg (by decide)]; exact g1, by rw [gt_st, if_neg (by decide)]; exact g2, by rw [gt_st, if_neg (by decide)]; exact g3, by rw [gt_st, if_neg (by decide)]; exact g4, by rw [gt_st, if_pos rfl], trivial⟩ ?_
    -- is_open
    refine ex_cons ?_
    (with_reducible refine' x1_asgB ok.kind ?hx ?_ ?hs); (case hx => exact stored_at hn rfl); (case hs => rfl)
    (with_reducible refine evB_le ?_ ?hm); (case hm => with_unfolding_all rfl)
    repeat (first | walk_at "mI" | refine ⟨hiC _ (by decide), ?_⟩ | refine ⟨by decide, ?_⟩)
    rw [eo1]
    have eop : decide ((i : Int) ≤ (o1 : Int)) = decide (i < o1 + 1) := by
      rw [Bool.eq_iff_iff, decide_eq_true_eq, decide_eq_true_eq]; lia
    rw [eop]
    -- meld
    refine ex_cons (x1_mono (N' := fun l => ∃ m, MeldOk wh (if i < o1 + 1 then 4 else 3) m ∧ Has l [("numbers", .own (PI nums)), ("whole", .own (PI wh)), ("closed", .own (PI ns)), ("melds", .own (PL ms)), ("is_open", .val (.bool (decide (i < o1 + 1)))), ("meld", .val (.list (PI m)))]) ?_ ?_)
    · (with_reducible refine' x1_asgV ok.kind ?hx ?_ ?hs); (case hx => exact stored_at hn rfl); (case hs => rfl)
      (with_reducible refine' ev_call ok hml fn72 hh ?hr ?hu ?hx ?hg ?_ ?he ?hp ?hd); (case hr => lia); (case hu => lia); (case hx => exact kind_at hn rfl); (case hg => exact G.gl (by k_is)); (case he => rfl); (case hp => rfl); (case hd => decide +kernel)
      (with_reducible refine' evS_cons ?_ ?he); (case he => rfl)
      (with_reducible refine' ev_nameAny ok.kind ?hx ?_ ?hd); (case hx => exact rfl); (case hd => decide +kernel)
      (with_reducible refine' evS_cons (ev_int ?_) ?he); (case he => rfl)
      repeat walk_at "mI"
      refine ⟨⟨by lia, by lia, hi63⟩, ?_⟩
      (with_reducible refine' evS_cons (ev_int (evI_ite ?_)) ?he); (case he => rfl)
      (with_reducible refine' tst_nameB ok.kind ?hx ?_ ?hd); (case hx => exact rfl); (case hd => decide +kernel)
      have hws := M.wsum
      refine it_cases (fun hq => ?_) (fun hq => ?_)
      · have hq := of_decide_eq_true hq
        walk_at "mI"
        exact evS_nil ⟨wh, _, 4, rfl, M.lw, M.wpos, by lia, .inr rfl, fun m hm => ⟨m, by rw [if_pos hq]; exact hm, rfl, rfl, rfl, rfl, rfl, rfl, trivial⟩⟩
      · have hq := of_decide_eq_false hq
        walk_at "mI"
        exact evS_nil ⟨wh, _, 3, rfl, M.lw, M.wpos, by lia, .inl rfl, fun m hm => ⟨m, by rw [if_neg hq]; exact hm, rfl, rfl, rfl, rfl, rfl, rfl, trivial⟩⟩
    rintro l ⟨m, hm, hlo⟩
    refine ex_has hlo ?_
    have him := hm.2.1
    refine ex_cons (x1_mono (N' := fun l => Has l [("numbers", .own (PI nums)), ("whole", .own (PI (m.foldl add1 wh))), ("closed", .own (PI (if i < o1 + 1 then ns else m.foldl add1 ns))), ("melds", .own (PL ms)), ("is_open", .val (.bool (decide (i < o1 + 1)))), ("meld", .val (.list (PI m)))]) ?_ fun l hlo => ex_has hlo ?_)
    · (with_reducible refine' x1_for hh ok.kind ?hx (it_list ?_) ?hs); (case hx => exact stored_at hn rfl); (case hs => intro _; rfl)
      (with_reducible refine' ev_name ok.kind ?hx ?_ ?hd); (case hx => exact rfl); (case hd => decide +kernel)
      refine ⟨_, rfl, ?_⟩
      refine forw_inv (fun ds l => ∃ m1 m2, m = m1 ++ m2 ∧ ds = PI m2 ∧ Has l [("numbers", .own (PI nums)), ("whole", .own (PI (m1.foldl add1 wh))), ("closed", .own (PI (if i < o1 + 1 then ns else m1.foldl add1 ns))), ("melds", .own (PL ms)), ("is_open", .val (.bool (decide (i < o1 + 1)))), ("meld", .val (.list (PI m)))]) ?_ ?_ _ _ ⟨[], m, rfl, rfl, rfl, rfl, ?_, rfl, rfl, rfl, trivial⟩
      · rintro l ⟨m1, m2, e1, e2, hlo⟩
        cases m2 with
        | cons _ _ => cases e2
        | nil => rw [List.append_nil] at e1; subst e1; exact hlo
      · rintro d ds l ⟨m1, m2, e1, e2, h1, h2, h3, h4, h5, h6, _⟩
        cases m2 with
        | nil => cases e2
        | cons a m2 =>
          obtain ⟨rfl, rfl⟩ := List.cons.inj (show d :: ds = .int a :: PI m2 from e2)
          have ha := him a (by rw [e1]; simp)
          have hm1 : ∀ b ∈ m1, 0 ≤ b ∧ b < 34 := fun b hb => him b (by rw [e1]; exact List.mem_append_left _ hb)
          have lw1 := (adds_get m1 wh M.lw hm1).1
          have ln1 := (adds_get m1 ns M.ln hm1).1
          have lnI : (if i < o1 + 1 then ns else m1.foldl add1 ns).length = 34 := by split; exact M.ln; exact ln1
          have e1' : m = (m1 ++ [a]) ++ m2 := by rw [e1]; simp
          have ef : ∀ c : List Int, (m1 ++ [a]).foldl add1 c = add1 (m1.foldl add1 c) a := fun c => by rw [List.foldl_append]; rfl
          refine ex_has (m' := [("numbers", .own (PI nums)), ("whole", .own (PI (m1.foldl add1 wh))), ("closed", .own (PI (if i < o1 + 1 then ns else m1.foldl add1 ns))), ("melds", .own (PL ms)), ("is_open", .val (.bool (decide (i < o1 + 1)))), ("meld", .val (.list (PI m))), ("kind", .val (.int a))]) ⟨by rw [gt_st, if_neg (by decide)]; exact h1, by rw [gt_st, if_neg (by decide)]; exact h2, by rw [gt_st, if_neg (by decide)]; exact h3, by rw [gt_st, if_neg (by decide)]; exact h4, by rw [gt_st, if_neg (by decide)]; exact h5, by rw [gt_st, if_neg (by decide)]; exact h6, by rw [gt_st, if_pos rfl], trivial⟩ ?_
          refine ex_cons ?_
          (with_reducible refine' x1_item_add ok.kind ?hg ?hf ?_ ?hi ?hd); (case hg => exact rfl); (case hf => exact t34 lw1); (case hi => intros; rfl); (case hd => decide +kernel)
          walk_at "mI"
          refine ⟨by lia, ?_⟩
          walk_at "mI"
          refine ex_cons (x1_if (tst_not ?_))
          (with_reducible refine' tst_nameB ok.kind ?hx ?_ ?hd); (case hx => exact rfl); (case hd => decide +kernel)
          by_cases hop : i < o1 + 1
          · rw [decide_eq_true hop]
            refine it_f rfl (ex_nil (ex_nil ⟨m1 ++ [a], m2, e1', rfl, rfl, ?_, ?_, rfl, rfl, rfl, trivial⟩))
            · rw [ef]; rfl
            · rw [if_pos hop, if_pos hop]; rfl
          · rw [decide_eq_false hop]
            refine it_t rfl (ex_cons ?_)
            (with_reducible refine' x1_item_add ok.kind ?hg ?hf ?_ ?hi ?hd); (case hg => exact rfl); (case hf => exact t34 lnI); (case hi => intros; rfl); (case hd => decide +kernel)
            walk_at "mI"
            refine ⟨by lia, ?_⟩
            walk_at "mI"
            refine ex_nil (ex_nil ⟨m1 ++ [a], m2, e1', rfl, rfl, ?_, ?_, rfl, rfl, rfl, trivial⟩)
            · rw [ef]; rfl
            · rw [if_neg hop, if_neg hop, ef]; rfl
      · split <;> rfl
    refine ex_cons (x1_if ?_)
    (with_reducible refine' tst_nameB ok.kind ?hx ?_ ?hd); (case hx => exact rfl); (case hd => decide +kernel)
    refine it_cases (fun hq => ?_) (fun hq => ?_)
    · have hq := of_decide_eq_true hq
      rw [if_pos hq] at hm
      refine ex_cons ?_
      have hfw : ms.length ≤ 4 := by have := M.mlen; lia
      (with_reducible refine' x1_append ok ?hg ?hz ?_ ?hm ?he ?hd ?hs); (case hg => exact rfl); (case hz => exact Nat.le_trans (by simpa [PL] using hfw) (show 4 ≤ sizeLine by decide)); (case hm => rfl); (case he => rfl); (case hd => decide +kernel); (case hs => rfl)
      (with_reducible refine' ev_name ok.kind ?hx ?_ ?hd); (case hx => exact rfl); (case hd => decide +kernel)
      refine ex_nil (ex_nil ⟨_, _, ms ++ [m], mid_open M hq hm, rfl, rfl, ?_, ?_, trivial⟩)
      · rw [if_pos hq]; rfl
      · show some (Loc.own (PL ms ++ [PyData.list (PI m)])) = _
        simp [PL]
    · have hq := of_decide_eq_false hq
      rw [if_neg hq] at hm
      refine ex_nil (ex_nil ⟨_, _, ms, mid_closed M hq hm, rfl, rfl, ?_, rfl, trivial⟩)
      rw [if_neg hq]; rfl
  rintro l ⟨wh, ns, ms, M, hlo⟩
  obtain ⟨H, hs9, hs0, hw16⟩ := mid_hand M (by lia) (by lia)
  clear M
  refine ex_has hlo ?_
  have LOCS : True := trivial
  refine ex_cons ?_
  walk_at "mAsgI"
  repeat (first | walk_at "mI" | refine ⟨hiC _ (by decide), ?_⟩ | refine ⟨by decide, ?_⟩)
  obtain ⟨q, hq, eq⟩ := fm_nat (nums.getD 5 0) 34 (by decide)
  simp only [Int.cast_ofNat_Int] at eq
  rw [eq]
  refine ex_cons (x1_mono (N' := fun l => ∃ q, q < 34 ∧ wh.getD q 0 ≤ 2 ∧ Has l [("numbers", .own (PI nums)), ("whole", .own (PI wh)), ("closed", .own (PI ns)), ("melds", .own (PL ms)), ("kind", .val (.int (q : Nat)))]) (x1_while 35 ?_) ?_)
  · refine whw_inv (fun n l => ∃ q, q < 34 ∧ (∃ d, d < n ∧ wh.getD ((q + d) % 34) 0 ≤ 2) ∧ Has l [("numbers", .own (PI nums)), ("whole", .own (PI wh)), ("closed", .own (PI ns)), ("melds", .own (PL ms)), ("kind", .val (.int (q : Nat)))]) ?_ ?_ 35 _ ⟨q, hq, ?_, rfl, rfl, rfl, rfl, rfl, trivial⟩
    rotate_left
    rotate_left
    · obtain ⟨z, hz1, hz2⟩ := some_low H.lw H.wpos (c := 3) (by decide) (by lia)
      obtain ⟨d, hd, hp⟩ := cyc (P := fun z => wh.getD z 0 ≤ 2) ⟨z, hz1, by lia⟩ hq
      exact ⟨d, by lia, hp⟩
    · rintro l ⟨_, _, ⟨d, hd, _⟩, _⟩; lia
    rintro n l ⟨q, hq, hfr, hlo⟩
    refine tst_has hlo ?_
    have hlw := H.lw
    repeat (first | walk_at "mI" | refine ⟨⟨by lia, by lia, t34 H.lw⟩, ?_⟩)
    rw [Int.toNat_natCast]
    refine it_cases (fun hq2 => ?_) (fun hq2 => ?_)
    · simp only [decide_eq_true_eq, gt_iff_lt] at hq2
      refine ex_has hlo (ex_cons ?_)
      walk_at "mAsgI"
      repeat (first | walk_at "mI" | refine ⟨by decide, ?_⟩)
      have ef := fm_succ q 34
      simp only [Int.cast_ofNat_Int] at ef
      rw [ef]
      exact ex_nil ⟨(q + 1) % 34, Nat.mod_lt _ (by decide), cyc_step (P := fun z => wh.getD z 0 ≤ 2) hq (by lia) hfr, rfl, rfl, rfl, rfl, rfl, trivial⟩
    · simp only [decide_eq_false_iff_not, gt_iff_lt, Int.not_lt] at hq2
      exact ⟨q, hq, hq2, hlo⟩
  clear hq eq q
  rintro l ⟨q, hq, hle, hlo⟩
  refine ex_has hlo ?_
  have hlw := H.lw
  have hln := H.ln
  refine ex_cons ?_
  (with_reducible refine' x1_item_add ok.kind ?hg ?hf ?_ ?hi ?hd); (case hg => exact rfl); (case hf => exact t34 H.lw); (case hi => intros; rfl); (case hd => decide +kernel)
  walk_at "mI"
  refine ⟨by lia, ?_⟩
  walk_at "mI"
  rw [Int.toNat_natCast]
  refine ex_cons ?_
  (with_reducible refine' x1_item_add ok.kind ?hg ?hf ?_ ?hi ?hd); (case hg => exact rfl); (case hf => exact t34 H.ln); (case hi => intros; rfl); (case hd => decide +kernel)
  walk_at "mI"
  refine ⟨by lia, ?_⟩
  walk_at "mI"
  rw [Int.toNat_natCast]
  obtain ⟨H2, hs2, hw2⟩ := hand_put H hq 2 (by have := H.pos q; lia) (by lia) (by lia)
  generalize wh.set q (wh.getD q 0 + 2) = wh2 at H2 hw2
  generalize ns.set q (ns.getD q 0 + 2) = ns2 at H2 hs2
  have hA : 1 ≤ ns2.sum ∧ ns2.sum ≤ 11 ∧ wh2.sum ≤ 18 := by lia
  clear hs2 hw2 hle hlw hln H hs9 hs0 hw16
  refine ex_cons ?_
  (with_reducible refine' x1_asgN ok.kind ?hx (evN_disp ?_) ?hs); (case hx => exact stored_at hn rfl); (case hs => rfl)
  (with_reducible refine' evS_cons ?_ ?he); (case he => rfl)
  (with_reducible refine' ev_call ok hri fn96 hh ?hr ?hu ?hx ?hg ?_ ?he ?hp ?hd); (case hr => lia); (case hu => lia); (case hx => exact kind_at hn rfl); (case hg => exact G.gl (by k_is)); (case he => rfl); (case hp => rfl); (case hd => decide +kernel)
  (with_reducible refine' evS_cons ?_ ?he); (case he => rfl)
  (with_reducible refine' ev_nameAny ok.kind ?hx ?_ ?hd); (case hx => exact rfl); (case hd => decide +kernel)
  (with_reducible refine' evS_cons ?_ ?he); (case he => rfl)
  (with_reducible refine' ev_nameAny ok.kind ?hx ?_ ?hd); (case hx => exact rfl); (case hd => decide +kernel)
  (with_reducible refine' evS_cons ?_ ?he); (case he => rfl)
  (with_reducible refine' ev_nameAny ok.kind ?hx ?_ ?hd); (case hx => exact rfl); (case hd => decide +kernel)
  refine evS_nil ⟨wh2, ns2, ms, rfl, H2, ?_⟩
  refine evS_nil ⟨Nat.le_of_ble_eq_true rfl, ?_⟩
  refine ex_cons (x1_mono (N' := fun l => Has l [("right", .own (List.replicate 4 (.bool true)))]) ?_ fun l hlo => ex_has hlo ?_)
  rotate_left
  · refine ex_cons (x1_ret (ev_bool ?_))
    (with_reducible refine evB_eqD hu64 ?_ ?hm); (case hm => with_unfolding_all rfl)
    (with_reducible refine' ev_nameAny ok.kind ?hx ?_ ?hd); (case hx => exact rfl); (case hd => decide +kernel)
    refine ev_disp ?_
    repeat (first | ((with_reducible refine' evS_cons (ev_bool (evB_const ?_)) ?he); (case he => rfl)))
    refine evS_nil ⟨Nat.le_of_ble_eq_true rfl, ⟨by decide, by decide⟩, hk⟩
  (with_reducible refine' x1_for hh ok.kind ?hx (it_new (evN_run ?_)) ?hs); (case hx => exact stored_at hn rfl); (case hs => intro _; rfl)
  repeat walk_at "mI"
  refine ⟨⟨by decide, by decide, Nat.le_trans hnl.1 (by decide)⟩, ?_⟩
  have h3 : ((nums.drop (6 : Int).toNat).take ((9 : Int).toNat - (6 : Int).toNat)).length = 3 := by
    rw [List.length_take, List.length_drop]; lia
  generalize (nums.drop (6 : Int).toNat).take ((9 : Int).toNat - (6 : Int).toNat) = three at h3
  refine forw_inv (fun ds l => ∃ (th : List Int) (wh ns : List Int), ds = PI th ∧ th.length ≤ 3 ∧ Hand wh ns ms ∧ (1 ≤ ns.sum ∧ ns.sum ≤ 11 ∧ wh.sum ≤ 18) ∧ Has l [("whole", .own (PI wh)), ("closed", .own (PI ns)), ("melds", .own (PL ms)), ("right", .own (List.replicate (4 - th.length) (.bool true)))]) ?_ ?_ _ _ ⟨three, wh2, ns2, rfl, by lia, H2, hA, rfl, rfl, rfl, by rw [h3]; rfl, trivial⟩
  · rintro l ⟨th, wh, ns, e, _, _, _, _, _, _, g, _⟩
    cases th with
    | cons _ _ => cases e
    | nil => exact ⟨g, trivial⟩
  clear h3 H2 hA three
  rintro d ds l ⟨th, wh, ns, e, hth, H, hA, g1, g2, g3, g4, _⟩
  cases th with
  | nil => cases e
  | cons num th =>
  obtain ⟨rfl, rfl⟩ := List.cons.inj (show d :: ds = .int num :: PI th from e)
  simp only [List.length_cons] at hth
  refine ex_has (m' := [("whole", .own (PI wh)), ("closed", .own (PI ns)), ("melds", .own (PL ms)), ("right", .own (List.replicate (4 - (th.length + 1)) (.bool true))), ("number", .val (.int num))]) ⟨by rw [gt_st, if_neg (by decide)]; exact g1, by rw [gt_st, if_neg (by decide)]; exact g2, by rw [gt_st, if_neg (by decide)]; exact g3, by rw [gt_st, if_neg (by decide)]; exact g4, by rw [gt_st, if_pos rfl], trivial⟩ ?_
  have hlw := H.lw
  have hln := H.ln
  have hlen := expand_length H.pos
  -- tiles
  refine ex_cons (x1_mono (N' := fun l => Has l [("whole", .own (PI wh)), ("closed", .own (PI ns)), ("melds", .own (PL ms)), ("right", .own (List.replicate (4 - (th.length + 1)) (.bool true))), ("number", .val (.int num)), ("tiles", .own (PI (expand ns)))]) ?_ fun l hlo => ex_has hlo ?_)
  · (with_reducible refine' x1_asgComp2 [(Str.ofString "closed", env.locals + 1)] [(Str.ofString "closed", .own (PI ns))] (Str.ofString ".acc") ok hh ?K ?hyl ?hc ?hxm ?hym ?hzm ?hyx ?hzx ?hzy ?hv ?hsw ?_ ?hs2 ?hs)
    case K =>
      refine ⟨by decide, rfl, rfl, by decide, closureFor_closes ?_, ?_, ?_⟩
      · simp only [closes, hcl]; rfl
      · intro q hq; rw [hce]; exact hq
      · exact List.pairwise_singleton _ _
    case hyl => rfl
    case hc => exact caught_cons ok.kind rfl (kind_at hn rfl) rfl rfl hcl caught_nil
    case hxm => rfl
    case hym => rfl
    case hzm => rfl
    case hyx => decide
    case hzx => decide
    case hzy => decide
    case hv => exact kind_at hn rfl
    case hsw => exact swaps_t ok (kind_at hn rfl) rfl (by decide +kernel)
    case hs2 => intro _ _; rfl
    case hs => intro _; rfl
    (with_reducible refine' it_range ok ?hg ?hb ?_ ?he ?hd); (case hg => exact kind_at (by assumption) rfl); (case hb => exact Gnd.bi (by assumption) (by k_is) (by kernel_rfl) (by decide +kernel)); (case he => rfl); (case hd => decide +kernel)
    repeat walk_at "mI"
    refine ⟨by decide, fun C => compw2_env ok rfl fun e' ok' hke => ?_⟩
    refine compW2_expand H.ln H.pos (by lia) (fun i hi => ?_) (fun i e => ?_) ⟨rfl, rfl, rfl, rfl, rfl, rfl, trivial⟩
    · (with_reducible refine' it_range ok' ?hg ?hb ?_ ?he ?hd); (case hg => exact hke _ _ (by decide) rfl); (case hb => exact Gnd.bi (by assumption) (by k_is) (by kernel_rfl) (by decide +kernel)); (case he => rfl); (case hd => decide +kernel)
      repeat (first | walk_at "mI" | refine ⟨⟨by lia, by lia, t34 H.ln⟩, ?_⟩)
      rw [Int.toNat_natCast]
      have := H.le i
      exact ⟨by lia, rfl⟩
    · repeat walk_at "mI"
      rfl
  -- gone
  refine ex_cons ?_
  walk_at "mAsgI"
  repeat (first | walk_at "mI" | refine ⟨⟨by decide, by decide⟩, ?_⟩)
  (with_reducible refine' evI_len ok ?hx ?hB ?_ ?he ?hd); (case hx => exact kind_at hn rfl); (case hB => exact G.bi (by k_is) (by kernel_rfl) (by decide +kernel)); (case he => rfl); (case hd => decide +kernel)
  (with_reducible refine' ev_nameAny ok.kind ?hx ?_ ?hd); (case hx => exact rfl); (case hd => decide +kernel)
  have hplE : (PI (expand ns)).length = (expand ns).length := by simp [PI]
  refine ⟨_, rfl, by rw [hplE]; lia, ?_⟩
  rw [hplE]
  refine ⟨by lia, ?_⟩
  have b0 := Int.fmod_nonneg_of_pos (num.fdiv 2) (b := ((expand ns).length : Int)) (by lia)
  have b1 := Int.fmod_lt_of_pos (num.fdiv 2) (b := ((expand ns).length : Int)) (by lia)
  generalize (num.fdiv 2).fmod ((expand ns).length : Int) = idx at b0 b1
  refine ⟨⟨b0, b1, by lia⟩, ?_⟩
  have hmem : (expand ns).getD idx.toNat 0 ∈ expand ns := by
    have : idx.toNat < (expand ns).length := by lia
    simp [List.getD, this]
  obtain ⟨g, eg, hg34, hg1⟩ := expand_mem.mp hmem
  rw [eg]
  have hg : g < 34 := by lia
  obtain ⟨c1, c2, c3⟩ := come_ok hg
  -- come
  refine ex_cons (x1_mono (N' := fun l => ∃ c, c < 34 ∧ Has l [("whole", .own (PI wh)), ("closed", .own (PI ns)), ("melds", .own (PL ms)), ("right", .own (List.replicate (4 - (th.length + 1)) (.bool true))), ("gone", .val (.int (g : Nat))), ("come", .val (.int (c : Nat)))]) (x1_if ?_) ?_)
  · repeat (first | walk_at "mI" | refine ⟨by decide, ?_⟩)
    refine it_cases (fun hq => ?_) (fun hq => ?_)
    · refine ex_cons ?_
      walk_at "mAsgI"
      repeat (first | walk_at "mI" | refine ⟨IntMulOk.of_right (by decide), ?_⟩ | refine ⟨by decide, ?_⟩)
      obtain ⟨c, hc, ec⟩ := fm_nat (num * 7) 34 (by decide)
      simp only [Int.cast_ofNat_Int] at ec
      rw [ec]
      exact ex_nil ⟨c, hc, rfl, rfl, rfl, rfl, rfl, rfl, trivial⟩
    refine ex_cons (x1_if ?_)
    repeat walk_at "mI"
    refine it_cases (fun hq2 => ?_) (fun hq2 => ?_)
    · simp only [decide_eq_true_eq, gt_iff_lt] at hq2
      refine ex_cons ?_
      walk_at "mAsgI"
      repeat (first | walk_at "mI" | refine ⟨by decide, ?_⟩)
      obtain ⟨c, hc, ec⟩ := c1 (by lia)
      rw [ec]
      exact ex_nil (ex_nil ⟨c, hc, rfl, rfl, rfl, rfl, rfl, rfl, trivial⟩)
    simp only [decide_eq_false_iff_not, gt_iff_lt] at hq2
    refine ex_cons (x1_if ?_)
    repeat (first | walk_at "mI" | refine ⟨by decide, ?_⟩)
    refine it_cases (fun hq3 => ?_) (fun hq3 => ?_)
    · simp only [decide_eq_true_eq] at hq3
      refine ex_cons ?_
      walk_at "mAsgI"
      repeat walk_at "mI"
      obtain ⟨c, hc, ec⟩ := c2 (by lia) hq3
      rw [ec]
      exact ex_nil (ex_nil (ex_nil ⟨c, hc, rfl, rfl, rfl, rfl, rfl, rfl, trivial⟩))
    · simp only [decide_eq_false_iff_not] at hq3
      refine ex_cons ?_
      walk_at "mAsgI"
      repeat walk_at "mI"
      obtain ⟨c, hc, ec⟩ := c3 (by lia) hq3
      rw [ec]
      exact ex_nil (ex_nil (ex_nil ⟨c, hc, rfl, rfl, rfl, rfl, rfl, rfl, trivial⟩))
  rintro l ⟨c, hc, hlo⟩
  refine ex_has hlo ?_
  clear c1 c2 c3
  -- the tile goes
  refine ex_cons ?_
  (with_reducible refine' x1_item_sub ok.kind ?hg ?hf ?_ ?hi ?hd); (case hg => exact rfl); (case hf => exact t34 H.lw); (case hi => intros; rfl); (case hd => decide +kernel)
  walk_at "mI"
  refine ⟨by lia, ?_⟩
  walk_at "mI"
  rw [Int.toNat_natCast]
  refine ex_cons ?_
  (with_reducible refine' x1_item_sub ok.kind ?hg ?hf ?_ ?hi ?hd); (case hg => exact rfl); (case hf => exact t34 H.ln); (case hi => intros; rfl); (case hd => decide +kernel)
  walk_at "mI"
  refine ⟨by lia, ?_⟩
  walk_at "mI"
  rw [Int.toNat_natCast]
  obtain ⟨H2, hs2, hw2⟩ := hand_put H hg (-1) (by lia) (by have := H.four g; lia) (by lia)
  rw [← Int.sub_eq_add_neg] at H2 hs2 hw2
  rw [← Int.sub_eq_add_neg] at H2 hs2
  generalize wh.set g (wh.getD g 0 - 1) = wh2 at H2 hw2
  generalize ns.set g (ns.getD g 0 - 1) = ns2 at H2 hs2
  -- another comes
  refine ex_cons (x1_mono (N' := fun l => ∃ c, c < 34 ∧ wh2.getD c 0 ≤ 3 ∧ Has l [("whole", .own (PI wh2)), ("closed", .own (PI ns2)), ("melds", .own (PL ms)), ("right", .own (List.replicate (4 - (th.length + 1)) (.bool true))), ("come", .val (.int (c : Nat)))]) (x1_while 35 ?_) ?_)
  · refine whw_inv (fun n l => ∃ c, c < 34 ∧ (∃ d, d < n ∧ wh2.getD ((c + d) % 34) 0 ≤ 3) ∧ Has l [("whole", .own (PI wh2)), ("closed", .own (PI ns2)), ("melds", .own (PL ms)), ("right", .own (List.replicate (4 - (th.length + 1)) (.bool true))), ("come", .val (.int (c : Nat)))]) ?_ ?_ 35 _ ⟨c, hc, ?_, rfl, rfl, rfl, rfl, rfl, trivial⟩
    rotate_left
    rotate_left
    · obtain ⟨z, hz1, hz2⟩ := some_low H2.lw H2.wpos (c := 4) (by decide) (by lia)
      obtain ⟨d, hd, hp⟩ := cyc (P := fun z => wh2.getD z 0 ≤ 3) ⟨z, hz1, by lia⟩ hc
      exact ⟨d, by lia, hp⟩
    · rintro l ⟨_, _, ⟨d, hd, _⟩, _⟩; lia
    rintro n l ⟨q, hq, hfr, hlo⟩
    refine tst_has hlo ?_
    have hlw2 := H2.lw
    repeat (first | walk_at "mI" | refine ⟨⟨by lia, by lia, t34 H2.lw⟩, ?_⟩)
    rw [Int.toNat_natCast]
    refine it_cases (fun hq2 => ?_) (fun hq2 => ?_)
    · simp only [decide_eq_true_eq, gt_iff_lt] at hq2
      refine ex_has hlo (ex_cons ?_)
      walk_at "mAsgI"
      repeat (first | walk_at "mI" | refine ⟨by decide, ?_⟩)
      have ef := fm_succ q 34
      simp only [Int.cast_ofNat_Int] at ef
      rw [ef]
      exact ex_nil ⟨(q + 1) % 34, Nat.mod_lt _ (by decide), cyc_step (P := fun z => wh2.getD z 0 ≤ 3) hq (by lia) hfr, rfl, rfl, rfl, rfl, rfl, trivial⟩
    · simp only [decide_eq_false_iff_not, gt_iff_lt, Int.not_lt] at hq2
      exact ⟨q, hq, hq2, hlo⟩
  clear hlo hc c
  rintro l ⟨c, hc, hle, hlo⟩
  refine ex_has hlo ?_
  have hlw2 := H2.lw
  have hln2 := H2.ln
  refine ex_cons ?_
  (with_reducible refine' x1_item_add ok.kind ?hg ?hf ?_ ?hi ?hd); (case hg => exact rfl); (case hf => exact t34 H2.lw); (case hi => intros; rfl); (case hd => decide +kernel)
  walk_at "mI"
  refine ⟨by lia, ?_⟩
  walk_at "mI"
  rw [Int.toNat_natCast]
  refine ex_cons ?_
  (with_reducible refine' x1_item_add ok.kind ?hg ?hf ?_ ?hi ?hd); (case hg => exact rfl); (case hf => exact t34 H2.ln); (case hi => intros; rfl); (case hd => decide +kernel)
  walk_at "mI"
  refine ⟨by lia, ?_⟩
  walk_at "mI"
  rw [Int.toNat_natCast]
  obtain ⟨H3, hs3, hw3⟩ := hand_put H2 hc 1 (by have := H2.pos c; lia) (by lia) (by lia)
  generalize wh2.set c (wh2.getD c 0 + 1) = wh3 at H3 hw3
  generalize ns2.set c (ns2.getD c 0 + 1) = ns3 at H3 hs3
  refine ex_cons ?_
  (with_reducible refine' x1_append ok ?hg ?hz ?_ ?hm ?he ?hd ?hs); (case hg => exact rfl); (case hz => exact Nat.le_trans (by rw [List.length_replicate]; lia) (show 4 ≤ sizeLine by decide)); (case hm => rfl); (case he => rfl); (case hd => decide +kernel); (case hs => rfl)
  (with_reducible refine' ev_call ok hri fn96 hh ?hr ?hu ?hx ?hg ?_ ?he ?hp ?hd); (case hr => lia); (case hu => lia); (case hx => exact kind_at hn rfl); (case hg => exact G.gl (by k_is)); (case he => rfl); (case hp => rfl); (case hd => decide +kernel)
  (with_reducible refine' evS_cons ?_ ?he); (case he => rfl)
  (with_reducible refine' ev_nameAny ok.kind ?hx ?_ ?hd); (case hx => exact rfl); (case hd => decide +kernel)
  (with_reducible refine' evS_cons ?_ ?he); (case he => rfl)
  (with_reducible refine' ev_nameAny ok.kind ?hx ?_ ?hd); (case hx => exact rfl); (case hd => decide +kernel)
  (with_reducible refine' evS_cons ?_ ?he); (case he => rfl)
  (with_reducible refine' ev_nameAny ok.kind ?hx ?_ ?hd); (case hx => exact rfl); (case hd => decide +kernel)
  refine evS_nil ⟨wh3, ns3, ms, rfl, H3, ?_⟩
  refine ex_nil ⟨th, wh3, ns3, rfl, by lia, H3, by lia, rfl, rfl, rfl, ?_, trivial⟩
  have e4 : List.replicate (4 - (th.length + 1)) (PyData.bool true) ++ [.bool true] = List.replicate (4 - th.length) (.bool true) := by
    rw [show 4 - th.length = (4 - (th.length + 1)) + 1 by lia, List.replicate_succ']
  show some (Loc.own (List.replicate (4 - (th.length + 1)) (PyData.bool true) ++ [.bool true])) = _
  rw [e4]

end Mine
set_option maxRecDepth 100000 in
set_option maxHeartbeats 8000000 in
theorem PySem.Challenge.cw_md0016_02_holds : PySem.Challenge.rw_md0016_02.Holds :=
  Mine.join fun hr G => Mine.law_meets hr G
