import PyProof.Rows.All
import Wide.All
import OpenK.AllK
import Wide.FinOn
import Lean
import PySem.Challenge.RW_md0016_01
open PySem PySem.W PyProof.Rows
set_option Elab.async false
set_option linter.all false
set_option linter.unusedVariables false
set_option linter.unusedSimpArgs false
namespace Mine
set_option maxRecDepth 100000 in
set_option maxHeartbeats 8000000 in
open_top topw for PySem.Challenge.rw_md0016_01

inductive Loc where
  | val (d : PyData)
  | own (ds : List PyData)

abbrev Locs := List (Str × Loc)
def gt (m : Locs) (x : Str) : Option Loc := List.lookup x m
def st : Locs → Str → Loc → Locs
  | [], x, l => [(x, l)]
  | (y, k) :: r, x, l => if x == y then (y, l) :: r else (y, k) :: st r x l

theorem gt_st (m : Locs) (x : Str) (l : Loc) (y : Str) : gt (st m x l) y = if y = x then some l else gt m y := by
  induction m with
  | nil =>
    unfold st gt
    by_cases h : y = x
    · subst h; simp
    · rw [if_neg h, List.lookup_cons]
      have : (y == x) = false := by simpa using h
      rw [this]
  | cons p r ih =>
    obtain ⟨z, k⟩ := p
    unfold st
    by_cases hz : x = z
    · subst hz
      simp only [beq_self_eq_true, if_true]
      unfold gt
      rw [List.lookup_cons, List.lookup_cons]
      by_cases h : y = x
      · subst h; simp
      · have : (y == x) = false := by simpa using h
        rw [this, if_neg h]
    · have hb : (x == z) = false := by simpa using hz
      rw [hb]
      simp only [Bool.false_eq_true, if_false]
      unfold gt at ih ⊢
      rw [List.lookup_cons, List.lookup_cons]
      by_cases hy : y = z
      · subst hy
        rw [if_neg (fun e => hz e.symm)]
        simp
      · have : (y == z) = false := by simpa using hy
        rw [this]
        exact ih

mutual
inductive Rd (h : Heap) : Value → PyData → List Addr → Prop
  | none : Rd h .none .none []
  | bool (b) : Rd h (.bool b) (.bool b) []
  | int (i t) : Rd h (.int i t) (.int i) []
  | list {a vs xs as} : h.PlainList a vs → RdAll h vs.toList xs as → Rd h (.ref a) (.list xs) (a :: as)
inductive RdAll (h : Heap) : List Value → List PyData → List Addr → Prop
  | nil : RdAll h [] [] []
  | cons {v vs d ds as bs} : Rd h v d as → RdAll h vs ds bs → RdAll h (v :: vs) (d :: ds) (as ++ bs)
end
mutual
theorem Rd.at {h h' : Heap} : ∀ {v : Value} {d : PyData} {as : List Addr}, Rd h v d as → (∀ a ∈ as, ∀ o, h.get? a = some o → h'.get? a = some o) → Rd h' v d as
  | _, _, _, .none, _ => .none
  | _, _, _, .bool b, _ => .bool b
  | _, _, _, .int i t, _ => .int i t
  | _, _, _, .list (a := a) i q, k => .list (i.at (k a (.head _))) (RdAll.at q fun b hb => k b (.tail _ hb))
theorem RdAll.at {h h' : Heap} : ∀ {vs : List Value} {ds : List PyData} {as : List Addr}, RdAll h vs ds as → (∀ a ∈ as, ∀ o, h.get? a = some o → h'.get? a = some o) → RdAll h' vs ds as
  | _, _, _, .nil, _ => .nil
  | _, _, _, .cons r q, k => .cons (Rd.at r fun b hb => k b (List.mem_append_left _ hb)) (RdAll.at q fun b hb => k b (List.mem_append_right _ hb))
end
mutual
theorem Rd.lists {h : Heap} : ∀ {v : Value} {d : PyData} {as : List Addr}, Rd h v d as → ∀ a ∈ as, ∃ vs, h.PlainList a vs
  | _, _, _, .none, _, hm => nomatch hm
  | _, _, _, .bool b, _, hm => nomatch hm
  | _, _, _, .int i t, _, hm => nomatch hm
  | _, _, _, .list i q, b, hm => by
    rcases List.mem_cons.mp hm with rfl | hm
    · exact ⟨_, i⟩
    · exact RdAll.lists q b hm
theorem RdAll.lists {h : Heap} : ∀ {vs : List Value} {ds : List PyData} {as : List Addr}, RdAll h vs ds as → ∀ a ∈ as, ∃ vs, h.PlainList a vs
  | _, _, _, .nil, _, hm => nomatch hm
  | _, _, _, .cons r q, b, hm => by
    rcases List.mem_append.mp hm with hm | hm
    · exact Rd.lists r b hm
    · exact RdAll.lists q b hm
end
theorem Rd.keeps {h h' : Heap} (k : ∀ b o, h.get? b = some o → h'.get? b = some o) {v : Value} {d : PyData} {as : List Addr} (r : Rd h v d as) : Rd h' v d as := r.at fun a _ o => k a o
theorem RdAll.keeps {h h' : Heap} (k : ∀ b o, h.get? b = some o → h'.get? b = some o) {v : List Value} {d : List PyData} {as : List Addr} (r : RdAll h v d as) : RdAll h' v d as := r.at fun a _ o => k a o
theorem RdAll.length {h : Heap} : ∀ {vs : List Value} {ds : List PyData} {as : List Addr}, RdAll h vs ds as → vs.length = ds.length
  | _, _, _, .nil => rfl
  | _, _, _, .cons r q => congrArg (· + 1) q.length
def PI (ns : List Int) : List PyData := ns.map .int
theorem RdAll.ofPI {h : Heap} : ∀ {ns : List Int} {vs : List Value} {as : List Addr}, RdAll h vs (PI ns) as → as = [] ∧ ∀ i (hi : i < ns.length), ∃ t, vs[i]? = some (.int ns[i] t)
  | [], _, _, .nil => ⟨rfl, fun i hi => absurd hi (Nat.not_lt_zero _)⟩
  | n :: ns, _, _, .cons r q => by
    obtain ⟨e, f⟩ := RdAll.ofPI (ns := ns) q
    subst e
    cases r
    refine ⟨rfl, fun i hi => ?_⟩
    cases i with
    | zero => exact ⟨_, rfl⟩
    | succ i => simpa using f i (Nat.lt_of_succ_lt_succ hi)
theorem rdAll_of_ints {h : Heap} : ∀ (ns : List Int) (vs : List Value), vs.length = ns.length → (∀ i (hi : i < ns.length), ∃ t, vs[i]? = some (.int ns[i] t)) → RdAll h vs (PI ns) []
  | [], [], _, _ => .nil
  | n :: ns, v :: vs, hl, f => by
    obtain ⟨t, e⟩ := f 0 (Nat.succ_pos _)
    cases e
    have := rdAll_of_ints (h := h) ns vs (Nat.succ.inj hl) fun i hi => by simpa using f (i + 1) (Nat.succ_lt_succ hi)
    exact .cons (as := []) (.int n t) this

abbrev Owns := List (Str × Addr)

def Bound (env : Env) (h : Heap) (x : Str) (v : Value) : Prop :=
  (env.kindOf x = some .local ∧ ∃ mr, h.Ns env.locals mr ∧ mr x = some v) ∨
  (env.kindOf x = some .cell ∧ ∃ c, env.cells.lookup x = some c ∧ h.IsCell c (some v))

def LocRel (h : Heap) (O : Owns) (x : Str) (v : Value) : Loc → Prop
  | .val d => ∃ as, Rd h v d as ∧ ∀ a ∈ as, ∀ y, (y, a) ∉ O
  | .own ds => ∃ a vs as, v = .ref a ∧ (x, a) ∈ O ∧ h.PlainList a vs ∧ RdAll h vs.toList ds as ∧ ∀ b ∈ as, ∀ y, (y, b) ∉ O

structure St (h₀ : Heap) (env : Env) (O : Owns) (m : Locs) (h : Heap) : Prop where
  ground : ∀ b o, h₀.get? b = some o → h.get? b = some o
  frame : ∃ mr, h.Ns env.locals mr
  cells : ∀ x c, (x, c) ∈ env.cells → ∃ v, h.IsCell c v
  apart : env.cells.Pairwise fun x y => x.2 ≠ y.2
  newL : h₀.get? env.locals = none
  newC : ∀ x c, (x, c) ∈ env.cells → h₀.get? c = none
  newO : ∀ x a, (x, a) ∈ O → h₀.get? a = none
  lists : ∀ x a, (x, a) ∈ O → ∃ vs, h.PlainList a vs
  uniq : ∀ x y a, (x, a) ∈ O → (y, a) ∈ O → x = y
  vars : ∀ x l, gt m x = some l → ∃ v, Bound env h x v ∧ LocRel h O x v l

structure Ext (s s' : Shared) : Prop where
  keep : ∀ b o, s.heap.get? b = some o → s'.heap.get? b = some o
  same : ∃ h tk, s' = { s with heap := h, toks := tk }

theorem Ext.refl (s : Shared) : Ext s s := ⟨fun _ _ e => e, s.heap, s.toks, rfl⟩
theorem Ext.tok (s : Shared) (t : Nat) : Ext s { s with toks := t } := ⟨fun _ _ e => e, s.heap, t, rfl⟩
theorem Ext.trans {s s' s'' : Shared} (a : Ext s s') (b : Ext s' s'') : Ext s s'' := by
  refine ⟨fun x o e => b.keep x o (a.keep x o e), ?_⟩
  obtain ⟨h, tk, rfl⟩ := a.same
  obtain ⟨h', tk', rfl⟩ := b.same
  exact ⟨h', tk', rfl⟩
theorem Ext.push {s s' : Shared} (a : Ext s s') (o : Obj) (t : Nat) : Ext s { s' with heap := s'.heap.push o, toks := t } := by
  refine ⟨fun x ob e => Heap.get?_push_of_some _ (a.keep x ob e), ?_⟩
  obtain ⟨h, tk, rfl⟩ := a.same
  exact ⟨_, t, rfl⟩
theorem Ext.fresh {s s' : Shared} (a : Ext s s') {b : Addr} (e : s'.heap.get? b = none) : s.heap.get? b = none := by
  cases q : s.heap.get? b with
  | none => rfl
  | some o => rw [a.keep b o q] at e; cases e

theorem Bound.keeps {env : Env} {h h' : Heap} {x : Str} {v : Value} (b : Bound env h x v) (k : ∀ a o, h.get? a = some o → h'.get? a = some o) : Bound env h' x v :=
  b.imp (fun ⟨e, mr, n, v⟩ => ⟨e, mr, n.keeps k, v⟩) fun ⟨e, c, l, i⟩ => ⟨e, c, l, i.keeps k⟩
theorem isList_keeps {h h' : Heap} {a : Addr} {vs : Array Value} (x : h.PlainList a vs) (k : ∀ a o, h.get? a = some o → h'.get? a = some o) : h'.PlainList a vs :=
  x.at fun o => k a o
theorem LocRel.keeps {h h' : Heap} {O : Owns} {x : Str} {v : Value} {l : Loc} (r : LocRel h O x v l) (k : ∀ a o, h.get? a = some o → h'.get? a = some o) : LocRel h' O x v l := by
  cases l with
  | val d => obtain ⟨as, r, n⟩ := r; exact ⟨as, Rd.keeps k r, n⟩
  | own ds => obtain ⟨a, vs, as, e, o, i, r, n⟩ := r; exact ⟨a, vs, as, e, o, isList_keeps i k, RdAll.keeps k r, n⟩
theorem St.keeps {h₀ : Heap} {env : Env} {O : Owns} {m : Locs} {h h' : Heap} (S : St h₀ env O m h) (k : ∀ a o, h.get? a = some o → h'.get? a = some o) : St h₀ env O m h' where
  ground b o e := k b o (S.ground b o e)
  frame := let ⟨mr, n⟩ := S.frame; ⟨mr, n.keeps k⟩
  cells x c hm := let ⟨v, i⟩ := S.cells x c hm; ⟨v, i.keeps k⟩
  apart := S.apart
  newL := S.newL
  newC := S.newC
  newO := S.newO
  lists x a hm := let ⟨vs, i⟩ := S.lists x a hm; ⟨vs, isList_keeps i k⟩
  uniq := S.uniq
  vars x l e := let ⟨v, b, r⟩ := S.vars x l e; ⟨v, b.keeps k, r.keeps k⟩
theorem St.ext {h₀ : Heap} {env : Env} {O : Owns} {m : Locs} {s s' : Shared} (S : St h₀ env O m s.heap) (x : Ext s s') : St h₀ env O m s'.heap := S.keeps x.keep

inductive Cls where
  | any | plain | ret | fresh
def Foot (O : Owns) (s : Shared) : Cls → Addr → Prop
  | .any, _ => True
  | .plain, a => ∀ x, (x, a) ∉ O
  | .ret, a => s.heap.get? a = none ∨ ∃ x, (x, a) ∈ O
  | .fresh, a => s.heap.get? a = none

section
variable (p : Program) (w : World) (h₀ : Heap) (A : Around) (env : Env)

def Ev (c : Cls) (m : Locs) (e : Expr) (k : PyData → Prop) : Prop :=
  ∀ (s : Shared) (O : Owns) (Q : Value → Shared → Prop) (E : Value → Shared → Prop), St h₀ env O m s.heap →
    (∀ v d as s', Ext s s' → Rd s'.heap v d as → (∀ a ∈ as, Foot O s c a) → k d → Q v s') → wpAny (model p w) A (eval e env) Q E s
def EvI (m : Locs) (e : Expr) (k : Int → Prop) : Prop :=
  ∀ (s : Shared) (O : Owns) (Q : Value → Shared → Prop) (E : Value → Shared → Prop), St h₀ env O m s.heap →
    (∀ i t s', Ext s s' → k i → Q (.int i t) s') → wpAny (model p w) A (eval e env) Q E s
def EvB (m : Locs) (e : Expr) (k : Bool → Prop) : Prop :=
  ∀ (s : Shared) (O : Owns) (Q : Value → Shared → Prop) (E : Value → Shared → Prop), St h₀ env O m s.heap →
    (∀ b s', Ext s s' → k b → Q (.bool b) s') → wpAny (model p w) A (eval e env) Q E s
def EvN (m : Locs) (e : Expr) (k : List PyData → Prop) : Prop :=
  ∀ (s : Shared) (O : Owns) (Q : Value → Shared → Prop) (E : Value → Shared → Prop), St h₀ env O m s.heap →
    (∀ a vs as ds s', Ext s s' → s.heap.get? a = none → s'.heap.PlainList a vs → RdAll s'.heap vs.toList ds as → (∀ b ∈ as, s.heap.get? b = none ∧ b ≠ a) → k ds → Q (.ref a) s') →
    wpAny (model p w) A (eval e env) Q E s
def Tst (m : Locs) (e : Expr) (k : Bool → Prop) : Prop :=
  ∀ (s : Shared) (O : Owns) (Q : Bool → Shared → Prop) (E : Value → Shared → Prop), St h₀ env O m s.heap →
    (∀ b s', Ext s s' → k b → Q b s') → wpAny (model p w) A (isTrue e env (eval e env)) Q E s
end

section
variable {p : Program} {w : World} {h₀ : Heap} {A : Around} {env : Env} {m : Locs}

theorem ev_int {c : Cls} {e : Expr} {k : PyData → Prop} (h : EvI p w h₀ A env m e fun i => k (.int i)) : Ev p w h₀ A env c m e k := fun s O Q E S hQ =>
  h s O Q E S fun i t s' x hk => hQ _ _ [] s' x (.int i t) (fun _ h => nomatch h) hk
theorem ev_bool {c : Cls} {e : Expr} {k : PyData → Prop} (h : EvB p w h₀ A env m e fun b => k (.bool b)) : Ev p w h₀ A env c m e k := fun s O Q E S hQ =>
  h s O Q E S fun b s' x hk => hQ _ _ [] s' x (.bool b) (fun _ h => nomatch h) hk

theorem evI_const {i : Int} {j : Nat} {pos : Pos} {k : Int → Prop} (h : k i) : EvI p w h₀ A env m (.Constant (.int i) j pos) k := fun s _ _ _ _ hQ =>
  wpAny_Constant_int (hQ _ _ _ (Ext.tok s _) h)
theorem evB_const {b : Bool} {j : Nat} {pos : Pos} {k : Bool → Prop} (h : k b) : EvB p w h₀ A env m (.Constant (.bool b) j pos) k := fun s _ _ _ _ hQ =>
  Constant_bool (hQ _ _ (Ext.refl s) h)

theorem load_bound {s : Shared} {E : Value → Shared → Prop} {x : Str} {pos : Pos} {v : Value} {Q : Value → Shared → Prop} (hk : env.scope.kind = .function) (b : Bound env s.heap x v) (h : Q v s) (hd : (x == ("__debug__" : Str)) = false) :
    wpAny (model p w) A (eval (.Name x pos) env) Q E s := by
  refine wpAny_Name ?_ hd
  rcases b with ⟨hl, mr, n, e⟩ | ⟨hl, c, hc, i⟩
  · exact wpAny_loadName_local hk hl n e h
  · exact wpAny_loadName_cell hk hl hc i h

theorem evI_name {x : Str} {pos : Pos} {i : Int} {k : Int → Prop} (hk : env.scope.kind = .function) (hx : gt m x = some (.val (.int i))) (h : k i) (hd : (x == ("__debug__" : Str)) = false := by decide) :
    EvI p w h₀ A env m (.Name x pos) k := fun s O Q E S hQ => by
  obtain ⟨v, b, as, r, _⟩ := S.vars x _ hx
  cases r
  exact load_bound hk b (hQ _ _ _ (Ext.refl s) h) hd
theorem evB_name {x : Str} {pos : Pos} {i : Bool} {k : Bool → Prop} (hk : env.scope.kind = .function) (hx : gt m x = some (.val (.bool i))) (h : k i) (hd : (x == ("__debug__" : Str)) = false := by decide) :
    EvB p w h₀ A env m (.Name x pos) k := fun s O Q E S hQ => by
  obtain ⟨v, b, as, r, _⟩ := S.vars x _ hx
  cases r
  exact load_bound hk b (hQ _ _ (Ext.refl s) h) hd
theorem ev_name {x : Str} {pos : Pos} {d : PyData} {k : PyData → Prop} (hk : env.scope.kind = .function) (hx : gt m x = some (.val d)) (h : k d) (hd : (x == ("__debug__" : Str)) = false := by decide) :
    Ev p w h₀ A env .plain m (.Name x pos) k := fun s O Q E S hQ => by
  obtain ⟨v, b, as, r, n⟩ := S.vars x _ hx
  exact load_bound hk b (hQ _ _ _ _ (Ext.refl s) r n h) hd
def Loc.data : Loc → PyData
  | .val d => d
  | .own ds => .list ds
theorem reads_list {h : Heap} {a : Addr} {vs : Array Value} {ds : List PyData} {as : List Addr} (i : h.PlainList a vs) (r : RdAll h vs.toList ds as) : Rd h (.ref a) (.list ds) (a :: as) :=
  .list i r
theorem locRel_reads {h : Heap} {O : Owns} {x : Str} {v : Value} {l : Loc} (r : LocRel h O x v l) : ∃ as, Rd h v l.data as := by
  cases l with
  | val d => obtain ⟨as, r, _⟩ := r; exact ⟨as, r⟩
  | own ds => obtain ⟨a, vs, as, rfl, _, i, r, _⟩ := r; exact ⟨_, reads_list i r⟩
theorem ev_nameAny {x : Str} {pos : Pos} {l : Loc} {k : PyData → Prop} (hk : env.scope.kind = .function) (hx : gt m x = some l) (h : k l.data) (hd : (x == ("__debug__" : Str)) = false := by decide) :
    Ev p w h₀ A env .any m (.Name x pos) k := fun s O Q E S hQ => by
  obtain ⟨v, b, r⟩ := S.vars x _ hx
  obtain ⟨as, r⟩ := locRel_reads r
  exact load_bound hk b (hQ _ _ _ _ (Ext.refl s) r (fun _ _ => trivial) h) hd

-- arithmetic
theorem evI_add {l r : Expr} {pos : Pos} {k : Int → Prop} (h : EvI p w h₀ A env m l fun a => EvI p w h₀ A env m r fun b => k (a + b)) : EvI p w h₀ A env m (.BinOp l .Add r pos) k :=
  fun s O Q E S hQ => wpAny_BinOp (h s O _ E S fun _ _ _ x₁ h₁ => h₁ _ O _ E (S.ext x₁) fun _ _ s₂ x₂ h₂ => PySem.P.add_int (hQ _ _ _ ((x₁.trans x₂).trans (Ext.tok s₂ _)) h₂))
theorem evI_sub {l r : Expr} {pos : Pos} {k : Int → Prop} (h : EvI p w h₀ A env m l fun a => EvI p w h₀ A env m r fun b => k (a - b)) : EvI p w h₀ A env m (.BinOp l .Sub r pos) k :=
  fun s O Q E S hQ => wpAny_BinOp (h s O _ E S fun _ _ _ x₁ h₁ => h₁ _ O _ E (S.ext x₁) fun _ _ s₂ x₂ h₂ => PySem.P.sub_int (hQ _ _ _ ((x₁.trans x₂).trans (Ext.tok s₂ _)) h₂))
theorem evI_mul {l r : Expr} {pos : Pos} {k : Int → Prop} (h : EvI p w h₀ A env m l fun a => EvI p w h₀ A env m r fun b => IntMulOk a b ∧ k (a * b)) : EvI p w h₀ A env m (.BinOp l .Mult r pos) k :=
  fun s O Q E S hQ => wpAny_BinOp (h s O _ E S fun _ _ _ x₁ h₁ => h₁ _ O _ E (S.ext x₁) fun _ _ s₂ x₂ h₂ => PySem.P.mul_int (hQ _ _ _ ((x₁.trans x₂).trans (Ext.tok s₂ _)) h₂.2) h₂.1)
theorem evI_div {l r : Expr} {pos : Pos} {k : Int → Prop} (h : EvI p w h₀ A env m l fun a => EvI p w h₀ A env m r fun b => (b ≠ 0 ∧ b.natAbs < 1073741824) ∧ k (a.fdiv b)) : EvI p w h₀ A env m (.BinOp l .FloorDiv r pos) k :=
  fun s O Q E S hQ => wpAny_BinOp (h s O _ E S fun _ _ _ x₁ h₁ => h₁ _ O _ E (S.ext x₁) fun _ _ s₂ x₂ h₂ => floordiv_int h₂.1.1 (hQ _ _ _ ((x₁.trans x₂).trans (Ext.tok s₂ _)) h₂.2) (.inl (PyProof.noPylong_small h₂.1.2)))
theorem evI_mod {l r : Expr} {pos : Pos} {k : Int → Prop} (h : EvI p w h₀ A env m l fun a => EvI p w h₀ A env m r fun b => b ≠ 0 ∧ k (a.fmod b)) : EvI p w h₀ A env m (.BinOp l .Mod r pos) k :=
  fun s O Q E S hQ => wpAny_BinOp (h s O _ E S fun _ _ _ x₁ h₁ => h₁ _ O _ E (S.ext x₁) fun _ _ s₂ x₂ h₂ => mod_int' h₂.1 (hQ _ _ _ ((x₁.trans x₂).trans (Ext.tok s₂ _)) h₂.2))
theorem evI_shl {l r : Expr} {pos : Pos} {k : Int → Prop} (h : EvI p w h₀ A env m l fun a => EvI p w h₀ A env m r fun b => (0 ≤ b ∧ b ≤ 1000000 ∧ a.natAbs < 2 ^ 64) ∧ k (a * 2 ^ b.toNat)) : EvI p w h₀ A env m (.BinOp l .LShift r pos) k :=
  fun s O Q E S hQ => wpAny_BinOp (h s O _ E S fun _ _ _ x₁ h₁ => h₁ _ O _ E (S.ext x₁) fun _ _ s₂ x₂ h₂ => lshift_int_small h₂.1.1 h₂.1.2.1 h₂.1.2.2 (hQ _ _ _ ((x₁.trans x₂).trans (Ext.tok s₂ _)) h₂.2))
theorem evI_shr {l r : Expr} {pos : Pos} {k : Int → Prop} (h : EvI p w h₀ A env m l fun a => EvI p w h₀ A env m r fun b => 0 ≤ b ∧ k (a.fdiv (2 ^ b.toNat))) : EvI p w h₀ A env m (.BinOp l .RShift r pos) k :=
  fun s O Q E S hQ => wpAny_BinOp (h s O _ E S fun _ _ _ x₁ h₁ => h₁ _ O _ E (S.ext x₁) fun _ _ s₂ x₂ h₂ => rshift_int h₂.1 (hQ _ _ _ ((x₁.trans x₂).trans (Ext.tok s₂ _)) h₂.2))
theorem evI_and {l r : Expr} {pos : Pos} {k : Int → Prop} (h : EvI p w h₀ A env m l fun a => EvI p w h₀ A env m r fun b => k (Builtin.bitAnd a b)) : EvI p w h₀ A env m (.BinOp l .BitAnd r pos) k :=
  fun s O Q E S hQ => wpAny_BinOp (h s O _ E S fun _ _ _ x₁ h₁ => h₁ _ O _ E (S.ext x₁) fun _ _ s₂ x₂ h₂ => and_int (hQ _ _ _ ((x₁.trans x₂).trans (Ext.tok s₂ _)) h₂))
theorem evI_or {l r : Expr} {pos : Pos} {k : Int → Prop} (h : EvI p w h₀ A env m l fun a => EvI p w h₀ A env m r fun b => k (Builtin.bitOr a b)) : EvI p w h₀ A env m (.BinOp l .BitOr r pos) k :=
  fun s O Q E S hQ => wpAny_BinOp (h s O _ E S fun _ _ _ x₁ h₁ => h₁ _ O _ E (S.ext x₁) fun _ _ s₂ x₂ h₂ => or_int (hQ _ _ _ ((x₁.trans x₂).trans (Ext.tok s₂ _)) h₂))
def b2n (b : Bool) : Int := if b = true then 1 else 0
theorem evI_addBB {l r : Expr} {pos : Pos} {k : Int → Prop} (h : EvB p w h₀ A env m l fun a => EvB p w h₀ A env m r fun b => k (b2n a + b2n b)) : EvI p w h₀ A env m (.BinOp l .Add r pos) k :=
  fun s O Q E S hQ => wpAny_BinOp (h s O _ E S fun a _ x₁ h₁ => h₁ _ O _ E (S.ext x₁) fun b s₂ x₂ h₂ => add_bool (by
    have e : b2i a + b2i b = b2n a + b2n b := by cases a <;> cases b <;> rfl
    rw [e]; exact hQ _ _ _ ((x₁.trans x₂).trans (Ext.tok s₂ _)) h₂))
theorem evI_addIB {l r : Expr} {pos : Pos} {k : Int → Prop} (h : EvI p w h₀ A env m l fun a => EvB p w h₀ A env m r fun b => k (a + b2n b)) : EvI p w h₀ A env m (.BinOp l .Add r pos) k :=
  fun s O Q E S hQ => wpAny_BinOp (h s O _ E S fun _ _ _ x₁ h₁ => h₁ _ O _ E (S.ext x₁) fun _ s₂ x₂ h₂ => add_int_bool (hQ _ _ _ ((x₁.trans x₂).trans (Ext.tok s₂ _)) h₂))

-- comparisons
theorem evB_eq {l r : Expr} {pos : Pos} {k : Bool → Prop} (h : EvI p w h₀ A env m l fun a => EvI p w h₀ A env m r fun b => k (a == b)) (hm : behindInMarks .Eq r = false := by with_unfolding_all rfl) : EvB p w h₀ A env m (.Compare l [.Eq] [r] pos) k :=
  fun s O Q E S hQ => wpAny_Compare1 (h s O _ E S fun _ _ _ x₁ h₁ => h₁ _ O _ E (S.ext x₁) fun _ _ s₂ x₂ h₂ => PySem.P.eq_int (hQ _ _ (x₁.trans x₂) h₂)) hm
theorem tst_eq {l r : Expr} {pos : Pos} {k : Bool → Prop} (h : EvI p w h₀ A env m l fun a => EvI p w h₀ A env m r fun b => k (a == b)) (hm : behindInMarks .Eq r = false := by with_unfolding_all rfl) : Tst p w h₀ A env m (.Compare l [.Eq] [r] pos) k :=
  fun s O Q E S hQ => wpAny_isTrue_Compare1 (h s O _ E S fun _ _ _ x₁ h₁ => h₁ _ O _ E (S.ext x₁) fun _ _ s₂ x₂ h₂ => PySem.P.eq_int (wpAny_truthy_bool (hQ _ _ (x₁.trans x₂) h₂))) hm
theorem evB_ne {l r : Expr} {pos : Pos} {k : Bool → Prop} (h : EvI p w h₀ A env m l fun a => EvI p w h₀ A env m r fun b => k (a != b)) (hm : behindInMarks .NotEq r = false := by with_unfolding_all rfl) : EvB p w h₀ A env m (.Compare l [.NotEq] [r] pos) k :=
  fun s O Q E S hQ => wpAny_Compare1 (h s O _ E S fun _ _ _ x₁ h₁ => h₁ _ O _ E (S.ext x₁) fun _ _ s₂ x₂ h₂ => PySem.P.ne_int (hQ _ _ (x₁.trans x₂) h₂)) hm
theorem tst_ne {l r : Expr} {pos : Pos} {k : Bool → Prop} (h : EvI p w h₀ A env m l fun a => EvI p w h₀ A env m r fun b => k (a != b)) (hm : behindInMarks .NotEq r = false := by with_unfolding_all rfl) : Tst p w h₀ A env m (.Compare l [.NotEq] [r] pos) k :=
  fun s O Q E S hQ => wpAny_isTrue_Compare1 (h s O _ E S fun _ _ _ x₁ h₁ => h₁ _ O _ E (S.ext x₁) fun _ _ s₂ x₂ h₂ => PySem.P.ne_int (wpAny_truthy_bool (hQ _ _ (x₁.trans x₂) h₂))) hm
theorem evB_lt {l r : Expr} {pos : Pos} {k : Bool → Prop} (h : EvI p w h₀ A env m l fun a => EvI p w h₀ A env m r fun b => k (decide (a < b))) (hm : behindInMarks .Lt r = false := by with_unfolding_all rfl) : EvB p w h₀ A env m (.Compare l [.Lt] [r] pos) k :=
  fun s O Q E S hQ => wpAny_Compare1 (h s O _ E S fun _ _ _ x₁ h₁ => h₁ _ O _ E (S.ext x₁) fun _ _ s₂ x₂ h₂ => PySem.P.lt_int (hQ _ _ (x₁.trans x₂) h₂)) hm
theorem tst_lt {l r : Expr} {pos : Pos} {k : Bool → Prop} (h : EvI p w h₀ A env m l fun a => EvI p w h₀ A env m r fun b => k (decide (a < b))) (hm : behindInMarks .Lt r = false := by with_unfolding_all rfl) : Tst p w h₀ A env m (.Compare l [.Lt] [r] pos) k :=
  fun s O Q E S hQ => wpAny_isTrue_Compare1 (h s O _ E S fun _ _ _ x₁ h₁ => h₁ _ O _ E (S.ext x₁) fun _ _ s₂ x₂ h₂ => PySem.P.lt_int (wpAny_truthy_bool (hQ _ _ (x₁.trans x₂) h₂))) hm
theorem evB_le {l r : Expr} {pos : Pos} {k : Bool → Prop} (h : EvI p w h₀ A env m l fun a => EvI p w h₀ A env m r fun b => k (decide (a ≤ b))) (hm : behindInMarks .LtE r = false := by with_unfolding_all rfl) : EvB p w h₀ A env m (.Compare l [.LtE] [r] pos) k :=
  fun s O Q E S hQ => wpAny_Compare1 (h s O _ E S fun _ _ _ x₁ h₁ => h₁ _ O _ E (S.ext x₁) fun _ _ s₂ x₂ h₂ => PySem.P.le_int (hQ _ _ (x₁.trans x₂) h₂)) hm
theorem tst_le {l r : Expr} {pos : Pos} {k : Bool → Prop} (h : EvI p w h₀ A env m l fun a => EvI p w h₀ A env m r fun b => k (decide (a ≤ b))) (hm : behindInMarks .LtE r = false := by with_unfolding_all rfl) : Tst p w h₀ A env m (.Compare l [.LtE] [r] pos) k :=
  fun s O Q E S hQ => wpAny_isTrue_Compare1 (h s O _ E S fun _ _ _ x₁ h₁ => h₁ _ O _ E (S.ext x₁) fun _ _ s₂ x₂ h₂ => PySem.P.le_int (wpAny_truthy_bool (hQ _ _ (x₁.trans x₂) h₂))) hm
theorem evB_gt {l r : Expr} {pos : Pos} {k : Bool → Prop} (h : EvI p w h₀ A env m l fun a => EvI p w h₀ A env m r fun b => k (decide (a > b))) (hm : behindInMarks .Gt r = false := by with_unfolding_all rfl) : EvB p w h₀ A env m (.Compare l [.Gt] [r] pos) k :=
  fun s O Q E S hQ => wpAny_Compare1 (h s O _ E S fun _ _ _ x₁ h₁ => h₁ _ O _ E (S.ext x₁) fun _ _ s₂ x₂ h₂ => PySem.P.gt_int (hQ _ _ (x₁.trans x₂) h₂)) hm
theorem tst_gt {l r : Expr} {pos : Pos} {k : Bool → Prop} (h : EvI p w h₀ A env m l fun a => EvI p w h₀ A env m r fun b => k (decide (a > b))) (hm : behindInMarks .Gt r = false := by with_unfolding_all rfl) : Tst p w h₀ A env m (.Compare l [.Gt] [r] pos) k :=
  fun s O Q E S hQ => wpAny_isTrue_Compare1 (h s O _ E S fun _ _ _ x₁ h₁ => h₁ _ O _ E (S.ext x₁) fun _ _ s₂ x₂ h₂ => PySem.P.gt_int (wpAny_truthy_bool (hQ _ _ (x₁.trans x₂) h₂))) hm
theorem evB_ge {l r : Expr} {pos : Pos} {k : Bool → Prop} (h : EvI p w h₀ A env m l fun a => EvI p w h₀ A env m r fun b => k (decide (a ≥ b))) (hm : behindInMarks .GtE r = false := by with_unfolding_all rfl) : EvB p w h₀ A env m (.Compare l [.GtE] [r] pos) k :=
  fun s O Q E S hQ => wpAny_Compare1 (h s O _ E S fun _ _ _ x₁ h₁ => h₁ _ O _ E (S.ext x₁) fun _ _ s₂ x₂ h₂ => PySem.P.ge_int (hQ _ _ (x₁.trans x₂) h₂)) hm
theorem tst_ge {l r : Expr} {pos : Pos} {k : Bool → Prop} (h : EvI p w h₀ A env m l fun a => EvI p w h₀ A env m r fun b => k (decide (a ≥ b))) (hm : behindInMarks .GtE r = false := by with_unfolding_all rfl) : Tst p w h₀ A env m (.Compare l [.GtE] [r] pos) k :=
  fun s O Q E S hQ => wpAny_isTrue_Compare1 (h s O _ E S fun _ _ _ x₁ h₁ => h₁ _ O _ E (S.ext x₁) fun _ _ s₂ x₂ h₂ => PySem.P.ge_int (wpAny_truthy_bool (hQ _ _ (x₁.trans x₂) h₂))) hm

-- tests
theorem tst_not {e : Expr} {pos : Pos} {k : Bool → Prop} (h : Tst p w h₀ A env m e fun b => k (!b)) : Tst p w h₀ A env m (.UnaryOp .Not e pos) k := fun s O Q E S hQ =>
  isTrue_not (h s O _ E S fun _ _ x hk => hQ _ _ x hk)
theorem tst_and_nil {pos : Pos} {k : Bool → Prop} (h : k true) : Tst p w h₀ A env m (.BoolOp .And [] pos) k := fun s _ _ _ _ hQ => isTrue_and_nil (hQ _ _ (Ext.refl s) h)
theorem tst_or_nil {pos : Pos} {k : Bool → Prop} (h : k false) : Tst p w h₀ A env m (.BoolOp .Or [] pos) k := fun s _ _ _ _ hQ => isTrue_or_nil (hQ _ _ (Ext.refl s) h)
theorem tst_and {e : Expr} {rest : List Expr} {pos : Pos} {k : Bool → Prop} (h : Tst p w h₀ A env m e fun b => if b then Tst p w h₀ A env m (.BoolOp .And rest pos) k else k false) : Tst p w h₀ A env m (.BoolOp .And (e :: rest) pos) k := fun s O Q E S hQ =>
  isTrue_and (h s O _ E S fun b s' x hk => by
    cases b with
    | true => exact hk s' O Q E (S.ext x) fun _ _ x' hk' => hQ _ _ (x.trans x') hk'
    | false => exact hQ _ _ x hk)
theorem tst_or {e : Expr} {rest : List Expr} {pos : Pos} {k : Bool → Prop} (h : Tst p w h₀ A env m e fun b => if b then k true else Tst p w h₀ A env m (.BoolOp .Or rest pos) k) : Tst p w h₀ A env m (.BoolOp .Or (e :: rest) pos) k := fun s O Q E S hQ =>
  isTrue_or (h s O _ E S fun b s' x hk => by
    cases b with
    | false => exact hk s' O Q E (S.ext x) fun _ _ x' hk' => hQ _ _ (x.trans x') hk'
    | true => exact hQ _ _ x hk)
theorem tst_I {e : Expr} {k : Bool → Prop} (h : EvI p w h₀ A env m e fun i => k (i != 0)) (he : isTrue e env (eval e env) = (do let v ← eval e env; standAt e.pos; holding [v] (truthy v)) := by rfl) : Tst p w h₀ A env m e k := fun s O Q E S hQ =>
  isTrue_plain (h s O _ E S fun _ _ _ x hk => PySem.P.truthy_int (hQ _ _ x hk)) he
theorem tst_B {e : Expr} {k : Bool → Prop} (h : EvB p w h₀ A env m e k) (he : isTrue e env (eval e env) = (do let v ← eval e env; standAt e.pos; holding [v] (truthy v)) := by rfl) : Tst p w h₀ A env m e k := fun s O Q E S hQ =>
  isTrue_plain (h s O _ E S fun _ _ x hk => wpAny_truthy_bool (hQ _ _ x hk)) he
-- bools as values
theorem evB_notI {e : Expr} {pos : Pos} {k : Bool → Prop} (h : EvI p w h₀ A env m e fun i => k (!(i != 0))) : EvB p w h₀ A env m (.UnaryOp .Not e pos) k := fun s O Q E S hQ =>
  UnaryOp_ (h s O _ E S fun _ _ _ x hk => not_of (PySem.P.truthy_int (hQ _ _ x hk)))
theorem evB_and1 {e : Expr} {pos : Pos} {k : Bool → Prop} (h : EvB p w h₀ A env m e k) : EvB p w h₀ A env m (.BoolOp .And [e] pos) k := fun s O Q E S hQ => BoolOp_one (h s O Q E S hQ)
theorem evB_and {e e' : Expr} {rest : List Expr} {pos : Pos} {k : Bool → Prop} (h : EvB p w h₀ A env m e fun b => if b then EvB p w h₀ A env m (.BoolOp .And (e' :: rest) pos) k else k false) : EvB p w h₀ A env m (.BoolOp .And (e :: e' :: rest) pos) k := fun s O Q E S hQ =>
  BoolOp_and (h s O _ E S fun b s' x hk => wpAny_truthy_bool (by
    cases b with
    | true => exact hk s' O Q E (S.ext x) fun _ _ x' hk' => hQ _ _ (x.trans x') hk'
    | false => exact hQ _ _ x hk))
theorem evI_ite {t a b : Expr} {pos : Pos} {k : Int → Prop} (h : Tst p w h₀ A env m t fun c => if c then EvI p w h₀ A env m a k else EvI p w h₀ A env m b k) : EvI p w h₀ A env m (.IfExp t a b pos) k := fun s O Q E S hQ =>
  IfExp_ (h s O _ E S fun c s' x hk => by
    cases c with
    | true => exact hk s' O Q E (S.ext x) fun _ _ _ x' hk' => hQ _ _ _ (x.trans x') hk'
    | false => exact hk s' O Q E (S.ext x) fun _ _ _ x' hk' => hQ _ _ _ (x.trans x') hk')
end

structure Pres (env : Env) (O : Owns) (s s' : Shared) : Prop where
  keep : ∀ b o, s.heap.get? b = some o → b ≠ env.locals → (∀ x, (x, b) ∉ env.cells) → (∀ x, (x, b) ∉ O) → s'.heap.get? b = some o
  same : ∃ h tk, s' = { s with heap := h, toks := tk }
def Grow (s : Shared) (O O' : Owns) : Prop := ∀ x a, (x, a) ∈ O' → (∃ y, (y, a) ∈ O) ∨ s.heap.get? a = none

theorem Ext.pres {s s' : Shared} (x : Ext s s') (env : Env) (O : Owns) : Pres env O s s' := ⟨fun b o e _ _ _ => x.keep b o e, x.same⟩
theorem Grow.refl (s : Shared) (O : Owns) : Grow s O O := fun x a h => .inl ⟨x, h⟩
theorem Pres.trans {h₀ : Heap} {env : Env} {O O' : Owns} {s s' s'' : Shared} (a : Pres env O s s') (g : Grow s O O') (b : Pres env O' s' s'') : Pres env O s s'' := by
  refine ⟨fun x o e hl hc ho => b.keep x o (a.keep x o e hl hc ho) hl hc fun y hy => ?_, ?_⟩
  · rcases g y x hy with ⟨z, hz⟩ | q
    · exact ho z hz
    · rw [e] at q; cases q
  · obtain ⟨h, tk, rfl⟩ := a.same
    obtain ⟨h', tk', rfl⟩ := b.same
    exact ⟨h', tk', rfl⟩
theorem none_back {h₀ : Heap} {env : Env} {O O' : Owns} {m : Locs} {s s' : Shared} (a : Pres env O s s') (S : St h₀ env O' m s'.heap) {b : Addr} (e : s'.heap.get? b = none) : s.heap.get? b = none ∨ ∃ x, (x, b) ∈ O := by
  cases q : s.heap.get? b with
  | none => exact .inl rfl
  | some o =>
    refine .inr ?_
    refine Classical.byContradiction fun hn => ?_
    have h1 : b ≠ env.locals := fun h => by
      obtain ⟨mr, o', _, _, ho, _⟩ := S.frame
      rw [← h, e] at ho; cases ho
    have h2 : ∀ x, (x, b) ∉ env.cells := fun x hx => by
      obtain ⟨v, o', ho, _⟩ := S.cells x b hx
      rw [e] at ho; cases ho
    rw [a.keep b o q h1 h2 fun x hx => hn ⟨x, hx⟩] at e
    cases e
theorem Grow.trans {h₀ : Heap} {env : Env} {O O' O'' : Owns} {m : Locs} {s s' : Shared} (g : Grow s O O') (a : Pres env O s s') (S : St h₀ env O' m s'.heap) (g' : Grow s' O' O'') : Grow s O O'' := fun x b hb => by
  rcases g' x b hb with ⟨y, hy⟩ | q
  · exact g y b hy
  · exact (none_back a S q).symm

section
variable (p : Program) (w : World) (h₀ : Heap) (A : Around) (env : Env)
def Ex (m : Locs) (b : List Stmt) (N : Locs → Prop) (T : PyData → Prop) : Prop :=
  ∀ (s : Shared) (O : Owns) (Q : Flow → Shared → Prop) (E : Value → Shared → Prop), St h₀ env O m s.heap →
    (∀ m' O' s', Pres env O s s' → Grow s O O' → St h₀ env O' m' s'.heap → N m' → Q .next s') →
    (∀ v d as s', Pres env O s s' → Rd s'.heap v d as → (∀ a ∈ as, s.heap.get? a = none ∨ ∃ x, (x, a) ∈ O) → T d → Q (.ret v) s') →
    wpAny (model p w) A (execs b env) Q E s
def X1 (m : Locs) (b : Stmt) (N : Locs → Prop) (T : PyData → Prop) : Prop :=
  ∀ (s : Shared) (O : Owns) (Q : Flow → Shared → Prop) (E : Value → Shared → Prop), St h₀ env O m s.heap →
    (∀ m' O' s', Pres env O s s' → Grow s O O' → St h₀ env O' m' s'.heap → N m' → Q .next s') →
    (∀ v d as s', Pres env O s s' → Rd s'.heap v d as → (∀ a ∈ as, s.heap.get? a = none ∨ ∃ x, (x, a) ∈ O) → T d → Q (.ret v) s') →
    wpAny (model p w) A (exec b env) Q E s
end

section
variable {p : Program} {w : World} {h₀ : Heap} {A : Around} {env : Env} {m : Locs} {N : Locs → Prop} {T : PyData → Prop}

theorem ex_nil (h : N m) : Ex p w h₀ A env m [] N T := fun s O Q E S hN _ => wpAny_execs_nil (hN m O s (Ext.pres (Ext.refl s) _ _) (Grow.refl _ _) S h)
theorem ret_back {O O' : Owns} {m' : Locs} {s s' : Shared} (a : Pres env O s s') (g : Grow s O O') (S : St h₀ env O' m' s'.heap) {as : List Addr} (h : ∀ a ∈ as, s'.heap.get? a = none ∨ ∃ x, (x, a) ∈ O') :
    ∀ a ∈ as, s.heap.get? a = none ∨ ∃ x, (x, a) ∈ O := fun b hb => by
  rcases h b hb with q | ⟨x, hx⟩
  · exact none_back a S q
  · exact (g x b hx).symm
theorem ex_cons {b : Stmt} {rest : List Stmt} (h : X1 p w h₀ A env m b (fun m' => Ex p w h₀ A env m' rest N T) T) : Ex p w h₀ A env m (b :: rest) N T := fun s O Q E S hN hT => by
  refine wpAny_execs_cons (h s O _ E S (fun m' O' s' a g S' hk => ?_) (fun v d as s' a r f t => hT v d as s' a r f t))
  refine hk s' O' Q E S' (fun m'' O'' s'' a' g' S'' hN' => hN m'' O'' s'' (a.trans (h₀ := h₀) g a') (g.trans a S' g') S'' hN') fun v d as s'' a' r f t => hT v d as s'' (a.trans (h₀ := h₀) g a') r (ret_back a g S' f) t
theorem x1_mono {b : Stmt} {N' : Locs → Prop} (h : X1 p w h₀ A env m b N' T) (k : ∀ m', N' m' → N m') : X1 p w h₀ A env m b N T := fun s O Q E S hN hT =>
  h s O Q E S (fun m' O' s' a g S' hk => hN m' O' s' a g S' (k m' hk)) hT
theorem ex_mono {b : List Stmt} {N' : Locs → Prop} {T' : PyData → Prop} (h : Ex p w h₀ A env m b N' T') (k : ∀ m', N' m' → N m') (kt : ∀ d, T' d → T d) : Ex p w h₀ A env m b N T := fun s O Q E S hN hT =>
  h s O Q E S (fun m' O' s' a g S' hk => hN m' O' s' a g S' (k m' hk)) (fun v d as s' a r f t => hT v d as s' a r f (kt d t))

theorem St.turn {O : Owns} {h h' : Heap} {b : Addr} (S : St h₀ env O m h) (hs : Heap.ExtBut b h h') (hb : h₀.get? b = none)
    (hf : ∃ mr, h'.Ns env.locals mr) (hc : ∀ x c, (x, c) ∈ env.cells → ∃ v, h'.IsCell c v) (hnl : ∀ vs, ¬ h.PlainList b vs) (m' : Locs)
    (hv : ∀ x l, gt m' x = some l → ∃ v, Bound env h' x v ∧ LocRel h O x v l) : St h₀ env O m' h' where
  ground x o e := hs x o (fun q => by rw [q, hb] at e; cases e) (S.ground x o e)
  frame := hf
  cells := hc
  apart := S.apart
  newL := S.newL
  newC := S.newC
  newO := S.newO
  lists x a hm := by
    obtain ⟨vs, i⟩ := S.lists x a hm
    exact ⟨vs, i.extBut hs fun q => hnl vs (q ▸ i)⟩
  uniq := S.uniq
  vars x l e := by
    obtain ⟨v, bd, r⟩ := hv x l e
    refine ⟨v, bd, ?_⟩
    cases l with
    | val d =>
      obtain ⟨as, r, n⟩ := r
      refine ⟨as, r.at fun a ha o ho => hs a o (fun q => ?_) ho, n⟩
      obtain ⟨vs, i⟩ := r.lists a ha
      exact hnl vs (q ▸ i)
    | own ds =>
      obtain ⟨a, vs, as, e1, hm, i, r, n⟩ := r
      refine ⟨a, vs, as, e1, hm, i.extBut hs fun q => hnl vs (q ▸ i), r.at fun b' hb' o' ho' => hs b' o' (fun q => ?_) ho', n⟩
      obtain ⟨vs', i⟩ := r.lists b' hb'
      exact hnl vs' (q ▸ i)

theorem ns_not_list {h : Heap} {a : Addr} {mr : Str → Option Value} (n : h.Ns a mr) (vs : Array Value) : ¬ h.PlainList a vs := fun ⟨k, ho⟩ => by
  obtain ⟨o', es, ep, ho', hd', _⟩ := n
  rw [ho] at ho'; cases ho'
  cases hd'
theorem cell_not_list {h : Heap} {a : Addr} {v : Option Value} (n : h.IsCell a v) (vs : Array Value) : ¬ h.PlainList a vs := fun ⟨k, ho⟩ => by
  obtain ⟨o', ho', hd'⟩ := n
  rw [ho] at ho'; cases ho'
  cases hd'
theorem cell_not_ns {h : Heap} {a : Addr} {v : Option Value} {mr : Str → Option Value} (n : h.IsCell a v) : ¬ h.Ns a mr := fun ⟨o, es, ep, ho, hd, _⟩ => by
  obtain ⟨o', ho', hd'⟩ := n
  rw [ho] at ho'; cases ho'
  rw [hd] at hd'; cases hd'

def Stored (env : Env) (x : Str) : Prop := env.kindOf x = some .local ∨ (env.kindOf x = some .cell ∧ ∃ c, env.cells.lookup x = some c)

theorem store_any {s : Shared} {O : Owns} {E : Value → Shared → Prop} {Q : Unit → Shared → Prop} {x : Str} {v : Value} {l : Loc} (hk : env.scope.kind = .function) (hx : Stored env x)
    (S : St h₀ env O m s.heap) (r : LocRel s.heap O x v l) (h : ∀ s', Pres env O s s' → St h₀ env O (st m x l) s'.heap → Q () s') : wpAny (model p w) A (storeName env x v) Q E s := by
  obtain ⟨mr, hn⟩ := S.frame
  rcases hx with hl | ⟨hl, c, hc⟩
  · refine wpAny_storeName_local hl hn (fun h' hn' hs' => ?_) (by rw [hk]; rfl)
    refine h _ ⟨fun b o e hb _ _ => (hs'.2 b hb).trans e, h', _, rfl⟩ ?_
    refine S.turn (h' := h') hs'.extBut S.newL ⟨_, hn'⟩ (fun y c hm => ?_) (ns_not_list hn) _ fun y ly e => ?_
    · obtain ⟨u, i⟩ := S.cells y c hm
      exact ⟨u, i.sameBut hs' fun q => cell_not_ns i (q ▸ hn)⟩
    · rw [gt_st] at e
      by_cases hy : y = x
      · subst hy
        rw [if_pos rfl] at e
        cases e
        exact ⟨v, .inl ⟨hl, _, hn', by simp⟩, r⟩
      · rw [if_neg hy] at e
        obtain ⟨u, bd, ru⟩ := S.vars y ly e
        refine ⟨u, ?_, ru⟩
        rcases bd with ⟨hk', mr', n', e'⟩ | ⟨hk', c, hc, i⟩
        · refine .inl ⟨hk', _, hn', ?_⟩
          rw [if_neg hy]
          obtain ⟨o1, es1, ep1, g1, d1, _, f1⟩ := hn
          obtain ⟨o2, es2, ep2, g2, d2, _, f2⟩ := n'
          rw [g1] at g2; cases g2
          rw [d1] at d2; cases d2
          rw [← f1, f2]; exact e'
        · exact .inr ⟨hk', c, hc, i.sameBut hs' fun q => cell_not_ns i (q ▸ hn)⟩
  · have hcm := mem_of_lookup hc
    obtain ⟨u₀, i₀⟩ := S.cells x c hcm
    refine wpAny_storeName_cell hk hl hc i₀ fun h' hc' hs' => ?_
    refine h _ ⟨fun b o e _ hb _ => (hs'.2 b fun q => hb x (q ▸ hcm)).trans e, h', _, rfl⟩ ?_
    refine S.turn (h' := h') hs'.extBut (S.newC x c hcm) ⟨mr, hn.sameBut hs' fun q => cell_not_ns i₀ (q ▸ hn)⟩ (fun y c' hm => ?_) (cell_not_list i₀) _ fun y ly e => ?_
    · by_cases q : c' = c
      · exact ⟨_, q ▸ hc'⟩
      · obtain ⟨u, i⟩ := S.cells y c' hm
        exact ⟨u, i.sameBut hs' q⟩
    · rw [gt_st] at e
      by_cases hy : y = x
      · subst hy
        rw [if_pos rfl] at e
        cases e
        exact ⟨v, .inr ⟨hl, c, hc, hc'⟩, r⟩
      · rw [if_neg hy] at e
        obtain ⟨u, bd, ru⟩ := S.vars y ly e
        refine ⟨u, ?_, ru⟩
        rcases bd with ⟨hk', mr', n', e'⟩ | ⟨hk', c', hc1, i⟩
        · exact .inl ⟨hk', mr', n'.sameBut hs' fun q => cell_not_ns i₀ (q ▸ hn), e'⟩
        · exact .inr ⟨hk', c', hc1, i.sameBut hs' fun q => hy (name_of_addr S.apart (mem_of_lookup hc1) (q ▸ hcm))⟩

theorem St.owns {O : Owns} {h h' : Heap} {x : Str} {a : Addr} {vs : Array Value} (S : St h₀ env O m h) (k : ∀ b o, h.get? b = some o → h'.get? b = some o) (hn : h.get? a = none) (hl : h'.PlainList a vs) : St h₀ env ((x, a) :: O) m h' := by
  have S' := S.keeps k
  have no : ∀ y, (y, a) ∉ O := fun y hy => by
    obtain ⟨vs, k, ho⟩ := S.lists y a hy
    rw [hn] at ho; cases ho
  refine ⟨S'.ground, S'.frame, S'.cells, S'.apart, S'.newL, S'.newC, fun y b hm => ?_, fun y b hm => ?_, fun y z b h1 h2 => ?_, fun y l e => ?_⟩
  · rcases List.mem_cons.mp hm with q | hm
    · cases q
      cases q : h₀.get? a with
      | none => rfl
      | some o => rw [S.ground a o q] at hn; cases hn
    · exact S.newO y b hm
  · rcases List.mem_cons.mp hm with q | hm
    · cases q; exact ⟨vs, hl⟩
    · exact S'.lists y b hm
  · rcases List.mem_cons.mp h1 with q1 | h1 <;> rcases List.mem_cons.mp h2 with q2 | h2
    · cases q1; cases q2; rfl
    · cases q1; exact absurd h2 (no z)
    · cases q2; exact absurd h1 (no y)
    · exact S.uniq y z b h1 h2
  · obtain ⟨v, bd, r⟩ := S.vars y l e
    refine ⟨v, bd.keeps k, ?_⟩
    cases l with
    | val d =>
      obtain ⟨as, r, n⟩ := r
      refine ⟨as, r.keeps k, fun b hb z hz => ?_⟩
      rcases List.mem_cons.mp hz with q | hz
      · cases q
        obtain ⟨vs', k, ho⟩ := r.lists _ hb
        rw [hn] at ho; cases ho
      · exact n b hb z hz
    | own ds =>
      obtain ⟨a', vs', as, e1, hm, i, r, n⟩ := r
      refine ⟨a', vs', as, e1, .tail _ hm, isList_keeps i k, r.keeps k, fun b hb z hz => ?_⟩
      rcases List.mem_cons.mp hz with q | hz
      · cases q
        obtain ⟨vs', k, ho⟩ := r.lists _ hb
        rw [hn] at ho; cases ho
      · exact n b hb z hz

-- assignments
theorem x1_asgI {x : Str} {px pos : Pos} {e : Expr} (hk : env.scope.kind = .function) (hx : Stored env x) (h : EvI p w h₀ A env m e fun i => N (st m x (.val (.int i)))) (hs : swapsWith e (some (.Name x px)) pos.line env = pure false := by rfl) :
    X1 p w h₀ A env m (.Assign [.Name x px] e pos) N T := fun s O Q E S hN _ =>
  wpAny_Assign_Name (h s O _ E S fun i t s' x' hk' => store_any hk hx (l := .val (.int i)) (S.ext x') ⟨[], .int i t, fun _ h => nomatch h⟩ fun s'' a S'' => hN _ O s'' ((x'.pres env O).trans (h₀ := h₀) (Grow.refl _ _) a) (Grow.refl _ _) S'' hk') hs
theorem x1_asgB {x : Str} {px pos : Pos} {e : Expr} (hk : env.scope.kind = .function) (hx : Stored env x) (h : EvB p w h₀ A env m e fun i => N (st m x (.val (.bool i)))) (hs : swapsWith e (some (.Name x px)) pos.line env = pure false := by rfl) :
    X1 p w h₀ A env m (.Assign [.Name x px] e pos) N T := fun s O Q E S hN _ =>
  wpAny_Assign_Name (h s O _ E S fun i s' x' hk' => store_any hk hx (l := .val (.bool i)) (S.ext x') ⟨[], .bool i, fun _ h => nomatch h⟩ fun s'' a S'' => hN _ O s'' ((x'.pres env O).trans (h₀ := h₀) (Grow.refl _ _) a) (Grow.refl _ _) S'' hk') hs
theorem x1_asgV {x : Str} {px pos : Pos} {e : Expr} (hk : env.scope.kind = .function) (hx : Stored env x) (h : Ev p w h₀ A env .plain m e fun d => N (st m x (.val d))) (hs : swapsWith e (some (.Name x px)) pos.line env = pure false := by rfl) :
    X1 p w h₀ A env m (.Assign [.Name x px] e pos) N T := fun s O Q E S hN _ =>
  wpAny_Assign_Name (h s O _ E S fun v d as s' x' r f hk' => store_any hk hx (l := .val d) (S.ext x') ⟨as, r, f⟩ fun s'' a S'' => hN _ O s'' ((x'.pres env O).trans (h₀ := h₀) (Grow.refl _ _) a) (Grow.refl _ _) S'' hk') hs
theorem x1_asgN {x : Str} {px pos : Pos} {e : Expr} (hk : env.scope.kind = .function) (hx : Stored env x) (h : EvN p w h₀ A env m e fun ds => N (st m x (.own ds))) (hs : swapsWith e (some (.Name x px)) pos.line env = pure false := by rfl) :
    X1 p w h₀ A env m (.Assign [.Name x px] e pos) N T := fun s O Q E S hN _ =>
  wpAny_Assign_Name (h s O _ E S fun a vs as ds s' x' hnew i r f hk' => by
    have S' := S.owns (x := x) x'.keep hnew i
    have g : Grow s O ((x, a) :: O) := fun y b hb => by
      rcases List.mem_cons.mp hb with q | hb
      · cases q; exact .inr hnew
      · exact .inl ⟨y, hb⟩
    refine store_any (l := .own ds) hk hx S' ⟨a, vs, as, rfl, .head _, i, r, fun b hb y hy => ?_⟩ fun s'' pr S'' => hN _ _ s'' ((x'.pres env O).trans (h₀ := h₀) g pr) g S'' hk'
    rcases List.mem_cons.mp hy with q | hy
    · cases q; exact (f _ hb).2 rfl
    · obtain ⟨vs', k, ho⟩ := S.lists y b hy
      rw [(f b hb).1] at ho; cases ho) hs
theorem x1_if {t : Expr} {b1 b2 : List Stmt} {pos : Pos} (h : Tst p w h₀ A env m t fun b => if b then Ex p w h₀ A env m b1 N T else Ex p w h₀ A env m b2 N T) : X1 p w h₀ A env m (.If t b1 b2 pos) N T := fun s O Q E S hN hT =>
  wpAny_If (h s O _ E S fun b s' x hk => by
    have S' := S.ext x
    have pr := x.pres env O
    cases b with
    | true => exact hk s' O Q E S' (fun m' O' s'' a g S'' n => hN m' O' s'' (pr.trans (h₀ := h₀) (Grow.refl _ _) a) ((Grow.refl _ _).trans pr S' g) S'' n) fun v d as s'' a r f t => hT v d as s'' (pr.trans (h₀ := h₀) (Grow.refl _ _) a) r (ret_back pr (Grow.refl _ _) S' f) t
    | false => exact hk s' O Q E S' (fun m' O' s'' a g S'' n => hN m' O' s'' (pr.trans (h₀ := h₀) (Grow.refl _ _) a) ((Grow.refl _ _).trans pr S' g) S'' n) fun v d as s'' a r f t => hT v d as s'' (pr.trans (h₀ := h₀) (Grow.refl _ _) a) r (ret_back pr (Grow.refl _ _) S' f) t)
theorem x1_ret {e : Expr} {pos : Pos} (h : Ev p w h₀ A env .ret m e T) : X1 p w h₀ A env m (.Return (some e) pos) N T := fun s O Q E S _ hT =>
  wpAny_Return_some (h s O _ E S fun v d as s' x r f t => hT v d as s' (x.pres env O) r f t)
theorem x1_asg2I {x y : Str} {px py pos : Pos} {e : Expr} (hk : env.scope.kind = .function) (hx : Stored env x) (hy : Stored env y) (h : EvI p w h₀ A env m e fun i => N (st (st m x (.val (.int i))) y (.val (.int i))))
    (he : (assignEach [.Name x px, .Name y py] env).map (·.2) = [assign (.Name x px) env, assign (.Name y py) env] := by rfl) (hw : swappedStores [.Name x px, .Name y py] e env = pure none := by rfl) :
    X1 p w h₀ A env m (.Assign [.Name x px, .Name y py] e pos) N T := fun s O Q E S hN _ =>
  wpAny_Assign_two (h s O _ E S fun i t s' x' hk' => wpAny_assign_Name (store_any (l := .val (.int i)) hk hx (S.ext x') ⟨[], .int i t, fun _ h => nomatch h⟩ fun s₂ a₂ S₂ =>
    wpAny_assign_Name (store_any (l := .val (.int i)) hk hy S₂ ⟨[], .int i t, fun _ h => nomatch h⟩ fun s'' a S'' => hN _ O s'' (((x'.pres env O).trans (h₀ := h₀) (Grow.refl _ _) a₂).trans (h₀ := h₀) (Grow.refl _ _) a) (Grow.refl _ _) S'' hk'))) he hw
theorem load_name {s : Shared} {E : Value → Shared → Prop} {x : Str} {v : Value} {Q : Value → Shared → Prop} (hk : env.scope.kind = .function) (b : Bound env s.heap x v) (h : Q v s) : wpAny (model p w) A (loadName env x) Q E s := by
  rcases b with ⟨hl, mr, n, e⟩ | ⟨hl, c, hc, i⟩
  · exact wpAny_loadName_local hk hl n e h
  · exact wpAny_loadName_cell hk hl hc i h
theorem x1_aug_add {x : Str} {px pos : Pos} {a : Int} {e : Expr} (hk : env.scope.kind = .function) (hx : Stored env x) (hg : gt m x = some (.val (.int a))) (h : EvI p w h₀ A env m e fun b => N (st m x (.val (.int (a + b))))) :
    X1 p w h₀ A env m (.AugAssign (.Name x px) .Add e pos) N T := fun s O Q E S hN _ => by
  obtain ⟨v, bd, as, r, _⟩ := S.vars x _ hg
  cases r
  exact wpAny_AugAssign_Name (load_name hk bd (h s O _ E S fun _ _ s₂ x₂ h₂ => PySem.P.iadd_int (store_any (l := .val (.int _)) hk hx (S.ext (x₂.trans (Ext.tok s₂ _))) ⟨[], .int _ _, fun _ h => nomatch h⟩ fun s'' pr S'' => hN _ O s'' (((x₂.trans (Ext.tok s₂ _)).pres env O).trans (h₀ := h₀) (Grow.refl _ _) pr) (Grow.refl _ _) S'' h₂)))
theorem x1_aug_shr {x : Str} {px pos : Pos} {a : Int} {e : Expr} (hk : env.scope.kind = .function) (hx : Stored env x) (hg : gt m x = some (.val (.int a))) (h : EvI p w h₀ A env m e fun b => 0 ≤ b ∧ N (st m x (.val (.int (a.fdiv (2 ^ b.toNat)))))) :
    X1 p w h₀ A env m (.AugAssign (.Name x px) .RShift e pos) N T := fun s O Q E S hN _ => by
  obtain ⟨v, bd, as, r, _⟩ := S.vars x _ hg
  cases r
  exact wpAny_AugAssign_Name (load_name hk bd (h s O _ E S fun _ _ s₂ x₂ h₂ => irshift_int h₂.1 (store_any (l := .val (.int _)) hk hx (S.ext (x₂.trans (Ext.tok s₂ _))) ⟨[], .int _ _, fun _ h => nomatch h⟩ fun s'' pr S'' => hN _ O s'' (((x₂.trans (Ext.tok s₂ _)).pres env O).trans (h₀ := h₀) (Grow.refl _ _) pr) (Grow.refl _ _) S'' h₂.2)))

theorem St.mut {O : Owns} {h h' : Heap} {x : Str} {a : Addr} {vs vs' : Array Value} {ds : List PyData} {as : List Addr} (S : St h₀ env O m h) (hm : (x, a) ∈ O) (hb : Bound env h x (.ref a)) (hs : Heap.SameBut a h h') (hi : h.PlainList a vs)
    (hl : h'.PlainList a vs') (r : RdAll h vs'.toList ds as) (n : ∀ b ∈ as, ∀ y, (y, b) ∉ O) : St h₀ env O (st m x (.own ds)) h' := by
  have cellNe : ∀ {y c v}, h.IsCell c v → (y, c) ∈ env.cells → c ≠ a := fun i _ q => cell_not_list (q ▸ i) vs hi
  have keepB : ∀ {y v}, Bound env h y v → Bound env h' y v := fun bd => by
    rcases bd with ⟨hk', mr, hn, e⟩ | ⟨hk', c, hc, i⟩
    · exact .inl ⟨hk', mr, hn.sameBut hs fun q => ns_not_list (q ▸ hn) vs hi, e⟩
    · exact .inr ⟨hk', c, hc, i.sameBut hs (cellNe i (mem_of_lookup hc))⟩
  refine ⟨fun b o e => (hs.2 b fun q => ?_).trans (S.ground b o e), ?_, fun y c hc => ?_, S.apart, S.newL, S.newC, S.newO, fun y b hb' => ?_, S.uniq, fun y l e => ?_⟩
  · rw [q, S.newO x a hm] at e; cases e
  · obtain ⟨mr, hn⟩ := S.frame
    exact ⟨mr, hn.sameBut hs fun q => ns_not_list (q ▸ hn) vs hi⟩
  · obtain ⟨v, i⟩ := S.cells y c hc
    exact ⟨v, i.sameBut hs (cellNe i hc)⟩
  · by_cases q : b = a
    · exact ⟨vs', q ▸ hl⟩
    · obtain ⟨vs₂, i⟩ := S.lists y b hb'
      exact ⟨vs₂, i.extBut hs.extBut q⟩
  · rw [gt_st] at e
    by_cases hy : y = x
    · subst hy
      rw [if_pos rfl] at e
      cases e
      exact ⟨.ref a, keepB hb, a, vs', as, rfl, hm, hl, r.at fun b hb' o ho => (hs.2 b fun q => n b hb' y (q ▸ hm)).trans ho, n⟩
    · rw [if_neg hy] at e
      obtain ⟨v, bd, ru⟩ := S.vars y l e
      refine ⟨v, keepB bd, ?_⟩
      cases l with
      | val d =>
        obtain ⟨as', r', n'⟩ := ru
        exact ⟨as', r'.at fun b hb' o ho => (hs.2 b fun q => n' b hb' x (q ▸ hm)).trans ho, n'⟩
      | own ds' =>
        obtain ⟨a', vs₂, as', e1, hm', i, r', n'⟩ := ru
        refine ⟨a', vs₂, as', e1, hm', i.extBut hs.extBut fun q => ?_, r'.at fun b hb' o ho => (hs.2 b fun q => n' b hb' x (q ▸ hm)).trans ho, n'⟩
        exact hy (S.uniq y x a' hm' (q ▸ hm))
theorem pi_set {h : Heap} {ns : List Int} {vs : Array Value} {as : List Addr} (r : RdAll h vs.toList (PI ns) as) (i : Nat) (hi : i < ns.length) (n : Int) (t : Tok) : RdAll h (vs.setIfInBounds i (.int n t)).toList (PI (ns.set i n)) [] := by
  obtain ⟨_, f⟩ := r.ofPI
  have hl : vs.toList.length = ns.length := by rw [r.length]; simp [PI]
  refine rdAll_of_ints _ _ (by simpa using hl) fun j hj => ?_
  have hj' : j < ns.length := by simpa using hj
  obtain ⟨u, e⟩ := f j hj'
  have e' : vs[j]? = some (Value.int ns[j] u) := by simpa using e
  by_cases q : i = j
  · subst q
    have : i < vs.size := by simpa using (hl ▸ hi : i < vs.toList.length)
    exact ⟨t, by simp [this]⟩
  · refine ⟨u, ?_⟩
    simp [q, e']
theorem x1_item_add {x : Str} {px pos tpos : Pos} {ns : List Int} {i e : Expr} (hk : env.scope.kind = .function) (hg : gt m x = some (.own (PI ns))) (hf : (ns.length : Int) < 2 ^ 63)
    (h : EvI p w h₀ A env m i fun a => (0 ≤ a ∧ a < ns.length) ∧ EvI p w h₀ A env m e fun b => N (st m x (.own (PI (ns.set a.toNat (ns.getD a.toNat 0 + b))))))
    (hi : ∀ ov iv new, augStore i ov iv new = (do holding [new, ov, iv] (setItem ov iv new); release [new, ov, iv] []; pure .next) := by intros; rfl) (hd : (x == ("__debug__" : Str)) = false := by decide) :
    X1 p w h₀ A env m (.AugAssign (.Subscript (.Name x px) i tpos) .Add e pos) N T := fun s O Q E S hN _ => by
  obtain ⟨v, bd, D, vs, as, rfl, hm, il, r, n⟩ := S.vars x _ hg
  refine wpAny_AugAssign_SubscriptAny (load_bound hk bd (h s O _ E S fun a t s₁ x₁ h₁ => ?_) hd) hi
  obtain ⟨⟨h0, h1⟩, h₁⟩ := h₁
  have il₁ := isList_keeps il x₁.keep
  have r₁ := r.keeps x₁.keep
  have ha : a.toNat < ns.length := by lia
  have hg' : ns.getD a.toNat 0 = ns[a.toNat] := by simp [List.getD, ha]
  obtain ⟨_, f⟩ := r₁.ofPI
  obtain ⟨u, e1⟩ := f a.toNat ha
  have hl : vs.toList.length = ns.length := by rw [r.length]; simp [PI]
  refine wpAny_getItem_list il₁.isList h0 (by lia) (by simpa using e1) ?_
  refine h₁ s₁ O _ E (S.ext x₁) fun b t' s₂ x₂ h₂ => PySem.P.iadd_int ?_
  have x₃ := (x₁.trans x₂).trans (Ext.tok s₂ (s₂.toks + 1))
  have il₃ := isList_keeps il x₃.keep
  obtain ⟨n₃, e₃⟩ := id il₃
  refine ki_setAt (n := n₃) e₃ h0 (by lia) (by rw [← Array.length_toList, hl]; exact h1) ?_
  have hs' := Heap.SameBut.update (s₂.heap) D (Obj.mapSeq (·.setIfInBounds a.toNat (.int (ns.getD a.toNat 0 + b) s₂.toks)))
  have hl' : (s₂.heap.update D (Obj.mapSeq (·.setIfInBounds a.toNat (.int (ns.getD a.toNat 0 + b) s₂.toks)))).PlainList D (vs.setIfInBounds a.toNat (.int (ns.getD a.toNat 0 + b) s₂.toks)) := ⟨_, IsL.update (n := n₃) e₃ _⟩
  rw [← hg']
  generalize s₂.heap.update D (Obj.mapSeq (·.setIfInBounds a.toNat (.int (ns.getD a.toNat 0 + b) s₂.toks))) = h' at hs' hl' ⊢
  refine hN _ O _ ⟨fun c o ec _ _ hc => (hs'.2 c fun q => hc x (q ▸ hm)).trans (x₃.keep c o ec), ?_⟩ (Grow.refl _ _) ?_ h₂
  · obtain ⟨hh, tk, e3⟩ := x₃.same
    exact ⟨h', tk, by have := congrArg (fun z : Shared => ({ z with heap := h' } : Shared)) e3; simpa using this⟩
  · refine (S.ext x₃).mut hm (bd.keeps x₃.keep) hs' il₃ hl' (as := []) ?_ (fun _ h => nomatch h)
    exact pi_set (r.keeps x₃.keep) a.toNat ha _ _
theorem x1_item_sub {x : Str} {px pos tpos : Pos} {ns : List Int} {i e : Expr} (hk : env.scope.kind = .function) (hg : gt m x = some (.own (PI ns))) (hf : (ns.length : Int) < 2 ^ 63)
    (h : EvI p w h₀ A env m i fun a => (0 ≤ a ∧ a < ns.length) ∧ EvI p w h₀ A env m e fun b => N (st m x (.own (PI (ns.set a.toNat (ns.getD a.toNat 0 - b))))))
    (hi : ∀ ov iv new, augStore i ov iv new = (do holding [new, ov, iv] (setItem ov iv new); release [new, ov, iv] []; pure .next) := by intros; rfl) (hd : (x == ("__debug__" : Str)) = false := by decide) :
    X1 p w h₀ A env m (.AugAssign (.Subscript (.Name x px) i tpos) .Sub e pos) N T := fun s O Q E S hN _ => by
  obtain ⟨v, bd, D, vs, as, rfl, hm, il, r, n⟩ := S.vars x _ hg
  refine wpAny_AugAssign_SubscriptAny (load_bound hk bd (h s O _ E S fun a t s₁ x₁ h₁ => ?_) hd) hi
  obtain ⟨⟨h0, h1⟩, h₁⟩ := h₁
  have il₁ := isList_keeps il x₁.keep
  have r₁ := r.keeps x₁.keep
  have ha : a.toNat < ns.length := by lia
  have hg' : ns.getD a.toNat 0 = ns[a.toNat] := by simp [List.getD, ha]
  obtain ⟨_, f⟩ := r₁.ofPI
  obtain ⟨u, e1⟩ := f a.toNat ha
  have hl : vs.toList.length = ns.length := by rw [r.length]; simp [PI]
  refine wpAny_getItem_list il₁.isList h0 (by lia) (by simpa using e1) ?_
  refine h₁ s₁ O _ E (S.ext x₁) fun b t' s₂ x₂ h₂ => PySem.P.isub_int ?_
  have x₃ := (x₁.trans x₂).trans (Ext.tok s₂ (s₂.toks + 1))
  have il₃ := isList_keeps il x₃.keep
  obtain ⟨n₃, e₃⟩ := id il₃
  refine ki_setAt (n := n₃) e₃ h0 (by lia) (by rw [← Array.length_toList, hl]; exact h1) ?_
  have hs' := Heap.SameBut.update (s₂.heap) D (Obj.mapSeq (·.setIfInBounds a.toNat (.int (ns.getD a.toNat 0 - b) s₂.toks)))
  have hl' : (s₂.heap.update D (Obj.mapSeq (·.setIfInBounds a.toNat (.int (ns.getD a.toNat 0 - b) s₂.toks)))).PlainList D (vs.setIfInBounds a.toNat (.int (ns.getD a.toNat 0 - b) s₂.toks)) := ⟨_, IsL.update (n := n₃) e₃ _⟩
  rw [← hg']
  generalize s₂.heap.update D (Obj.mapSeq (·.setIfInBounds a.toNat (.int (ns.getD a.toNat 0 - b) s₂.toks))) = h' at hs' hl' ⊢
  refine hN _ O _ ⟨fun c o ec _ _ hc => (hs'.2 c fun q => hc x (q ▸ hm)).trans (x₃.keep c o ec), ?_⟩ (Grow.refl _ _) ?_ h₂
  · obtain ⟨hh, tk, e3⟩ := x₃.same
    exact ⟨h', tk, by have := congrArg (fun z : Shared => ({ z with heap := h' } : Shared)) e3; simpa using this⟩
  · refine (S.ext x₃).mut hm (bd.keeps x₃.keep) hs' il₃ hl' (as := []) ?_ (fun _ h => nomatch h)
    exact pi_set (r.keeps x₃.keep) a.toNat ha _ _
end

def IterAt (O : Owns) (h : Heap) (it : Addr) (ds : List PyData) : Prop :=
  (∃ l i vs as, h.IsListIter it l i ∧ h.PlainList l vs ∧ RdAll h (vs.toList.drop i) ds as ∧ (∀ y, (y, l) ∉ O) ∧ ∀ a ∈ as, ∀ y, (y, a) ∉ O) ∨
  (∃ (x : Int) (n : Nat), IsRangeIter h it x n 1 ∧ ds = (List.range n).map fun i => PyData.int (x + (i : Nat)))

theorem iter_fields {O : Owns} {h : Heap} {it : Addr} {ds : List PyData} (i : IterAt O h it ds) : ∃ o vs, h.get? it = some o ∧ o.data = .fields vs := by
  rcases i with ⟨l, i, vs, as, ⟨o, ho, _, hd⟩, _⟩ | ⟨x, n, hr, _⟩
  · exact ⟨o, _, ho, hd⟩
  · exact ⟨_, _, hr, rfl⟩
theorem iter_not_list {O : Owns} {h : Heap} {it : Addr} {ds : List PyData} (i : IterAt O h it ds) (vs : Array Value) : ¬ h.PlainList it vs := fun ⟨k, ho⟩ => by
  obtain ⟨o', vs', ho', hd'⟩ := iter_fields i
  rw [ho] at ho'; cases ho'
  cases hd'
theorem iter_not_ns {O : Owns} {h : Heap} {it : Addr} {ds : List PyData} (i : IterAt O h it ds) {mr : Str → Option Value} : ¬ h.Ns it mr := fun ⟨o, es, ep, ho, hd, _⟩ => by
  obtain ⟨o', vs', ho', hd'⟩ := iter_fields i
  rw [ho] at ho'; cases ho'
  rw [hd] at hd'; cases hd'
theorem iter_not_cell {O : Owns} {h : Heap} {it : Addr} {ds : List PyData} (i : IterAt O h it ds) {v : Option Value} : ¬ h.IsCell it v := fun ⟨o, ho, hd⟩ => by
  obtain ⟨o', vs', ho', hd'⟩ := iter_fields i
  rw [ho] at ho'; cases ho'
  rw [hd] at hd'; cases hd'

section
variable {p : Program} {w : World} {h₀ : Heap} {A : Around} {env : Env} {m : Locs} {N : Locs → Prop} {T : PyData → Prop}

theorem IterAt.pres {O O' : Owns} {s s' : Shared} {it : Addr} {ds : List PyData} (i : IterAt O s.heap it ds) (S : St h₀ env O m s.heap) (a : Pres env O s s') (g : Grow s O O') : IterAt O' s'.heap it ds := by
  have keepL : ∀ l vs, s.heap.PlainList l vs → (∀ y, (y, l) ∉ O) → ∀ o, s.heap.get? l = some o → s'.heap.get? l = some o := fun l vs il no o ho =>
    a.keep l o ho (fun q => by obtain ⟨mr, n⟩ := S.frame; exact ns_not_list n vs (q ▸ il)) (fun x hx => by obtain ⟨v, c⟩ := S.cells x l hx; exact cell_not_list c vs il) no
  have keepI : ∀ o, s.heap.get? it = some o → s'.heap.get? it = some o := fun o ho =>
    a.keep it o ho (fun q => by obtain ⟨mr, n⟩ := S.frame; exact iter_not_ns i (q ▸ n)) (fun x hx => by obtain ⟨v, c⟩ := S.cells x it hx; exact iter_not_cell i c) fun x hx => by obtain ⟨vs, il⟩ := S.lists x it hx; exact iter_not_list i vs il
  have noO : ∀ l vs, s.heap.PlainList l vs → (∀ y, (y, l) ∉ O) → ∀ y, (y, l) ∉ O' := fun l vs il no y hy => by
    rcases g y l hy with ⟨z, hz⟩ | q
    · exact no z hz
    · obtain ⟨k, ho⟩ := il; rw [q] at ho; cases ho
  rcases i with ⟨l, i, vs, as, ⟨o, ho, r1⟩, il, r, no, na⟩ | ⟨x, n, hr, e⟩
  · refine .inl ⟨l, i, vs, as, ⟨o, keepI o ho, r1⟩, il.at (keepL l vs il no), r.at fun b hb ob hob => ?_, noO l vs il no, fun b hb => ?_⟩
    · obtain ⟨vs', il'⟩ := r.lists b hb
      exact keepL b vs' il' (na b hb) ob hob
    · obtain ⟨vs', il'⟩ := r.lists b hb
      exact noO b vs' il' (na b hb)
  · exact .inr ⟨x, n, keepI _ hr, e⟩

theorem next_item {O : Owns} {s : Shared} {E : Value → Shared → Prop} {it : Addr} {d : PyData} {ds : List PyData} {Q : Option Value → Shared → Prop} (i : IterAt O s.heap it (d :: ds))
    (hQ : ∀ v as h' tk, Heap.SameBut it s.heap h' → IterAt O h' it ds → Rd h' v d as → (∀ a ∈ as, ∀ y, (y, a) ∉ O) → Q (some v) { s with heap := h', toks := tk }) : wpAny (model p w) A (pyNext (.ref it)) Q E s := by
  rcases id i with ⟨l, j, vs, as, hit, il, r, no, na⟩ | ⟨x, n, hr, e⟩
  · generalize hvs : vs.toList.drop j = tl at r
    cases r with
    | cons rv rr =>
      rename_i v vs' as' bs
      have hj : vs.toList[j]? = some v := by
        have := congrArg (fun l => l[0]?) hvs
        simpa using this
      have hd' : vs.toList.drop (j + 1) = vs' := by
        have := congrArg List.tail hvs
        simpa using this
      refine wpAny_pyNext_list_item hit il.isList (by simpa using hj) fun h' hit' hs' => ?_
      have keep : ∀ b vb, s.heap.PlainList b vb → ∀ o, s.heap.get? b = some o → h'.get? b = some o := fun b vb ib o ho => (hs'.2 b fun q => iter_not_list i vb (q ▸ ib)).trans ho
      refine hQ v as' h' s.toks hs' (.inl ⟨l, j + 1, vs, bs, hit', ?_, ?_, no, fun a ha => na a (List.mem_append_right _ ha)⟩) (rv.at fun b hb o ho => ?_) fun a ha => na a (List.mem_append_left _ ha)
      · exact il.at (keep l vs il)
      · rw [hd']
        exact rr.at fun b hb o ho => by obtain ⟨vb, ib⟩ := rr.lists b hb; exact keep b vb ib o ho
      · obtain ⟨vb, ib⟩ := rv.lists b hb
        exact keep b vb ib o ho
  · cases n with
    | zero => cases e
    | succ n =>
      rw [List.range_succ_eq_map, List.map_cons, List.map_map] at e
      obtain ⟨e1, e2⟩ := List.cons.inj e
      subst e1
      refine wpAny_pyNext_range_item hr (by lia) fun h' hr' hs' => ?_
      have ex : x + ((0 : Nat) : Int) = x := by simp
      refine hQ _ [] h' _ hs' (.inr ⟨x + 1, n, ?_, ?_⟩) (by rw [ex]; exact .int x s.toks) (fun _ h => nomatch h)
      · have : ((n + 1 : Nat) : Int) - 1 = (n : Nat) := by lia
        rw [this] at hr'; exact hr'
      · rw [e2]
        refine List.map_congr_left fun k _ => ?_
        simp only [Function.comp]
        congr 1
        lia
theorem next_none {O : Owns} {s : Shared} {E : Value → Shared → Prop} {it : Addr} {Q : Option Value → Shared → Prop} (hh : A.handled = none) (i : IterAt O s.heap it [])
    (hQ : ∀ h', Heap.ExtBut it s.heap h' → Q none { s with heap := h' }) : wpAny (model p w) A (pyNext (.ref it)) Q E s := by
  rcases id i with ⟨l, j, vs, as, hit, il, r, no, na⟩ | ⟨x, n, hr, e⟩
  · generalize hvs : vs.toList.drop j = tl at r
    cases r
    have hj : vs.toList[j]? = none := by
      have := congrArg (fun l => l[0]?) hvs
      simpa using this
    exact wpAny_pyNext_list_end hh hit il.isList (by simpa using hj) hQ
  · cases n with
    | zero => exact wpAny_pyNext_range_end hh hr (by simp) hQ
    | succ n => rw [List.range_succ_eq_map] at e; cases e

theorem St.iter {O : Owns} {h h' : Heap} {it : Addr} {ds : List PyData} (S : St h₀ env O m h) (i : IterAt O h it ds) (hn : h₀.get? it = none) (hs : Heap.ExtBut it h h') : St h₀ env O m h' := by
  refine S.turn hs hn ?_ (fun x c hc => ?_) (iter_not_list i) m fun x l e => ?_
  · obtain ⟨mr, n⟩ := S.frame
    exact ⟨mr, n.extBut hs fun q => iter_not_ns i (q ▸ n)⟩
  · obtain ⟨v, o, ho, hd⟩ := S.cells x c hc
    exact ⟨v, o, hs c o (fun q => iter_not_cell (v := v) i ⟨o, q ▸ ho, hd⟩) ho, hd⟩
  · obtain ⟨v, bd, r⟩ := S.vars x l e
    refine ⟨v, ?_, r⟩
    rcases bd with ⟨k, mr, n, e'⟩ | ⟨k, c, hc, o, ho, hd⟩
    · exact .inl ⟨k, mr, n.extBut hs fun q => iter_not_ns i (q ▸ n), e'⟩
    · exact .inr ⟨k, c, hc, o, hs c o (fun q => iter_not_cell (v := some v) i ⟨o, q ▸ ho, hd⟩) ho, hd⟩

def It (p : Program) (w : World) (h₀ : Heap) (A : Around) (env : Env) (m : Locs) (e : Expr) (k : List PyData → Prop) : Prop :=
  ∀ (s : Shared) (O : Owns) (Q : Value → Shared → Prop) (E : Value → Shared → Prop), St h₀ env O m s.heap →
    (∀ it ds s', Ext s s' → s.heap.get? it = none → IterAt O s'.heap it ds → k ds → Q (.ref it) s') →
    wpAny (model p w) A (eval e env) (fun x s₁ => wpAny (model p w) A (pyIter x) Q E s₁) E s

def ForW (p : Program) (w : World) (h₀ : Heap) (A : Around) (env : Env) (x : Str) (body : List Stmt) (N : Locs → Prop) (T : PyData → Prop) : List PyData → Locs → Prop
  | [], m => N m
  | d :: ds, m => Ex p w h₀ A env (st m x (.val d)) body (fun m' => ForW p w h₀ A env x body N T ds m') T

theorem x1_for {x : Str} {px pos : Pos} {e : Expr} {body : List Stmt} (hh : A.handled = none) (hk : env.scope.kind = .function) (hx : Stored env x)
    (h : It p w h₀ A env m e fun ds => ForW p w h₀ A env x body N T ds m) (hs : ∀ x, foldedSetIterable e env x = pure x := by intro _; rfl) :
    X1 p w h₀ A env m (.For (.Name x px) e body [] pos) N T := fun s O Q E S hN hT => by
  refine wpAny_For (h s O _ E S fun it ds s₁ x₁ hnew hit hf => ?_) hs
  have hg0 : h₀.get? it = none := by
    cases q : h₀.get? it with
    | none => rfl
    | some o => rw [S.ground it o q] at hnew; cases hnew
  refine codeAny_forLoop (fun n s' => ∃ ds m' O', n = ds.length + 1 ∧ Pres env O s s' ∧ Grow s O O' ∧ St h₀ env O' m' s'.heap ∧ IterAt O' s'.heap it ds ∧ ForW p w h₀ A env x body N T ds m')
    (fun n s₂ hI => ?_) (ds.length + 1) ⟨ds, m, O, rfl, x₁.pres env O, Grow.refl _ _, S.ext x₁, hit, hf⟩
  obtain ⟨ds, m', O', rfl, pr, g, S', it', hf⟩ := hI
  cases ds with
  | nil =>
    refine next_none hh it' fun h' hs' => wpAny_execs_nil ?_
    refine hN m' O' _ ⟨fun b o e h1 h2 h3 => hs' b o (fun q => by rw [q, hnew] at e; cases e) (pr.keep b o e h1 h2 h3), ?_⟩ g (S'.iter it' hg0 hs') hf
    obtain ⟨h1, tk, rfl⟩ := pr.same
    exact ⟨h', tk, rfl⟩
  | cons d ds =>
    refine next_item it' fun v as h' tk hs' it₂ rv nv => ?_
    have S₂ : St h₀ env O' m' h' := S'.iter it' hg0 hs'.extBut
    have pr₂ : Pres env O s { s₂ with heap := h', toks := tk } := by
      refine ⟨fun b o e h1 h2 h3 => hs'.extBut b o (fun q => by rw [q, hnew] at e; cases e) (pr.keep b o e h1 h2 h3), ?_⟩
      obtain ⟨h1, tk, rfl⟩ := pr.same
      exact ⟨h', _, rfl⟩
    refine wpAny_assign_Name (store_any (l := .val d) (s := { s₂ with heap := h', toks := tk }) hk hx S₂ ⟨as, rv, nv⟩ fun s₃ pr₃ S₃ => ?_)
    have it₃ := IterAt.pres (s := { s₂ with heap := h', toks := tk }) it₂ S₂ pr₃ (Grow.refl _ _)
    have pr₃' := pr₂.trans (h₀ := h₀) g pr₃
    refine hf s₃ O' _ _ S₃ (fun m'' O'' s₄ pr₄ g₄ S₄ hk' => ⟨ds.length + 1, by simp, ds, m'', O'', rfl, pr₃'.trans (h₀ := h₀) g pr₄, g.trans pr₃' S₃ g₄, S₄, it₃.pres S₃ pr₄ g₄, hk'⟩) fun v d as s₄ pr₄ r f t => ?_
    exact hT v d as s₄ (pr₃'.trans (h₀ := h₀) g pr₄) r (ret_back pr₃' g S₃ f) t

def WhW (p : Program) (w : World) (h₀ : Heap) (A : Around) (env : Env) (t : Expr) (body : List Stmt) (N : Locs → Prop) (T : PyData → Prop) : Nat → Locs → Prop
  | 0, _ => False
  | n + 1, m => Tst p w h₀ A env m t fun b => if b then Ex p w h₀ A env m body (fun m' => WhW p w h₀ A env t body N T n m') T else N m

theorem x1_while {t : Expr} {pos : Pos} {body : List Stmt} (n : Nat) (h : WhW p w h₀ A env t body N T n m) : X1 p w h₀ A env m (.While t body [] pos) N T := fun s O Q E S hN hT => by
  refine wpAny_While (codeAny_whileLoop (fun n s' => ∃ m' O', Pres env O s s' ∧ Grow s O O' ∧ St h₀ env O' m' s'.heap ∧ WhW p w h₀ A env t body N T n m') (fun n s₂ hI => ?_) n ⟨m, O, (Ext.refl s).pres env O, Grow.refl _ _, S, h⟩)
  obtain ⟨m', O', pr, g, S', hw⟩ := hI
  cases n with
  | zero => exact hw.elim
  | succ n =>
    refine hw s₂ O' _ _ S' fun b s₃ x₃ hb => ?_
    have S₃ := S'.ext x₃
    have pr₃ := pr.trans (h₀ := h₀) g (x₃.pres env O')
    cases b with
    | true =>
      refine hb s₃ O' _ _ S₃ (fun m'' O'' s₄ pr₄ g₄ S₄ hk' => ⟨n, Nat.lt_succ_self n, m'', O'', pr₃.trans (h₀ := h₀) g pr₄, g.trans pr₃ S₃ g₄, S₄, hk'⟩) fun v d as s₄ pr₄ r f t => ?_
      exact hT v d as s₄ (pr₃.trans (h₀ := h₀) g pr₄) r (ret_back pr₃ g S₃ f) t
    | false => exact wpAny_execs_nil (hN m' O' s₃ pr₃ g S₃ hb)
end

structure EnvOk (env : Env) : Prop where
  kind : env.scope.kind = .function
  glob : env.globals = mainGlobals
  blt : env.builtins = builtinsNs

def Bi (h₀ : Heap) (x : Str) (v : Value) : Prop := ∃ mg mb, h₀.Ns mainGlobals mg ∧ mg x = none ∧ h₀.Ns builtinsNs mb ∧ mb x = some v
def Gl (h₀ : Heap) (x : Str) (v : Value) : Prop := ∃ mg, h₀.Ns mainGlobals mg ∧ mg x = some v

section
variable {p : Program} {w : World} {h₀ : Heap} {A : Around} {env : Env} {m : Locs} {N : Locs → Prop} {T : PyData → Prop}

theorem St.noO {O : Owns} {h : Heap} (S : St h₀ env O m h) {a : Addr} (e : h.get? a = none) (x : Str) : (x, a) ∉ O := fun hm => by
  obtain ⟨vs, n, ho⟩ := S.lists x a hm
  rw [e] at ho; cases ho
theorem foot_fresh {O : Owns} {s : Shared} (S : St h₀ env O m s.heap) (c : Cls) {a : Addr} (e : s.heap.get? a = none) : Foot O s c a := by
  cases c with
  | any => trivial
  | plain => exact S.noO e
  | ret => exact .inl e
  | fresh => exact e

def EvP (p : Program) (w : World) (h₀ : Heap) (A : Around) (env : Env) (m : Locs) (e : Expr) (k : List Int → Prop) : Prop :=
  ∀ (s : Shared) (O : Owns) (Q : Value → Shared → Prop) (E : Value → Shared → Prop), St h₀ env O m s.heap →
    (∀ a vs ns s', Ext s s' → s'.heap.PlainList a vs → RdAll s'.heap vs.toList (PI ns) [] → k ns → Q (.ref a) s') → wpAny (model p w) A (eval e env) Q E s

theorem ev_new {c : Cls} {e : Expr} {k : PyData → Prop} (h : EvN p w h₀ A env m e fun ds => k (.list ds)) : Ev p w h₀ A env c m e k := fun s O Q E S hQ =>
  h s O Q E S fun a vs as ds s' x hn i r f hk => hQ _ _ _ s' x (.list i r) (fun b hb => by
    rcases List.mem_cons.mp hb with rfl | hb
    · exact foot_fresh S c hn
    · exact foot_fresh S c (f b hb).1) hk
theorem evP_new {e : Expr} {k : List Int → Prop} (h : EvN p w h₀ A env m e fun ds => ∃ ns, ds = PI ns ∧ k ns) : EvP p w h₀ A env m e k := fun s O Q E S hQ =>
  h s O Q E S fun a vs as ds s' x hn i r f ⟨ns, e, hk⟩ => by
    subst e
    obtain ⟨rfl, _⟩ := r.ofPI
    exact hQ _ _ _ s' x i r hk
theorem evP_name {x : Str} {pos : Pos} {l : Loc} {ns : List Int} {k : List Int → Prop} (ok : EnvOk env) (hx : gt m x = some l) (hl : l.data = .list (PI ns)) (h : k ns) (hd : (x == ("__debug__" : Str)) = false := by decide) :
    EvP p w h₀ A env m (.Name x pos) k := fun s O Q E S hQ => by
  obtain ⟨v, b, r⟩ := S.vars x _ hx
  obtain ⟨as, r⟩ := locRel_reads r
  rw [hl] at r
  cases r with
  | list i q =>
    obtain ⟨rfl, _⟩ := q.ofPI
    exact load_bound ok.kind b (hQ _ _ _ _ (Ext.refl s) i q h) hd

theorem size_pi {h : Heap} {vs : Array Value} {ns : List Int} {as : List Addr} (r : RdAll h vs.toList (PI ns) as) : vs.size = ns.length := by
  rw [← Array.length_toList, r.length]; simp [PI]
theorem size_ds {h : Heap} {vs : Array Value} {ds : List PyData} {as : List Addr} (r : RdAll h vs.toList ds as) : vs.size = ds.length := by
  rw [← Array.length_toList, r.length]

theorem evI_item {b i : Expr} {pos : Pos} {k : Int → Prop} (h : EvP p w h₀ A env m b fun ns => EvI p w h₀ A env m i fun a => (0 ≤ a ∧ a < ns.length ∧ (ns.length : Int) < 2 ^ 63) ∧ k (ns.getD a.toNat 0))
    (hs : ∀ l x u, subscripted i false (.ref l) (.int x u) = operate [.ref l, .int x u] (getItem (.ref l) (.int x u)) := by intros; with_unfolding_all rfl) :
    EvI p w h₀ A env m (.Subscript b i pos) k := fun s O Q E S hQ =>
  Subscript_ (h s O _ E S fun l vs ns s₁ x₁ il r h₁ => h₁ s₁ O _ E (S.ext x₁) fun a t s₂ x₂ ⟨⟨h0, h1, h2⟩, hk⟩ => by
    have il₂ := isList_keeps il x₂.keep
    have ha : a.toNat < ns.length := by lia
    obtain ⟨_, f⟩ := r.ofPI
    obtain ⟨u, e⟩ := f a.toNat ha
    have hg : ns.getD a.toNat 0 = ns[a.toNat] := by simp [List.getD, ha]
    rw [hg] at hk
    exact tail_any il₂.isList.typeIs slot_list_getitem.lookup (wpAny_getItem_list il₂.isList h0 (by lia) (by simpa using e) (hQ _ _ _ (x₁.trans x₂) hk)) (hs l a t))

def EvS (p : Program) (w : World) (h₀ : Heap) (A : Around) (env : Env) (c : Cls) (m : Locs) (pos : Pos) (es : List Expr) (k : List PyData → Prop) : Prop :=
  ∀ (s : Shared) (O : Owns) (Q : List Value → Shared → Prop) (E : Value → Shared → Prop), St h₀ env O m s.heap →
    (∀ vs ds as s', Ext s s' → RdAll s'.heap vs ds as → (∀ a ∈ as, Foot O s c a) → k ds → Q vs s') → wpAny (model p w) A (spliced (backTo pos (starEach es env))) Q E s
theorem evS_nil {c : Cls} {pos : Pos} {k : List PyData → Prop} (h : k []) : EvS p w h₀ A env c m pos [] k := fun s O Q E S hQ => spliced_none (hQ [] [] [] s (Ext.refl s) .nil (fun _ h => nomatch h) h)
theorem foot_back {O : Owns} {s s' : Shared} (x : Ext s s') {c : Cls} {a : Addr} (h : Foot O s' c a) : Foot O s c a := by
  cases c with
  | any => trivial
  | plain => exact h
  | ret => exact h.imp x.fresh id
  | fresh => exact x.fresh h
theorem evS_cons {c : Cls} {pos : Pos} {e : Expr} {es : List Expr} {k : List PyData → Prop} (h : Ev p w h₀ A env c m e fun d => EvS p w h₀ A env c m pos es fun ds => k (d :: ds))
    (he : starEach (e :: es) env = (false, eval e env) :: starEach es env := by rfl) : EvS p w h₀ A env c m pos (e :: es) k := fun s O Q E S hQ =>
  spliced_more (h s O _ E S fun v d as s₁ x₁ r f h₁ => h₁ s₁ O _ E (S.ext x₁) fun vs ds bs s₂ x₂ q g hk => hQ _ _ _ s₂ (x₁.trans x₂) (.cons (r.keeps x₂.keep) q) (fun a ha => by
    rcases List.mem_append.mp ha with ha | ha
    · exact f a ha
    · exact foot_back x₁ (g a ha)) hk) he

theorem new_plain (h : Heap) (vs : List Value) : (h.push { cls := .type "list", data := .seq vs.toArray }).PlainList h.objs.size vs.toArray := ⟨0, Heap.get?_push_size _ rfl⟩
theorem size_none (h : Heap) : h.get? h.objs.size = none := by
  cases q : h.get? h.objs.size with
  | none => rfl
  | some o => exact absurd (Heap.lt_size q) (Nat.lt_irrefl _)
theorem size_ne {h : Heap} {a : Addr} {vs : Array Value} (i : h.PlainList a vs) : a ≠ h.objs.size := fun q => by
  obtain ⟨n, e⟩ := i
  rw [q, size_none] at e; cases e

theorem evN_disp {es : List Expr} {pos : Pos} {k : List PyData → Prop} (h : EvS p w h₀ A env .fresh m pos es fun ds => ds.length ≤ sizeLine ∧ k ds) : EvN p w h₀ A env m (.List es pos) k := fun s O Q E S hQ =>
  List_ (h s O _ E S fun vs ds as s₁ x₁ r f ⟨hz, hk⟩ => wpAny_newObj_type (hQ _ vs.toArray as ds { s₁ with heap := s₁.heap.push { cls := .type "list", data := .seq vs.toArray } } (x₁.push _ s₁.toks) (x₁.fresh (size_none _)) (new_plain _ _) ((show RdAll s₁.heap vs.toArray.toList ds as from r).keeps fun _ _ e => Heap.get?_push_of_some _ e) (fun b hb => ⟨f b hb, fun q => by
    obtain ⟨vb, ib⟩ := r.lists b hb
    exact size_ne ib q⟩) hk) (by show vs.toArray.size ≤ sizeLine; rw [List.size_toArray, r.length]; exact hz))
theorem ev_disp {c : Cls} {es : List Expr} {pos : Pos} {k : PyData → Prop} (h : EvS p w h₀ A env c m pos es fun ds => ds.length ≤ sizeLine ∧ k (.list ds)) : Ev p w h₀ A env c m (.List es pos) k := fun s O Q E S hQ =>
  List_ (h s O _ E S fun vs ds as s₁ x₁ r f ⟨hz, hk⟩ => wpAny_newObj_type (hQ _ _ _ { s₁ with heap := s₁.heap.push { cls := .type "list", data := .seq vs.toArray } } (x₁.push _ s₁.toks) (.list (new_plain _ _) ((show RdAll s₁.heap vs.toArray.toList ds as from r).keeps fun _ _ e => Heap.get?_push_of_some _ e)) (fun b hb => by
    rcases List.mem_cons.mp hb with rfl | hb
    · exact foot_fresh S c (x₁.fresh (size_none _))
    · exact f b hb) hk) (by show vs.toArray.size ≤ sizeLine; rw [List.size_toArray, r.length]; exact hz))

theorem evN_add {l r : Expr} {pos : Pos} {k : List PyData → Prop} (h : EvP p w h₀ A env m l fun ns => EvP p w h₀ A env m r fun ms => ns.length + ms.length ≤ sizeLine ∧ k (PI (ns ++ ms))) : EvN p w h₀ A env m (.BinOp l .Add r pos) k := fun s O Q E S hQ =>
  wpAny_BinOp (h s O _ E S fun a vs ns s₁ x₁ i q h₁ => h₁ s₁ O _ E (S.ext x₁) fun b vs' ms s₂ x₂ i' q' ⟨hz, hk⟩ => by
    obtain ⟨n1, e1⟩ := isList_keeps i x₂.keep
    obtain ⟨n2, e2⟩ := id i'
    refine PySem.P.add_list (n := n1) (n2 := n2) e1 e2 ?_ (by rw [size_pi q, size_pi q']; exact hz)
    refine hQ _ (vs ++ vs') [] _ { s₂ with heap := s₂.heap.push { cls := .type "list", data := .seq (vs ++ vs') } } ((x₁.trans x₂).push _ s₂.toks) ((x₁.trans x₂).fresh (size_none _)) ⟨0, Heap.get?_push_size _ rfl⟩ ?_ (fun _ h => nomatch h) hk
    have q1 := (q.ofPI).2
    have q2 := (q'.ofPI).2
    have l1 := size_pi q
    have l2 := size_pi q'
    refine rdAll_of_ints _ _ (by simp [l1, l2]) fun i hi => ?_
    by_cases hc : i < ns.length
    · obtain ⟨t, e⟩ := q1 i hc
      exact ⟨t, by rw [Array.toList_append, List.getElem?_append_left (by simpa [l1] using hc), e, List.getElem_append_left hc]⟩
    · have hi' : i - ns.length < ms.length := by simp at hi; lia
      obtain ⟨t, e⟩ := q2 (i - ns.length) hi'
      refine ⟨t, ?_⟩
      rw [Array.toList_append, List.getElem?_append_right (by simp [l1]; lia), List.getElem_append_right (by lia)]
      simpa [l1] using e)

theorem pi_replicate {h : Heap} {ns : List Int} {vs : Array Value} (r : RdAll h vs.toList (PI ns) []) : ∀ n : Nat, ∃ zs : List Value, (List.foldl (fun x1 x2 => x1 ++ x2) #[] (List.replicate n vs)).toList = zs ∧ RdAll h zs (PI (List.replicate n ns).flatten) [] := by
  have app : ∀ {us us' : List Value} {ms ms' : List Int}, RdAll h us (PI ms) [] → RdAll h us' (PI ms') [] → RdAll h (us ++ us') (PI (ms ++ ms')) [] := by
    intro us us' ms ms' a b
    obtain ⟨_, fa⟩ := a.ofPI
    obtain ⟨_, fb⟩ := b.ofPI
    have la : us.length = ms.length := by rw [a.length]; simp [PI]
    have lb : us'.length = ms'.length := by rw [b.length]; simp [PI]
    refine rdAll_of_ints _ _ (by simp [la, lb]) fun i hi => ?_
    by_cases hc : i < ms.length
    · obtain ⟨t, e⟩ := fa i hc
      exact ⟨t, by rw [List.getElem?_append_left (by lia), e, List.getElem_append_left hc]⟩
    · have hi' : i - ms.length < ms'.length := by simp at hi; lia
      obtain ⟨t, e⟩ := fb (i - ms.length) hi'
      refine ⟨t, ?_⟩
      rw [List.getElem?_append_right (by lia), List.getElem_append_right (by lia), la, e]
  have gen : ∀ (n : Nat) (acc : Array Value) (ms : List Int), RdAll h acc.toList (PI ms) [] → RdAll h (List.foldl (fun x1 x2 => x1 ++ x2) acc (List.replicate n vs)).toList (PI (ms ++ (List.replicate n ns).flatten)) [] := by
    intro n
    induction n with
    | zero => intro acc ms a; simpa using a
    | succ n ih =>
      intro acc ms a
      rw [List.replicate_succ, List.foldl_cons, List.replicate_succ, List.flatten_cons, ← List.append_assoc]
      refine ih _ _ ?_
      rw [Array.toList_append]
      exact app a r
  exact fun n => ⟨_, rfl, by simpa using gen n #[] [] .nil⟩

theorem evN_mul {l r : Expr} {pos : Pos} {k : List PyData → Prop} (h : EvP p w h₀ A env m l fun ns => EvI p w h₀ A env m r fun n => (ns ≠ [] ∧ 0 ≤ n ∧ n < 2 ^ 63 ∧ ns.length * n.toNat ≤ 2 ^ 24) ∧ k (PI (List.replicate n.toNat ns).flatten)) : EvN p w h₀ A env m (.BinOp l .Mult r pos) k := fun s O Q E S hQ =>
  wpAny_BinOp (h s O _ E S fun a vs ns s₁ x₁ i q h₁ => h₁ s₁ O _ E (S.ext x₁) fun n u s₂ x₂ ⟨⟨hne, h0, h1, hz⟩, hk⟩ => by
    obtain ⟨n1, e1⟩ := isList_keeps i x₂.keep
    have sz := size_pi q
    have he : vs.isEmpty = false := by
      cases ns with
      | nil => exact absurd rfl hne
      | cons z zs => simp [Array.isEmpty, sz]
    refine wpAny_binaryOp_repeat_ref (T := "list") (U := "int") (by decide) ⟨_, e1, rfl⟩ (fun s' => typeIs_int s' n u) noFill_list_mul F.fills_int_mul F.slot_int_rmul repeat_list F.slot_int_index.lookup
      (call_meets F.slot_int_rmul (typeIs_int _ n u) F.entry_int_rmul (F.args_int_rmul_2 _ _) (int___rmul___int_list n u a vs n1)
        ⟨e1, rfl, ⟨_, e1, rfl⟩, call_meets F.slot_list_mul ⟨_, e1, rfl⟩ F.entry_list_mul (F.args_list_mul_2 _ _)
          (AutoListH.list___mul___list_int_3 a vs n1 n u (by simp [Builtin.List.listFitsIndex]; lia) (by rw [sz]; lia) (by simp [Builtin.List.listTooLong, sizeLine]; rw [sz]; lia))
          ⟨e1, ?_⟩⟩)
    obtain ⟨zs, ez, rz⟩ := pi_replicate (q.keeps x₂.keep) n.toNat
    refine hQ _ (List.foldl (fun x1 x2 => x1 ++ x2) #[] (List.replicate (if vs.isEmpty = true then 0 else n.toNat) vs)) [] _ { s₂ with heap := s₂.heap.push { cls := .type "list", data := .seq (List.foldl (fun x1 x2 => x1 ++ x2) #[] (List.replicate (if vs.isEmpty = true then 0 else n.toNat) vs)) } } ((x₁.trans x₂).push _ s₂.toks) ((x₁.trans x₂).fresh (size_none _)) ⟨0, Heap.get?_push_size _ rfl⟩ ?_ (fun _ h => nomatch h) hk
    rw [he]
    simp only [Bool.false_eq_true, if_false]
    rw [ez]
    exact rz.keeps fun _ _ e => Heap.get?_push_of_some _ e)
end

section
variable {p : Program} {w : World} {h₀ : Heap} {A : Around} {env : Env} {m : Locs} {N : Locs → Prop} {T : PyData → Prop}

-- slices
theorem slice_at {b : Expr} {lo hi stp : Option Expr} {sp pos : Pos} {s : Shared} {E : Value → Shared → Prop} {Q : Value → Shared → Prop}
    (h : wpAny (model p w) A (eval b env) (fun o s₁ => wpAny (model p w) A (evalPart lo env) (fun vl s₂ => wpAny (model p w) A (evalPart hi env) (fun vu s₃ => wpAny (model p w) A (evalPart stp env) (fun vt s₄ =>
      ∃ l vs xl xh xt, o = .ref l ∧ s₄.heap.PlainList l vs ∧ vs.size ≤ sizeLine ∧ IsPart vl xl ∧ IsPart vu xh ∧ IsPart vt xt ∧ xt ≠ some 0 ∧
        Q (.ref (s₄.heap.objs.size + 1)) { s₄ with heap := (s₄.heap.push { cls := .type "slice", data := .fields #[vl, vu, vt] }).push { cls := .type "list", data := .seq (slicePick vs xl xh xt) } }) E s₃) E s₂) E s₁) E s)
    (hs : ∀ a c, ∃ ops, subscripted (.Slice lo hi stp sp) false (.ref a) (.ref c) = operate ops (getItem (.ref a) (.ref c))) :
    wpAny (model p w) A (eval (.Subscript b (.Slice lo hi stp sp) pos) env) Q E s := by
  refine Subscript_ (wpAny_mono h (fun o s₁ h₁ => wpAny_Slice (wpAny_mono h₁ (fun vl s₂ h₂ => wpAny_mono h₂ (fun vu s₃ h₃ => wpAny_mono h₃ (fun vt s₄ h₄ => ?_) fun _ _ x => x) fun _ _ x => x) fun _ _ x => x)) fun _ _ x => x)
  obtain ⟨l, vs, xl, xh, xt, rfl, il, hz, pl, ph, pt, h0, hQ⟩ := h₄
  obtain ⟨ops, e⟩ := hs l s₄.heap.objs.size
  have il' : (s₄.heap.push { cls := .type "slice", data := .fields #[vl, vu, vt] }).IsList l vs := il.isList.push _
  refine tail_any (Heap.IsList.typeIs (s := { s₄ with heap := s₄.heap.push { cls := .type "slice", data := .fields #[vl, vu, vt] } }) il') slot_list_getitem.lookup (wpAny_getItem_list_slice il' (Heap.IsSliceOf.new ..) pl ph pt h0 ?_ hz) e
  rw [Heap.size_push]
  exact hQ
theorem slice_ext {s s' : Shared} (x : Ext s s') (o o' : Obj) : Ext s { s' with heap := (s'.heap.push o).push o' } := (x.push o s'.toks).push o' s'.toks
theorem slice_new {s s' : Shared} (x : Ext s s') : s.heap.get? (s'.heap.objs.size + 1) = none := x.fresh (by
  cases q : s'.heap.get? (s'.heap.objs.size + 1) with
  | none => rfl
  | some o => exact absurd (Heap.lt_size q) (Nat.not_lt.mpr (Nat.le_succ _)))
theorem slice_plain (h : Heap) (o : Obj) (vs : Array Value) : ((h.push o).push { cls := .type "list", data := .seq vs }).PlainList (h.objs.size + 1) vs := by
  have := Heap.get?_push_size (h.push o) (o := ({ cls := .type "list", data := .seq vs } : Obj)) rfl
  rw [Heap.size_push] at this
  exact ⟨0, this⟩

theorem evN_all {b : Expr} {sp pos : Pos} {k : List PyData → Prop} (h : EvP p w h₀ A env m b fun ns => ns.length ≤ sizeLine ∧ k (PI ns)) : EvN p w h₀ A env m (.Subscript b (.Slice none none none sp) pos) k := fun s O Q E S hQ =>
  slice_at (h s O _ E S fun a vs ns s₁ x₁ i q ⟨hz, hk⟩ => wpAny_evalPart_none (wpAny_evalPart_none (wpAny_evalPart_none ⟨a, vs, none, none, none, rfl, i, by rw [size_pi q]; exact hz, .none, .none, .none, by simp, by
    rw [slicePick_all]
    exact hQ _ vs [] (PI ns) _ (slice_ext x₁ _ _) (slice_new x₁) (slice_plain _ _ _) (q.keeps fun _ _ e => Heap.get?_push_of_some _ (Heap.get?_push_of_some _ e)) (fun _ h => nomatch h) hk⟩))) (fun _ _ => ⟨_, rfl⟩)
theorem evN_from {b lo : Expr} {sp pos : Pos} {k : List PyData → Prop} (h : EvP p w h₀ A env m b fun ns => EvI p w h₀ A env m lo fun a => (0 ≤ a ∧ ns.length ≤ sizeLine) ∧ k (PI (ns.drop a.toNat))) : EvN p w h₀ A env m (.Subscript b (.Slice (some lo) none none sp) pos) k := fun s O Q E S hQ =>
  slice_at (h s O _ E S fun a vs ns s₁ x₁ i q h₁ => wpAny_evalPart_some (h₁ s₁ O _ E (S.ext x₁) fun n t s₂ x₂ ⟨⟨h0, hz⟩, hk⟩ => wpAny_evalPart_none (wpAny_evalPart_none ⟨a, vs, some n, none, none, rfl, isList_keeps i x₂.keep, by rw [size_pi q]; exact hz, .int _ _, .none, .none, by simp, by
    have e : slicePick vs (some n) none none = (vs.toList.drop n.toNat).toArray := by
      have := slicePick_from' vs n.toNat
      rwa [show ((n.toNat : Nat) : Int) = n by lia] at this
    rw [e]
    refine hQ _ (vs.toList.drop n.toNat).toArray [] (PI (ns.drop n.toNat)) _ (slice_ext (x₁.trans x₂) _ _) (slice_new (x₁.trans x₂)) (slice_plain _ _ _) ?_ (fun _ h => nomatch h) hk
    obtain ⟨_, f⟩ := q.ofPI
    have hl := size_pi q
    refine rdAll_of_ints _ _ (by simp [hl]) fun j hj => ?_
    have hj' : n.toNat + j < ns.length := by simp at hj; lia
    obtain ⟨u, eu⟩ := f (n.toNat + j) hj'
    exact ⟨u, by simpa using eu⟩⟩))) (fun _ _ => ⟨_, rfl⟩)
theorem take_drop_min {α : Type} (l : List α) (n c : Nat) : (l.drop (min n l.length)).take (min c l.length - min n l.length) = (l.drop n).take (c - n) := by
  rcases Nat.le_total l.length n with h | h
  · rw [Nat.min_eq_right h, List.drop_eq_nil_of_le (Nat.le_refl _), List.drop_eq_nil_of_le h, List.take_nil, List.take_nil]
  · rw [Nat.min_eq_left h]
    rcases Nat.le_total c l.length with hc | hc
    · rw [Nat.min_eq_left hc]
    · rw [Nat.min_eq_right hc, List.take_of_length_le (by rw [List.length_drop]; exact Nat.le_refl _), List.take_of_length_le (by rw [List.length_drop]; exact Nat.sub_le_sub_right hc n)]
theorem min_nat {n : Int} (h : 0 ≤ n) (s : Nat) : min n (s : Int) = ((min n.toNat s : Nat) : Int) := by lia
theorem run_pick (vs : Array Value) {n c : Int} (h0 : 0 ≤ n) (h1 : 0 ≤ c) : slicePick vs (some n) (some c) none = ((vs.toList.drop n.toNat).take (c.toNat - n.toNat)).toArray := by
  have e : slicePick vs (some n) (some c) none = ((vs.toList.drop (min n.toNat vs.size)).take (min c.toNat vs.size - min n.toNat vs.size)).toArray := by
    refine kmk_pick_nat _ ?_
    simp only [sliceBounds, Option.getD_none, show (1 : Int) > 0 by decide, if_true, if_neg (Int.not_lt.mpr h0), if_neg (Int.not_lt.mpr h1), min_nat h0, min_nat h1, Int.max_eq_right (Int.natCast_nonneg _)]
  rw [e]
  congr 1
  rw [← Array.length_toList]
  exact take_drop_min vs.toList n.toNat c.toNat
theorem rdPI_drop {h : Heap} : ∀ (n : Nat) {vs : List Value} {ns : List Int}, RdAll h vs (PI ns) [] → RdAll h (vs.drop n) (PI (ns.drop n)) []
  | 0, _, _, r => r
  | n + 1, _, [], .nil => .nil
  | n + 1, _, a :: ns, r => by
    generalize hb : ([] : List Addr) = bs at r
    cases r with
    | cons rv rr =>
      cases rv
      simp at hb
      subst hb
      exact rdPI_drop n rr
theorem rdPI_take {h : Heap} : ∀ (n : Nat) {vs : List Value} {ns : List Int}, RdAll h vs (PI ns) [] → RdAll h (vs.take n) (PI (ns.take n)) []
  | 0, _, _, _ => .nil
  | n + 1, _, [], .nil => .nil
  | n + 1, _, a :: ns, r => by
    generalize hb : ([] : List Addr) = bs at r
    cases r with
    | cons rv rr =>
      cases rv
      simp at hb
      subst hb
      exact RdAll.cons (as := []) (.int _ _) (rdPI_take n rr)
theorem evN_run {b lo hi : Expr} {sp pos : Pos} {k : List PyData → Prop} (h : EvP p w h₀ A env m b fun ns => EvI p w h₀ A env m lo fun a => EvI p w h₀ A env m hi fun c => (0 ≤ a ∧ 0 ≤ c ∧ ns.length ≤ sizeLine) ∧ k (PI ((ns.drop a.toNat).take (c.toNat - a.toNat)))) : EvN p w h₀ A env m (.Subscript b (.Slice (some lo) (some hi) none sp) pos) k := fun s O Q E S hQ =>
  slice_at (h s O _ E S fun a vs ns s₁ x₁ i q h₁ => wpAny_evalPart_some (h₁ s₁ O _ E (S.ext x₁) fun n t s₂ x₂ h₂ => wpAny_evalPart_some (h₂ s₂ O _ E (S.ext (x₁.trans x₂)) fun c u s₃ x₃ ⟨⟨h0, h1, hz⟩, hk⟩ => wpAny_evalPart_none ⟨a, vs, some n, some c, none, rfl, isList_keeps i (x₂.trans x₃).keep, by rw [size_pi q]; exact hz, .int _ _, .int _ _, .none, by simp, by
    rw [run_pick vs h0 h1]
    have x := (x₁.trans x₂).trans x₃
    exact hQ _ _ [] (PI ((ns.drop n.toNat).take (c.toNat - n.toNat))) _ (slice_ext x _ _) (slice_new x) (slice_plain _ _ _) ((rdPI_take (c.toNat - n.toNat) (rdPI_drop n.toNat q)).at fun _ h => nomatch h) (fun _ h => nomatch h) hk⟩))) (fun _ _ => ⟨_, rfl⟩)

-- names of built-ins
theorem load_bi {s : Shared} {O : Owns} {E : Value → Shared → Prop} {x : Str} {pos : Pos} {v : Value} {Q : Value → Shared → Prop} (ok : EnvOk env) (hx : env.kindOf x = some .globalImplicit) (B : Bi h₀ x v) (S : St h₀ env O m s.heap) (h : Q v s)
    (hd : (x == ("__debug__" : Str)) = false) : wpAny (model p w) A (eval (.Name x pos) env) Q E s := by
  obtain ⟨mg, mb, g, e1, b, e2⟩ := B
  exact PySem.Calls.Name_function_global ok.kind hx (PySem.Calls.loadGlobal_builtin (by rw [ok.glob]; exact g.keeps S.ground) e1 (by rw [ok.blt]; exact b.keeps S.ground) e2 h) hd
theorem load_gl {s : Shared} {O : Owns} {E : Value → Shared → Prop} {x : Str} {pos : Pos} {v : Value} {Q : Value → Shared → Prop} (ok : EnvOk env) (hx : env.kindOf x = some .globalImplicit) (B : Gl h₀ x v) (S : St h₀ env O m s.heap) (h : Q v s)
    (hd : (x == ("__debug__" : Str)) = false) : wpAny (model p w) A (eval (.Name x pos) env) Q E s := by
  obtain ⟨mg, g, e1⟩ := B
  exact PySem.Calls.Name_function_global ok.kind hx (PySem.Calls.loadGlobal_global (by rw [ok.glob]; exact g.keeps S.ground) e1 h) hd
theorem call_b1 {s : Shared} {O : Owns} {E : Value → Shared → Prop} {x : Str} {e : Expr} {xp pos : Pos} {id : String} {Q : Value → Shared → Prop} (ok : EnvOk env) (hx : env.kindOf x = some .globalImplicit) (B : Bi h₀ x (.builtin id)) (S : St h₀ env O m s.heap)
    (h : wpAny (model p w) A (eval e env) (fun v s₁ => wpAny (model p w) A (call (.builtin id) [v]) Q E s₁) E s) (hd : (x == ("__debug__" : Str)) = false)
    (he : starEach [e] env = (false, eval e env) :: starEach [] env) : wpAny (model p w) A (eval (.Call (.Name x xp) [e] [] pos) env) Q E s :=
  Call_Name rfl (load_bi ok hx B S (callWith_builtin1 (spliced_more (wpAny_mono h (fun v s₁ h₁ => spliced_none h₁) fun _ _ x => x) he) he rfl) hd)
theorem call_t1 {s : Shared} {O : Owns} {E : Value → Shared → Prop} {x : Str} {e : Expr} {xp pos : Pos} {id : String} {Q : Value → Shared → Prop} (ok : EnvOk env) (hx : env.kindOf x = some .globalImplicit) (B : Bi h₀ x (.type id)) (S : St h₀ env O m s.heap)
    (h : wpAny (model p w) A (eval e env) (fun v s₁ => wpAny (model p w) A (call (.type id) [v]) Q E s₁) E s) (hd : (x == ("__debug__" : Str)) = false)
    (he : starEach [e] env = (false, eval e env) :: starEach [] env) : wpAny (model p w) A (eval (.Call (.Name x xp) [e] [] pos) env) Q E s :=
  Call_Name rfl (load_bi ok hx B S (callWith_type1 (spliced_more (wpAny_mono h (fun v s₁ h₁ => spliced_none h₁) fun _ _ x => x) he) he rfl) hd)

theorem evI_len {x : Str} {e : Expr} {xp pos : Pos} {k : Int → Prop} (ok : EnvOk env) (hx : env.kindOf x = some .globalImplicit) (B : Bi h₀ x (.builtin "len")) (h : Ev p w h₀ A env .any m e fun d => ∃ ds, d = .list ds ∧ (ds.length : Int) < 2 ^ 63 ∧ k ds.length)
    (he : starEach [e] env = (false, eval e env) :: starEach [] env := by rfl) (hd : (x == ("__debug__" : Str)) = false := by decide) : EvI p w h₀ A env m (.Call (.Name x xp) [e] [] pos) k := fun s O Q E S hQ =>
  call_b1 ok hx B S (h s O _ E S fun v d as s₁ x₁ r _ ⟨ds, e, hf, hk⟩ => by
    subst e
    cases r with
    | list i q =>
      rw [← size_ds q] at hf hk
      exact len_list i.isList hf (hQ _ _ _ (x₁.trans (Ext.tok _ _)) hk)) hd he
theorem pi_items {h : Heap} {ns : List Int} {vs : Array Value} (r : RdAll h vs.toList (PI ns) []) : ∃ xs : Array (Int × Tok), vs = intItems xs ∧ xs.toList.map (·.1) = ns := by
  have gen : ∀ (ns : List Int) (vs : List Value), RdAll h vs (PI ns) [] → ∃ xs : List (Int × Tok), vs = xs.map (fun q => Value.int q.1 q.2) ∧ xs.map (·.1) = ns := by
    intro ns
    induction ns with
    | nil => intro vs r; cases r; exact ⟨[], rfl, rfl⟩
    | cons n ns ih =>
      intro vs r
      generalize hb : ([] : List Addr) = bs at r
      cases r with
      | cons rv rr =>
        cases rv
        simp at hb
        subst hb
        obtain ⟨xs, e1, e2⟩ := ih _ rr
        exact ⟨(n, _) :: xs, by rw [List.map_cons, ← e1], by rw [List.map_cons, e2]⟩
  obtain ⟨xs, e1, e2⟩ := gen ns vs.toList r
  refine ⟨xs.toArray, ?_, by simpa using e2⟩
  apply Array.toList_inj.mp
  rw [e1]; simp [intItems]
theorem evI_sum {x : Str} {e : Expr} {xp pos : Pos} {k : Int → Prop} (ok : EnvOk env) (hh : A.handled = none) (hx : env.kindOf x = some .globalImplicit) (B : Bi h₀ x (.builtin "sum")) (h : EvP p w h₀ A env m e fun ns => k ns.sum)
    (he : starEach [e] env = (false, eval e env) :: starEach [] env := by rfl) (hd : (x == ("__debug__" : Str)) = false := by decide) : EvI p w h₀ A env m (.Call (.Name x xp) [e] [] pos) k := fun s O Q E S hQ =>
  call_b1 ok hx B S (h s O _ E S fun a vs ns s₁ x₁ i q hk => by
    obtain ⟨xs, rfl, e2⟩ := pi_items q
    refine sum_intListG hh i.isList fun h' tk t' hk' => ?_
    rw [preSum_eq, List.take_of_length_le (by simp), e2]
    exact hQ _ _ _ (x₁.trans ⟨hk', h', tk, rfl⟩) hk) hd he
theorem evI_max {x : Str} {e : Expr} {xp pos : Pos} {k : Int → Prop} (ok : EnvOk env) (hh : A.handled = none) (hx : env.kindOf x = some .globalImplicit) (B : Bi h₀ x (.builtin "max")) (h : EvP p w h₀ A env m e fun ns => ns ≠ [] ∧ ∀ M ∈ ns, (∀ a ∈ ns, a ≤ M) → k M)
    (he : starEach [e] env = (false, eval e env) :: starEach [] env := by rfl) (hd : (x == ("__debug__" : Str)) = false := by decide) : EvI p w h₀ A env m (.Call (.Name x xp) [e] [] pos) k := fun s O Q E S hQ =>
  call_b1 ok hx B S (h s O _ E S fun a vs ns s₁ x₁ i q ⟨hne, hk⟩ => by
    obtain ⟨xs, rfl, e2⟩ := pi_items q
    have hsz : xs.size = ns.length := by rw [← e2]; simp
    have hpos : 0 < xs.size := by rw [hsz]; exact List.length_pos_iff.mpr hne
    refine max_intList hh i.isList hpos fun v h' tk hv hk' => ?_
    obtain ⟨t, rfl⟩ := intItems_at hv
    obtain ⟨h1, h2⟩ := argBest_gt (numAt xs) (xs.size - 1)
    refine hQ _ _ _ (x₁.trans ⟨hk', h', tk, rfl⟩) (hk _ ?_ fun b hb => ?_)
    · rw [numAt_eq, e2]; exact getD_mem (by lia)
    · obtain ⟨j, hj, rfl⟩ := mem_getD hb
      have := h2 j (by lia)
      rw [numAt_eq, e2] at this; exact this) hd he
theorem evI_min {x : Str} {e : Expr} {xp pos : Pos} {k : Int → Prop} (ok : EnvOk env) (hh : A.handled = none) (hx : env.kindOf x = some .globalImplicit) (B : Bi h₀ x (.builtin "min")) (h : EvP p w h₀ A env m e fun ns => ns ≠ [] ∧ ∀ M ∈ ns, (∀ a ∈ ns, M ≤ a) → k M)
    (he : starEach [e] env = (false, eval e env) :: starEach [] env := by rfl) (hd : (x == ("__debug__" : Str)) = false := by decide) : EvI p w h₀ A env m (.Call (.Name x xp) [e] [] pos) k := fun s O Q E S hQ =>
  call_b1 ok hx B S (h s O _ E S fun a vs ns s₁ x₁ i q ⟨hne, hk⟩ => by
    obtain ⟨xs, rfl, e2⟩ := pi_items q
    have hsz : xs.size = ns.length := by rw [← e2]; simp
    have hpos : 0 < xs.size := by rw [hsz]; exact List.length_pos_iff.mpr hne
    refine min_intList hh i.isList hpos fun v h' tk hv hk' => ?_
    obtain ⟨t, rfl⟩ := intItems_at hv
    obtain ⟨h1, h2⟩ := argBest_lt (numAt xs) (xs.size - 1)
    refine hQ _ _ _ (x₁.trans ⟨hk', h', tk, rfl⟩) (hk _ ?_ fun b hb => ?_)
    · rw [numAt_eq, e2]; exact getD_mem (by lia)
    · obtain ⟨j, hj, rfl⟩ := mem_getD hb
      have := h2 j (by lia)
      rw [numAt_eq xs j, e2] at this; exact this) hd he

def rng (n : Nat) : List Int := (List.range n).map fun i : Nat => (i : Int)
-- what loops run over
theorem it_list {e : Expr} {k : List PyData → Prop} (h : Ev p w h₀ A env .plain m e fun d => ∃ ds, d = .list ds ∧ k ds) : It p w h₀ A env m e k := fun s O Q E S hQ =>
  h s O _ E S fun v d as s₁ x₁ r f ⟨ds, e, hk⟩ => by
    subst e
    cases r with
    | list i q =>
      rename_i a vs as
      refine wpAny_pyIter_list i.isList (hQ _ ds { s₁ with heap := s₁.heap.push { cls := .type "list_iterator", data := .fields #[.ref a, .int 0 0] } } (x₁.push _ s₁.toks) (x₁.fresh (size_none _)) (.inl ⟨a, 0, vs, as, ⟨_, Heap.get?_push_size _ rfl, rfl, rfl⟩, isList_keeps i fun _ _ e => Heap.get?_push_of_some _ e, ?_, f a (.head _), fun b hb => f b (.tail _ hb)⟩) hk)
      rw [List.drop_zero]
      exact q.keeps fun _ _ e => Heap.get?_push_of_some _ e
theorem it_new {e : Expr} {k : List PyData → Prop} (h : EvN p w h₀ A env m e k) : It p w h₀ A env m e k := it_list (ev_new fun s O Q E S hQ => h s O Q E S fun a vs as ds s' x hn i r f hk => hQ a vs as ds s' x hn i r f ⟨ds, rfl, hk⟩)
theorem it_range {x : Str} {e : Expr} {xp pos : Pos} {k : List PyData → Prop} (ok : EnvOk env) (hx : env.kindOf x = some .globalImplicit) (B : Bi h₀ x (.type "range")) (h : EvI p w h₀ A env m e fun n => (-(2 ^ 62) ≤ n ∧ n < 2 ^ 62) ∧ k (PI (rng n.toNat)))
    (he : starEach [e] env = (false, eval e env) :: starEach [] env := by rfl) (hd : (x == ("__debug__" : Str)) = false := by decide) : It p w h₀ A env m (.Call (.Name x xp) [e] [] pos) k := fun s O Q E S hQ =>
  call_t1 ok hx B S (h s O _ E S fun n t s₁ x₁ ⟨⟨hlo, hhi⟩, hk⟩ => by
    refine call_range_1 ?_
    refine wpAny_pyIter_range (IsRange.new ..) (small_one (by decide) (by decide) hlo hhi) ?_
    have hsz : Builtin.Range.rangeSize 0 n 1 = (n.toNat : Int) := by rw [rangeSize_one]; split <;> lia
    rw [hsz]
    have x₂ := x₁.push ({ cls := .type "range", data := .fields #[.int 0 s₁.toks, .int n t, .int 1 (s₁.toks + 1)] } : Obj) (s₁.toks + 1 + 1)
    have x₃ := x₂.push ({ cls := .type "range_iterator", data := .fields #[rawInt 0, rawInt (n.toNat : Int), rawInt 1] } : Obj) (s₁.toks + 1 + 1)
    refine hQ _ _ _ x₃ (x₂.fresh (size_none _)) (.inr ⟨0, n.toNat, Heap.get?_push_size _ rfl, ?_⟩) hk
    simp [PI, rng, Function.comp]) hd he
end

structure CompOk (env : Env) (scope : Scope) (cl : List (Str × Addr)) (x : Str) : Prop where
  nocell : ∀ y ∈ scope.names, y.2 ≠ .cell
  kind : scope.kind = .function
  var : scope.names.lookup x = some .local
  names : ∀ y ∈ scope.names, y.2 = .local → scope.names.lookup y.1 = some .local
  clos : closureFor scope env = pure cl
  sub : ∀ q ∈ cl, q ∈ env.cells
  apart : cl.Pairwise fun x y => x.2 ≠ y.2
def Caught (env : Env) (scope : Scope) (cl : List (Str × Addr)) (m mc : Locs) : Prop :=
  ∀ y l, gt mc y = some l → gt m y = some l ∧ env.kindOf y = some .cell ∧ (relabel scope env).names.lookup y = some .cell ∧ ∃ c, cl.lookup y = some c ∧ env.cells.lookup y = some c

section
variable {p : Program} {w : World} {h₀ : Heap} {A : Around} {env : Env} {m : Locs} {N : Locs → Prop} {T : PyData → Prop}

def TstS (p : Program) (w : World) (h₀ : Heap) (A : Around) (env : Env) (m : Locs) : List Expr → (Bool → Prop) → Prop
  | [], k => k true
  | [c], k => Tst p w h₀ A env m c k
  | _, _ => False
def CompW (p : Program) (w : World) (h₀ : Heap) (A : Around) (env : Env) (mc : Locs) (x : Str) (ifs : List Expr) (elt : Expr) (k : List PyData → Prop) : List PyData → List PyData → Prop
  | [], out => k out
  | d :: ds, out => TstS p w h₀ A env (st mc x (.val d)) ifs fun b => if b then Ev p w h₀ A env .fresh (st mc x (.val d)) elt fun r => CompW p w h₀ A env mc x ifs elt k ds (out ++ [r]) else CompW p w h₀ A env mc x ifs elt k ds out

theorem iter_self {O : Owns} {s : Shared} {E : Value → Shared → Prop} {it : Addr} {ds : List PyData} {Q : Value → Shared → Prop} (i : IterAt O s.heap it ds) (h : Q (.ref it) s) : wpAny (model p w) A (pyIter (.ref it)) Q E s := by
  rcases i with ⟨l, i, vs, as, hit, _⟩ | ⟨x, n, hr, _⟩
  · exact wpAny_pyIter_listiter hit h
  · exact wpAny_pyIter_rangeiter hr h

theorem tests_of {s : Shared} {O : Owns} {E : Value → Shared → Prop} {Q : Bool → Shared → Prop} {ifs : List Expr} {k : Bool → Prop} (h : TstS p w h₀ A env m ifs k) (S : St h₀ env O m s.heap) (hQ : ∀ b s', Ext s s' → k b → Q b s') :
    wpAny (model p w) A (forIn ifs true fun c r => if r = true then do let ok ← isTrue c env (eval c env); pure (ForInStep.yield ok) else pure (ForInStep.yield r)) Q E s := by
  match ifs, h with
  | [], h => exact wpAny_tests_nil (hQ _ _ (Ext.refl s) h)
  | [c], h => exact wpAny_tests_one (h s O Q E S hQ)

theorem store_local {s : Shared} {O : Owns} {E : Value → Shared → Prop} {Q : Unit → Shared → Prop} {x : Str} {v : Value} {l : Loc} (hk : env.scope.kind = .function) (hl : env.kindOf x = some .local)
    (S : St h₀ env O m s.heap) (r : LocRel s.heap O x v l) (h : ∀ h' tk, Heap.SameBut env.locals s.heap h' → (∃ mr, h'.Ns env.locals mr) → St h₀ env O (st m x l) h' → Q () { s with heap := h', toks := tk }) : wpAny (model p w) A (storeName env x v) Q E s := by
  obtain ⟨mr, hn⟩ := S.frame
  refine wpAny_storeName_local hl hn (fun h' hn' hs' => ?_) (by rw [hk]; rfl)
  refine h h' _ hs' ⟨_, hn'⟩ ?_
  refine S.turn (h' := h') hs'.extBut S.newL ⟨_, hn'⟩ (fun y c hm => ?_) (ns_not_list hn) _ fun y ly e => ?_
  · obtain ⟨u, i⟩ := S.cells y c hm
    exact ⟨u, i.sameBut hs' fun q => cell_not_ns i (q ▸ hn)⟩
  · rw [gt_st] at e
    by_cases hy : y = x
    · subst hy
      rw [if_pos rfl] at e
      cases e
      exact ⟨v, .inl ⟨hl, _, hn', by simp⟩, r⟩
    · rw [if_neg hy] at e
      obtain ⟨u, bd, ru⟩ := S.vars y ly e
      refine ⟨u, ?_, ru⟩
      rcases bd with ⟨hk', mr', n', e'⟩ | ⟨hk', c, hc, i⟩
      · refine .inl ⟨hk', _, hn', ?_⟩
        rw [if_neg hy]
        obtain ⟨o1, es1, ep1, g1, d1, _, f1⟩ := hn
        obtain ⟨o2, es2, ep2, g2, d2, _, f2⟩ := n'
        rw [g1] at g2; cases g2
        rw [d1] at d2; cases d2
        rw [← f1, f2]; exact e'
      · exact .inr ⟨hk', c, hc, i.sameBut hs' fun q => cell_not_ns i (q ▸ hn)⟩

theorem St.block {O : Owns} {h : Heap} {scope : Scope} {cl : List (Str × Addr)} {x : Str} {mc : Locs} {C : Addr} {mr : Str → Option Value} (S : St h₀ env O m h) (K : CompOk env scope cl x) (hc : Caught env scope cl m mc) (hn : h.Ns C mr) (h0 : h₀.get? C = none) :
    St h₀ (compEnvC scope cl C env) O mc h where
  ground := S.ground
  frame := ⟨mr, hn⟩
  cells y c hm := S.cells y c (K.sub _ hm)
  apart := K.apart
  newL := h0
  newC y c hm := S.newC y c (K.sub _ hm)
  newO := S.newO
  lists := S.lists
  uniq := S.uniq
  vars y l e := by
    obtain ⟨e1, hk, hr, c, hl, hl'⟩ := hc y l e
    obtain ⟨v, bd, r⟩ := S.vars y l e1
    refine ⟨v, .inr ⟨hr, c, hl, ?_⟩, r⟩
    rcases bd with ⟨hk', _⟩ | ⟨hk', c', hc', i⟩
    · rw [hk] at hk'; cases hk'
    · rw [hl'] at hc'; cases hc'; exact i

theorem rdAll_snoc {h : Heap} : ∀ {vs : List Value} {ds : List PyData} {as bs : List Addr} {v : Value} {d : PyData}, RdAll h vs ds as → Rd h v d bs → RdAll h (vs ++ [v]) (ds ++ [d]) (as ++ bs)
  | _, _, _, _, _, _, .nil, r => by simpa using RdAll.cons r .nil
  | _, _, _, _, _, _, .cons q rest, r => by
    have := rdAll_snoc rest r
    rw [List.cons_append, List.cons_append, List.append_assoc]
    exact .cons q this

theorem IterAt.ext {O : Owns} {h h' : Heap} {it : Addr} {ds : List PyData} (i : IterAt O h it ds) (k : ∀ b o, h.get? b = some o → h'.get? b = some o) : IterAt O h' it ds := by
  rcases i with ⟨l, i, vs, as, ⟨o, ho, r1⟩, il, r, no, na⟩ | ⟨x, n, hr, e⟩
  · exact .inl ⟨l, i, vs, as, ⟨o, k _ _ ho, r1⟩, isList_keeps il k, r.keeps k, no, na⟩
  · exact .inr ⟨x, n, k _ _ hr, e⟩
theorem IterAt.but {O : Owns} {h h' : Heap} {it b : Addr} {ds : List PyData} (i : IterAt O h it ds) (hs : Heap.ExtBut b h h') (hi : it ≠ b) (hl : ∀ a vs, h.PlainList a vs → (∀ y, (y, a) ∉ O) → a ≠ b) : IterAt O h' it ds := by
  rcases i with ⟨l, i, vs, as, ⟨o, ho, r1⟩, il, r, no, na⟩ | ⟨x, n, hr, e⟩
  · refine .inl ⟨l, i, vs, as, ⟨o, hs _ _ hi ho, r1⟩, il.extBut hs (hl l vs il no), r.at fun a ha o ho => hs a o ?_ ho, no, na⟩
    obtain ⟨va, ia⟩ := r.lists a ha
    exact hl a va ia (na a ha)
  · exact .inr ⟨x, n, hs _ _ hi hr, e⟩
theorem IterAt.more {O : Owns} {h : Heap} {it D : Addr} {ds : List PyData} (y : Str) (i : IterAt O h it ds) (hn : h.get? D = none) : IterAt ((y, D) :: O) h it ds := by
  have add : ∀ a vs, h.PlainList a vs → (∀ z, (z, a) ∉ O) → ∀ z, (z, a) ∉ (y, D) :: O := fun a vs ⟨n, e⟩ no z hz => by
    rcases List.mem_cons.mp hz with q | hz
    · cases q; rw [hn] at e; cases e
    · exact no z hz
  rcases i with ⟨l, i, vs, as, hi, il, r, no, na⟩ | ⟨x, n, hr, e⟩
  · exact .inl ⟨l, i, vs, as, hi, il, r, add l vs il no, fun a ha => by obtain ⟨va, ia⟩ := r.lists a ha; exact add a va ia (na a ha)⟩
  · exact .inr ⟨x, n, hr, e⟩

theorem comp_block {elt iter : Expr} {x : Str} {px : Pos} {ifs : List Expr} {scope : Scope} {cl : List (Str × Addr)} {pos : Pos} {mc : Locs} {s s₁ : Shared} {O : Owns} {it : Addr} {ds : List PyData} {k : List PyData → Prop} {E : Value → Shared → Prop}
    {RR : Value → Addr → Result → Shared → Prop} (hh : A.handled = none) (K : CompOk env scope cl x) (hc : Caught env scope cl m mc) (S : St h₀ env O m s.heap) (x₁ : Ext s s₁) (hnew : s.heap.get? it = none) (hit : IterAt O s₁.heap it ds) (hz : ds.length ≤ sizeLine)
    (h : ∀ C, CompW p w h₀ A (compEnvC scope cl C env) mc x ifs elt k ds [])
    (hRR : ∀ D C ys as out s', Ext s s' → s.heap.get? D = none → s.heap.get? C = none → D ≠ C → (∃ mr, s'.heap.Ns C mr) → s'.heap.PlainList D ys → RdAll s'.heap ys.toList out as → (∀ b ∈ as, s.heap.get? b = none ∧ b ≠ D ∧ b ≠ C) → k out → RR (.ref D) C (.ok .next) s') :
    wpAny (model p w) A (newList []) (fun acc s₃ => wpAny (model p w) A (newFunctionEnv scope env.globals cl [] env.qual none .none (some env)) (fun cenv s₄ =>
      codeAny (model p w) A (.compStart (.ListComp elt [⟨.Name x px, iter, ifs, 0⟩] scope pos) 0 (.ref it) acc { cenv with scope := relabel scope env }) (RR acc cenv.locals) s₄) E s₃) E s₁ := by
  refine wpAny_newObj_type (wpAny_newFunctionEnv K.nocell (fun _ hy => nomatch hy) (fun h₁ hns₁ hsb₁ => ?_) K.kind)
  dsimp only at hns₁ hsb₁ ⊢
  generalize hH2 : s₁.heap.push { cls := .type "list", dict := none, data := .seq ([] : List Value).toArray } = H2 at hns₁ hsb₁ ⊢
  have hCs : H2.objs.size = s₁.heap.objs.size + 1 := by rw [← hH2, Heap.size_push]
  generalize hD : s₁.heap.objs.size = D at *
  generalize hC : H2.objs.size = C at *
  have hDC : D ≠ C := by rw [hCs]; exact Nat.ne_of_lt (Nat.lt_succ_self _)
  have nD₁ : s₁.heap.get? D = none := hD ▸ size_none _
  have nC₁ : s₁.heap.get? C = none := by
    cases q : s₁.heap.get? C with
    | none => rfl
    | some o => exact absurd (Heap.lt_size q) (by rw [hD, hCs]; exact Nat.not_lt.mpr (Nat.le_succ _))
  have old : ∀ b o, s₁.heap.get? b = some o → h₁.get? b = some o := fun b o e => hsb₁.extBut b o (fun q => by rw [q, nC₁] at e; cases e) (Heap.get?_push_of_some _ (hH2 ▸ Heap.get?_push_of_some _ e))
  have hacc : h₁.PlainList D #[] := ⟨_, hsb₁.extBut _ _ hDC (Heap.get?_push_of_some _ (hH2 ▸ hD ▸ Heap.get?_push_size _ rfl))⟩
  have g0 : ∀ b, s.heap.get? b = none → h₀.get? b = none := fun b e => by
    cases q : h₀.get? b with
    | none => rfl
    | some o => rw [S.ground b o q] at e; cases e
  have nD := x₁.fresh nD₁
  have nC := x₁.fresh nC₁
  have hit₁ : IterAt ((x, D) :: O) h₁ it ds := (hit.more x nD₁).ext old
  have x₂ : Ext s { s₁ with heap := h₁, toks := s₁.toks + ([] : List (Str × Value)).length } := x₁.trans ⟨old, h₁, _, rfl⟩
  have loop : codeAny (model p w) A (.compLoop (.ListComp elt [⟨.Name x px, iter, ifs, 0⟩] scope pos) 0 (.ref it) (.ref D) (compEnvC scope cl C env)) (RR (.ref D) C) { s₁ with heap := h₁, toks := s₁.toks + ([] : List (Str × Value)).length } := by
    refine codeAny_compLoop_tests (fun n s' => ∃ ds' ys as out, n = ds'.length + 1 ∧ Ext s s' ∧ (∃ mr, s'.heap.Ns C mr) ∧ s'.heap.PlainList D ys ∧ RdAll s'.heap ys.toList out as ∧ (∀ b ∈ as, s.heap.get? b = none ∧ b ≠ D ∧ b ≠ C) ∧ IterAt ((x, D) :: O) s'.heap it ds' ∧ ys.size + ds'.length ≤ sizeLine ∧
      CompW p w h₀ A (compEnvC scope cl C env) mc x ifs elt k ds' out) (fun n s₂ hI => ?_) (ds.length + 1) ⟨ds, #[], [], [], rfl, x₂, ⟨_, hns₁⟩, hacc, .nil, (fun _ h => nomatch h), hit₁, by simpa using hz, h C⟩
    obtain ⟨ds', ys, as, out, rfl, x₃, ⟨mr, hn⟩, hacc, r, f, it', hsz, hw⟩ := hI
    have S₃ := S.ext x₃
    cases ds' with
    | nil =>
      refine next_none hh it' fun h' hs' => hRR D C ys as out _ ⟨fun b o e => hs' b o (fun q => by rw [q, hnew] at e; cases e) (x₃.keep b o e), ?_⟩ nD nC hDC ⟨mr, hn.extBut hs' fun q => iter_not_ns it' (q ▸ hn)⟩ (hacc.extBut hs' fun q => iter_not_list it' ys (q ▸ hacc)) (r.at fun b hb o ho => hs' b o (fun q => ?_) ho) f hw
      · obtain ⟨hx, tk, e⟩ := x₃.same
        exact ⟨h', tk, by rw [e]⟩
      · obtain ⟨vb, ib⟩ := r.lists b hb
        exact iter_not_list it' vb (q ▸ ib)
    | cons d ds' =>
      refine next_item it' fun v av h' tk hs' it₂ rv nv => ?_
      have x₄ : Ext s { s₂ with heap := h', toks := tk } := by
        refine ⟨fun b o e => hs'.extBut b o (fun q => by rw [q, hnew] at e; cases e) (x₃.keep b o e), ?_⟩
        obtain ⟨hx, tk', e⟩ := x₃.same
        exact ⟨h', tk, by rw [e]⟩
      have hn₄ : h'.Ns C mr := hn.sameBut hs' fun q => iter_not_ns it' (q ▸ hn)
      have hacc₄ : h'.PlainList D ys := hacc.extBut hs'.extBut fun q => iter_not_list it' ys (q ▸ hacc)
      have r₄ : RdAll h' ys.toList out as := r.at fun b hb o ho => hs'.extBut b o (fun q => by obtain ⟨vb, ib⟩ := r.lists b hb; exact iter_not_list it' vb (q ▸ ib)) ho
      have S₄ : St h₀ (compEnvC scope cl C env) O mc h' := (S.ext x₄).block K hc hn₄ (g0 C nC)
      refine wpAny_assign_Name (store_local (l := .val d) (s := { s₂ with heap := h', toks := tk }) (env := compEnvC scope cl C env) K.kind (lookup_relabel_local K.var) S₄ ⟨av, rv, fun a ha y hy => nv a ha y (.tail _ hy)⟩ fun h₅ tk₅ hs₅ hn₅ S₅ => ?_)
      have hs₅' : Heap.SameBut C h' h₅ := hs₅
      have x₅ : Ext s { s₂ with heap := h₅, toks := tk₅ } := by
        refine ⟨fun b o e => hs₅'.extBut b o (fun q => by rw [q, nC] at e; cases e) (x₄.keep b o e), ?_⟩
        obtain ⟨hx, tk', e⟩ := x₃.same
        exact ⟨h₅, tk₅, by rw [e]⟩
      have hacc₅ : h₅.PlainList D ys := hacc₄.extBut hs₅'.extBut hDC
      have r₅ : RdAll h₅ ys.toList out as := r₄.at fun b hb o ho => hs₅'.extBut b o (f b hb).2.2 ho
      have itC : it ≠ C := fun q => iter_not_ns it₂ (q ▸ hn₄)
      have it₅ : IterAt ((x, D) :: O) h₅ it ds' := it₂.but hs₅'.extBut itC fun a va ia _ q => ns_not_list hn₄ va (q ▸ ia)
      refine tests_of hw S₅ fun b s₆ x₆ hb => ?_
      have x₆' := x₅.trans x₆
      cases b with
      | false =>
        simp only [Bool.false_eq_true, if_false]
        refine ⟨ds'.length + 1, by simp, ds', ys, as, out, rfl, x₆', ?_, isList_keeps hacc₅ x₆.keep, r₅.keeps x₆.keep, f, ?_, by simp only [List.length_cons] at hsz; lia, hb⟩
        · obtain ⟨mr', hn'⟩ := hn₅
          exact ⟨mr', Heap.Ns.keeps hn' x₆.keep⟩
        · exact it₅.ext x₆.keep
      | true =>
        simp only [if_true]
        have S₆ := St.ext (s := { s₂ with heap := h₅, toks := tk₅ }) S₅ x₆
        refine hb s₆ O _ _ S₆ fun v' d' as' s₇ x₇ r' f' hk' => ?_
        have x₇' := x₆'.trans x₇
        have keep₇ : ∀ b o, h₅.get? b = some o → s₇.heap.get? b = some o := fun b o e => x₇.keep b o (x₆.keep b o e)
        have hacc₇ : s₇.heap.PlainList D ys := isList_keeps hacc₅ keep₇
        refine wpAny_list_append_plain hacc₇ (fun h₈ hl₈ hs₈ => ?_) (by simp only [List.length_cons] at hsz; lia)
        have nA : ∀ b ∈ as', s.heap.get? b = none ∧ b ≠ D ∧ b ≠ C := fun b hb => by
          have e6 : s₆.heap.get? b = none := f' b hb
          refine ⟨x₆'.fresh e6, fun q => ?_, fun q => ?_⟩
          · obtain ⟨n, e⟩ := isList_keeps hacc₅ x₆.keep
            rw [← q, e6] at e; cases e
          · obtain ⟨mr', hn'⟩ := hn₅
            obtain ⟨o, _, _, ho, _⟩ := Heap.Ns.keeps hn' x₆.keep
            have : s₆.heap.get? C = some o := ho
            rw [← q, e6] at this; cases this
        have rr := rdAll_snoc (r₅.keeps keep₇) r'
        refine ⟨ds'.length + 1, by simp, ds', ys.push v', as ++ as', out ++ [d'], rfl, ⟨fun b o e => hs₈.extBut b o (fun q => by rw [q, nD] at e; cases e) (x₇'.keep b o e), ?_⟩, ?_, hl₈, ?_, fun b hb => ?_, ?_, by simp only [List.length_cons, Array.size_push] at hsz ⊢; lia, hk'⟩
        · obtain ⟨hx, tk', e⟩ := x₇'.same
          exact ⟨h₈, tk', by rw [e]⟩
        · obtain ⟨mr', hn'⟩ := hn₅
          exact ⟨mr', (Heap.Ns.keeps hn' keep₇).sameBut hs₈ (Ne.symm hDC)⟩
        · rw [Array.toList_push]
          refine rr.at fun b hb o ho => hs₈.extBut b o (fun q => ?_) ho
          rcases List.mem_append.mp hb with hb | hb
          · exact (f b hb).2.1 q
          · exact (nA b hb).2.1 q
        · rcases List.mem_append.mp hb with hb | hb
          · exact f b hb
          · exact nA b hb
        · have it₇ : IterAt ((x, D) :: O) s₇.heap it ds' := it₅.ext keep₇
          exact it₇.but hs₈.extBut (fun q => iter_not_list it₇ ys (q ▸ hacc₇)) fun a va ia no q => no x (q ▸ .head _)
  exact codeAny_compStart_list loop (iter_self (s := { s₁ with heap := h₁, toks := s₁.toks + ([] : List (Str × Value)).length }) hit₁ loop)

theorem evN_comp {elt iter : Expr} {x : Str} {px : Pos} {ifs : List Expr} {scope : Scope} (cl : List (Str × Addr)) {pos : Pos} (mc : Locs) {k : List PyData → Prop} (hh : A.handled = none) (K : CompOk env scope cl x) (hc : Caught env scope cl m mc)
    (h : It p w h₀ A env m iter fun ds => ds.length ≤ sizeLine ∧ ∀ C, CompW p w h₀ A (compEnvC scope cl C env) mc x ifs elt k ds []) (hs : ∀ x, foldedSetIterable iter env x = pure x := by intro _; rfl) :
    EvN p w h₀ A env m (.ListComp elt [⟨.Name x px, iter, ifs, 0⟩] scope pos) k := fun s O Q E S hQ => by
  rw [eval_ListComp]
  refine wpAny_comprehension_free (use := none) rfl hs K.clos K.kind K.names (h s O _ E S fun it ds s₁ x₁ hnew hit ⟨hz, hw⟩ => ?_)
  refine comp_block (RR := fun acc C => compPost (model p w) A E none Q acc C) hh K hc S x₁ hnew hit hz hw ?_
  intro D C ys as out s' x' nD nC hDC ⟨mr, hn⟩ il r f hk
  refine ⟨mr, hn, fun h'' hs'' => hQ D ys as out _ ⟨fun b o e => hs''.extBut b o (fun q => by rw [q, nC] at e; cases e) (x'.keep b o e), ?_⟩ nD (il.extBut hs''.extBut hDC) (r.at fun b hb o ho => hs''.extBut b o (f b hb).2.2 ho) (fun b hb => ⟨(f b hb).1, (f b hb).2.1⟩) hk⟩
  obtain ⟨hx, tk', e⟩ := x'.same
  exact ⟨h'', tk', by rw [e]⟩
theorem x1_asgComp {elt iter : Expr} {x y : Str} {px py : Pos} {ifs : List Expr} {scope : Scope} (cl : List (Str × Addr)) {pos spos : Pos} (mc : Locs) (ok : EnvOk env) (hh : A.handled = none) (K : CompOk env scope cl x) (hc : Caught env scope cl m mc) (hy : env.kindOf y = some .local)
    (hsw : swapsWith (.ListComp elt [⟨.Name x px, iter, ifs, 0⟩] scope pos) (some (.Name y py)) spos.line env = pure true)
    (h : It p w h₀ A env m iter fun ds => ds.length ≤ sizeLine ∧ ∀ C, CompW p w h₀ A (compEnvC scope cl C env) mc x ifs elt (fun out => N (st m y (.own out))) ds []) (hs : ∀ x, foldedSetIterable iter env x = pure x := by intro _; rfl) :
    X1 p w h₀ A env m (.Assign [.Name y py] (.ListComp elt [⟨.Name x px, iter, ifs, 0⟩] scope pos) spos) N T := fun s O Q E S hN _ => by
  rw [exec_Assign_Name_used _ _ _ _ hsw]
  refine wpAny_bind (wpAny_standAt (wpAny_bind ?_))
  show wpAny _ A (do let _ ← comprehension (.ListComp elt [⟨.Name x px, iter, ifs, 0⟩] scope pos) scope env _ (newList []) false (eval iter env) (some (assign (.Name y py) env))) _ _ s
  refine wpAny_bind (wpAny_mono (wpAny_comprehension_free (use := some (assign (.Name y py) env)) (Q := fun _ s' => Q .next s') rfl hs K.clos K.kind K.names (h s O _ E S fun it ds s₁ x₁ hnew hit ⟨hz, hw⟩ => ?_)) (fun _ s' hq => wpAny_pure (wpAny_pure hq)) fun _ _ e => e)
  refine comp_block (RR := fun acc C => compPost (model p w) A E (some (assign (.Name y py) env)) (fun _ s' => Q .next s') acc C) hh K hc S x₁ hnew hit hz hw ?_
  intro D C ys as out s' x' nD nC hDC ⟨mr, hn⟩ il r f hk
  have S' := S.owns (x := y) x'.keep nD il
  have g : Grow s O ((y, D) :: O) := fun z b hb => by
    rcases List.mem_cons.mp hb with q | hb
    · cases q; exact .inr nD
    · exact .inl ⟨z, hb⟩
  have LC : env.locals ≠ C := fun q => by
    obtain ⟨mr, o, _, _, ho, _⟩ := S.frame
    rw [q, nC] at ho; cases ho
  have h0C : h₀.get? C = none := by
    cases q : h₀.get? C with
    | none => rfl
    | some o => rw [S.ground C o q] at nC; cases nC
  show wpAny _ A (assign (.Name y py) env (.ref D)) _ _ _
  refine wpAny_assign_Name (store_local (l := .own out) ok.kind hy S' ⟨D, ys, as, rfl, .head _, il, r, fun b hb z hz => ?_⟩ fun h₂ tk₂ hs₂ hn₂ S₂ => ⟨mr, hn.sameBut hs₂ (Ne.symm LC), fun h₃ hs₃ => ?_⟩)
  · rcases List.mem_cons.mp hz with q | hz
    · cases q; exact (f _ hb).2.1 rfl
    · obtain ⟨vs', k, ho⟩ := S.lists z b hz
      rw [(f b hb).1] at ho; cases ho
  · have hnC₂ : h₂.Ns C mr := hn.sameBut hs₂ (Ne.symm LC)
    have cC : ∀ {c v}, h₂.IsCell c v → c ≠ C := fun i q => cell_not_ns (q ▸ i) hnC₂
    refine hN _ _ _ ⟨fun b o e h1 h2 h3 => hs₃.extBut b o (fun q => by rw [q, nC] at e; cases e) (hs₂.extBut b o h1 (x'.keep b o e)), ?_⟩ g (S₂.turn hs₃.extBut h0C ?_ (fun z c hz => ?_) (ns_not_list hnC₂) _ fun z l e => ?_) hk
    · obtain ⟨hx, tk', e⟩ := x'.same
      exact ⟨h₃, tk₂, by rw [e]⟩
    · obtain ⟨mr', hn'⟩ := hn₂
      exact ⟨mr', hn'.sameBut hs₃ LC⟩
    · obtain ⟨v, i⟩ := S₂.cells z c hz
      exact ⟨v, i.sameBut hs₃ (cC i)⟩
    · obtain ⟨v, bd, ru⟩ := S₂.vars z l e
      refine ⟨v, ?_, ru⟩
      rcases bd with ⟨hk', mr', n', e'⟩ | ⟨hk', c, hc', i⟩
      · exact .inl ⟨hk', mr', n'.sameBut hs₃ LC, e'⟩
      · exact .inr ⟨hk', c, hc', i.sameBut hs₃ (cC i)⟩
end

abbrev Spec := List PyData → (PyData → Prop) → Prop

def Meets (p : Program) (w : World) (h₀ : Heap) (f : Addr) (n : Nat) (R : Spec) : Prop :=
  ∀ (A : Around) (s : Shared) (vs : List Value) (ds : List PyData) (as : List Addr) (k : PyData → Prop) (Q E : Value → Shared → Prop), A.handled = none → A.depth + n ≤ recursionLimit → A.units + 8 * n < cLine →
    (∀ b o, h₀.get? b = some o → s.heap.get? b = some o) → RdAll s.heap vs ds as → R ds k →
    (∀ v d as' s', Ext s s' → Rd s'.heap v d as' → (∀ a ∈ as', s.heap.get? a = none) → k d → Q v s') → wpAny (model p w) A (call (.ref f) vs) Q E s

def FnAt (h₀ : Heap) (f : Addr) : Prop := ∃ o fd, h₀.get? f = some o ∧ o.data = .func fd

section
variable {p : Program} {w : World} {h₀ : Heap} {A : Around} {env : Env} {m : Locs} {N : Locs → Prop} {T : PyData → Prop}

theorem fn_keeper {f : Addr} (hf : FnAt h₀ f) {M : Model} (h : Heap) (g : ∀ b o, h₀.get? b = some o → h.get? b = some o) : ∃ k, (k = Keeper.frame ∨ k = Keeper.machine ∨ k = Keeper.boundFrame) ∧ Looks M h (keeperOf (.ref f)) k := by
  obtain ⟨⟨c, d, dt, sl⟩, fd, ho, hd⟩ := hf
  simp only at hd
  subst hd
  exact ⟨.frame, .inl rfl, (Looks.ld (part := none) (g _ _ ho)).andThen .now⟩

theorem call_args {f : Addr} {n : Nat} {R : Spec} {pos : Pos} {e : Expr} {rest : List Expr} {s : Shared} {O : Owns} {Q E : Value → Shared → Prop} {k : PyData → Prop} (M : Meets p w h₀ f n R) (hf : FnAt h₀ f) (hh : A.handled = none) (hr : A.depth + n ≤ recursionLimit) (hu : A.units + 8 * n < cLine)
    (S : St h₀ env O m s.heap) (h : EvS p w h₀ A env .any m pos (e :: rest) fun ds => R ds k) (hQ : ∀ v d as s', Ext s s' → Rd s'.heap v d as → (∀ a ∈ as, s.heap.get? a = none) → k d → Q v s')
    (he : starEach (e :: rest) env = (false, eval e env) :: starEach rest env) (hp : (backTo pos (starEach rest env)).any (·.1) = false) :
    wpAny (model p w) A (callWith pos (.ref f) [] (backTo pos (starEach (e :: rest) env)) []) Q E s := by
  have h' := h s O (fun vs s₁ => (∀ b o, h₀.get? b = some o → s₁.heap.get? b = some o) ∧ wpAny (model p w) A (call (.ref f) ([] ++ vs) []) Q E s₁) E S fun vs ds as s₁ x₁ r _ hR => ⟨(S.ext x₁).ground, M A s₁ vs ds as k Q E hh hr hu (S.ext x₁).ground r hR fun v d as' s' x' r' f' hk => hQ v d as' s' (x₁.trans x') r' (fun a ha => x₁.fresh (f' a ha)) hk⟩
  rw [he] at h' ⊢
  exact callWith_of (P := fun h => ∀ b o, h₀.get? b = some o → h.get? b = some o) (by show ((false || (backTo pos (starEach rest env)).any (·.1)) || false) = false; rw [hp]; rfl) (fun h g => fn_keeper hf h g) (PySem.Calls.evalArgs_plain h')

theorem ev_call {c : Cls} {x : Str} {xp pos : Pos} {e : Expr} {rest : List Expr} {f : Addr} {n : Nat} {R : Spec} {k : PyData → Prop} (ok : EnvOk env) (M : Meets p w h₀ f n R) (hf : FnAt h₀ f) (hh : A.handled = none) (hr : A.depth + n ≤ recursionLimit) (hu : A.units + 8 * n < cLine)
    (hx : env.kindOf x = some .globalImplicit) (G : Gl h₀ x (.ref f)) (h : EvS p w h₀ A env .any m pos (e :: rest) fun ds => R ds k)
    (he : starEach (e :: rest) env = (false, eval e env) :: starEach rest env := by rfl) (hp : (backTo pos (starEach rest env)).any (·.1) = false := by rfl) (hd : (x == ("__debug__" : Str)) = false := by decide) :
    Ev p w h₀ A env c m (.Call (.Name x xp) (e :: rest) [] pos) k := fun s O Q E S hQ =>
  Call_Name rfl (load_gl ok hx G S (call_args M hf hh hr hu S h (fun v d as s' x' r f' hk => hQ v d as s' x' r (fun a ha => foot_fresh S c (f' a ha)) hk) he hp) hd)

def SmAt (p : Program) (w : World) (h₀ : Heap) (C : Addr) (name : Str) (f : Addr) : Prop :=
  ∀ (A : Around) (s : Shared) (pl : Sem Bool) (Q : Value × List Value → Shared → Prop) (E : Value → Shared → Prop), (∀ b o, h₀.get? b = some o → s.heap.get? b = some o) → (∀ s', Ext s s' → Q (.ref f, []) s') → wpAny (model p w) A (getMethod (.ref C) name pl) Q E s

theorem ev_scall {c : Cls} {x name : Str} {xp apos pos : Pos} {e : Expr} {rest : List Expr} {C f : Addr} {n : Nat} {R : Spec} {k : PyData → Prop} {pl : Sem Bool} (ok : EnvOk env) (M : Meets p w h₀ f n R) (hf : FnAt h₀ f) (hs : SmAt p w h₀ C name f) (hh : A.handled = none) (hr : A.depth + n ≤ recursionLimit) (hu : A.units + 8 * n < cLine)
    (hx : env.kindOf x = some .globalImplicit) (G : Gl h₀ x (.ref C)) (h : EvS p w h₀ A env .any m pos (e :: rest) fun ds => R ds k)
    (hm : eval (.Call (.Attribute (.Name x xp) name apos) (e :: rest) [] pos) env = (do
      let ov ← eval (.Name x xp) env
      standAt apos.atName
      let (f, first) ← holding [ov] (getMethod ov name pl)
      callWith pos f first (backTo pos (starEach (e :: rest) env)) []) := by rfl)
    (he : starEach (e :: rest) env = (false, eval e env) :: starEach rest env := by rfl) (hp : (backTo pos (starEach rest env)).any (·.1) = false := by rfl) (hd : (x == ("__debug__" : Str)) = false := by decide) :
    Ev p w h₀ A env c m (.Call (.Attribute (.Name x xp) name apos) (e :: rest) [] pos) k := fun s O Q E S hQ =>
  MethodCall_ (load_gl ok hx G S (hs A s pl _ E S.ground fun s₁ x₁ => call_args M hf hh hr hu (S.ext x₁) h (fun v d as s' x' r f' hk => hQ v d as s' (x₁.trans x') r (fun a ha => foot_fresh S c (x₁.fresh (f' a ha))) hk) he hp) hd) hm

theorem evB_of {e : Expr} {k : Bool → Prop} (h : Ev p w h₀ A env .any m e fun d => ∃ b, d = .bool b ∧ k b) : EvB p w h₀ A env m e k := fun s O Q E S hQ =>
  h s O Q E S fun v d as s' x r _ ⟨b, e, hk⟩ => by subst e; cases r; exact hQ _ _ x hk
theorem evI_of {e : Expr} {k : Int → Prop} (h : Ev p w h₀ A env .any m e fun d => ∃ b, d = .int b ∧ k b) : EvI p w h₀ A env m e k := fun s O Q E S hQ =>
  h s O Q E S fun v d as s' x r _ ⟨b, e, hk⟩ => by subst e; cases r; exact hQ _ _ _ x hk

def argLocs : List Str → List PyData → Locs
  | x :: xs, d :: ds => (x, .val d) :: argLocs xs ds
  | _, _ => []
theorem argLocs_get {h : Heap} : ∀ {xs : List Str} {vs : List Value} {ds : List PyData} {as : List Addr} {x : Str} {l : Loc}, RdAll h vs ds as → gt (argLocs xs ds) x = some l → ∃ v d as', (x, v) ∈ xs.zip vs ∧ l = .val d ∧ Rd h v d as'
  | [], _, _, _, _, _, _, e => by simp [argLocs, gt] at e
  | _ :: _, _, _, _, _, _, .nil, e => by simp [argLocs, gt] at e
  | y :: xs, _, _, _, x, l, .cons r q, e => by
    unfold argLocs gt at e
    rw [List.lookup_cons] at e
    cases hb : x == y with
    | true =>
      rw [hb] at e
      cases e
      have : x = y := beq_iff_eq.mp hb
      subst this
      exact ⟨_, _, _, .head _, rfl, r⟩
    | false =>
      rw [hb] at e
      obtain ⟨v, d, as', hm, el, r'⟩ := argLocs_get (xs := xs) q e
      exact ⟨v, d, as', .tail _ hm, el, r'⟩

theorem bindL_get {kindOf : Str → Option NameKind} : ∀ {binds : List (Str × Value)} {m : Str → Option Value} {x : Str} {v : Value}, (binds.map (·.1)).Nodup → (x, v) ∈ binds → kindOf x = some .local → bindL kindOf binds m x = some v
  | (y, u) :: r, m, x, v, hn, hm, hk => by
    have hn' := List.nodup_cons.mp hn
    unfold bindL
    rcases List.mem_cons.mp hm with e | hm
    · obtain ⟨rfl, rfl⟩ := Prod.mk.inj e
      rw [if_pos hk]
      have gen : ∀ (r : List (Str × Value)) (m : Str → Option Value), x ∉ r.map (·.1) → m x = some v → bindL kindOf r m x = some v := by
        intro r
        induction r with
        | nil => intro m _ e; exact e
        | cons z r ih =>
          intro m hx e
          obtain ⟨z, u'⟩ := z
          unfold bindL
          refine ih _ (fun h => hx (by simp [h])) ?_
          by_cases hz : kindOf z = some .local
          · rw [if_pos hz]
            have : x ≠ z := fun q => hx (by simp [q])
            simp [this, e]
          · rw [if_neg hz]; exact e
      exact gen r _ hn'.1 (by simp)
    · exact bindL_get hn'.2 hm hk
theorem bindC_get {kindOf : Str → Option NameKind} : ∀ {binds : List (Str × Value)} {m : Str → Option Value} {x : Str} {v : Value}, (binds.map (·.1)).Nodup → (x, v) ∈ binds → kindOf x ≠ some .local → bindC kindOf binds m x = some v
  | (y, u) :: r, m, x, v, hn, hm, hk => by
    have hn' := List.nodup_cons.mp hn
    unfold bindC
    rcases List.mem_cons.mp hm with e | hm
    · obtain ⟨rfl, rfl⟩ := Prod.mk.inj e
      rw [if_neg hk]
      have gen : ∀ (r : List (Str × Value)) (m : Str → Option Value), x ∉ r.map (·.1) → m x = some v → bindC kindOf r m x = some v := by
        intro r
        induction r with
        | nil => intro m _ e; exact e
        | cons z r ih =>
          intro m hx e
          obtain ⟨z, u'⟩ := z
          unfold bindC
          refine ih _ (fun h => hx (by simp [h])) ?_
          by_cases hz : kindOf z = some .local
          · rw [if_pos hz]; exact e
          · rw [if_neg hz]
            have : x ≠ z := fun q => hx (by simp [q])
            simp [this, e]
      exact gen r _ hn'.1 (by simp)
    · exact bindC_get hn'.2 hm hk

structure EnvOf (fd : FuncData) (env : Env) : Prop where
  scope : env.scope = fd.scope
  glob : env.globals = fd.globals
  blt : env.builtins = fd.builtins
  code : env.code = fd.code
  cells : env.cells = cellsFrom (env.locals + 1) fd.scope.names []

theorem meets_def {f : Addr} {n : Nat} {R : Spec} {o : Obj} {fd : FuncData} {body : List Stmt} (xs : List Str) (dv : List Value) (dd : List PyData) (ho : h₀.get? f = some o) (hdata : o.data = .func fd) (hlim : h₀.NoLimit) (hcd : h₀.CodeRec fd.code fd.qualname)
    (hbody : fd.body = .stmts body) (hclo : fd.closure = []) (hk : fd.scope.kind = .function) (hco : fd.scope.isCoroutine = false) (hgen : fd.scope.isGenerator = false)
    (hdd : ∀ h, RdAll h dv dd [])
    (hbind : ∀ (s : Shared) (vs : List Value), (∀ b o, h₀.get? b = some o → s.heap.get? b = some o) → vs.length + dv.length = xs.length → BindsTo s fd ⟨vs, []⟩ (xs.zip (vs ++ dv)))
    (hkinds : ∀ n, ∀ x ∈ xs, fd.scope.names.lookup x = some .local ∨ (fd.scope.names.lookup x = some .cell ∧ ((cellsFrom n fd.scope.names []).lookup x).isSome = true)) (hnd : xs.Nodup) (hcn : ((cellsFrom 0 fd.scope.names []).map (·.1)).Nodup)
    (h : ∀ ds k, R ds k → ds.length + dd.length = xs.length ∧ ∀ A env, EnvOf fd env → A.handled = none → A.depth + n ≤ recursionLimit + 1 → A.units + 8 * n < cLine + 3 → Ex p w h₀ A env (argLocs xs (ds ++ dd)) body (fun _ => False) k) (hn : 0 < n) :
    Meets p w h₀ f n R := fun A s vs ds as k Q E hh hr hu hg r hR hQ => by
  obtain ⟨hlen, hE⟩ := h ds k hR
  have hll : vs.length + dv.length = xs.length := by rw [r.length, (hdd s.heap).length]; exact hlen
  refine wpAny_call (codeAny_call_function (by lia) (hg _ _ ho) hdata hco hgen hbody (hcd.keeps hg) (hbind s vs hg hll _ _ _ _ ?_))
  rw [hclo]
  refine wpAny_newFunctionEnv_cells hk (fun x hx => ?_) fun env he s₁ ic => ⟨(hlim.keeps hg).keeps ic.toInCall.keep, codeAny_func ?_⟩
  · exact hkinds _ x.1 (List.of_mem_zip (a := x.1) (b := x.2) hx).1
  have eo : EnvOf fd env := by subst he; exact ⟨rfl, rfl, rfl, rfl, rfl⟩
  have fr : s.heap.objs.size ≤ env.locals := ic.toInCall.fresh
  have gone : ∀ a, s.heap.objs.size ≤ a → s.heap.get? a = none := fun a ha => by
    cases q : s.heap.get? a with
    | none => rfl
    | some o => exact absurd (Heap.lt_size q) (Nat.not_lt.mpr ha)
  have g0 : ∀ b, s.heap.get? b = none → h₀.get? b = none := fun b e => by
    cases q : h₀.get? b with
    | none => rfl
    | some o => rw [hg b o q] at e; cases e
  have nL := gone _ fr
  have nC : ∀ x c, (x, c) ∈ env.cells → s.heap.get? c = none := fun x c hm => gone c (Nat.le_of_lt (Nat.lt_of_le_of_lt fr (ic.above x c hm)))
  have cellIs : ∀ x c, (x, c) ∈ env.cells → ∃ v, s₁.heap.IsCell c v := fun x c hm => by
    refine ⟨_, ic.cell x c (lookup_of_mem_nodup ?_ hm)⟩
    rw [eo.cells]
    exact cellsFrom_names fd.scope.names 0 (env.locals + 1) [] [] rfl ▸ hcn
  have rr : RdAll s.heap (vs ++ dv) (ds ++ dd) as := by
    have gen : ∀ {vs : List Value} {ds : List PyData} {as : List Addr}, RdAll s.heap vs ds as → RdAll s.heap (vs ++ dv) (ds ++ dd) as := by
      intro vs ds as r
      induction r using RdAll.rec (motive_1 := fun _ _ _ _ => True) with
      | none => trivial
      | bool => trivial
      | int => trivial
      | list => trivial
      | nil => exact hdd _
      | cons r q _ ih => exact .cons r ih
    exact gen r
  have S₁ : St h₀ env [] (argLocs xs (ds ++ dd)) s₁.heap := by
    refine ⟨fun b o e => ic.toInCall.keep b o (hg b o e), ⟨_, ic.toInCall.ns⟩, cellIs, ic.apart, g0 _ nL, fun x c hm => g0 _ (nC x c hm), (fun _ _ h => nomatch h), (fun _ _ h => nomatch h), (fun _ _ _ h => nomatch h), fun x l e => ?_⟩
    obtain ⟨v, d, as', hm, rfl, rd⟩ := argLocs_get rr e
    have hnm : ((xs.zip (vs ++ dv)).map (·.1)).Nodup := by
      have : (xs.zip (vs ++ dv)).map Prod.fst = xs := List.map_fst_zip (by simp; lia)
      rw [this]; exact hnd
    refine ⟨v, ?_, as', rd.keeps ic.toInCall.keep, fun _ _ _ h => nomatch h⟩
    have hkx := hkinds (env.locals + 1) x (List.of_mem_zip hm).1
    have ek : env.kindOf x = fd.scope.names.lookup x := by unfold Env.kindOf; rw [eo.scope]
    rcases hkx with hl | ⟨hl, hc⟩
    · exact .inl ⟨ek.trans hl, _, ic.toInCall.ns, bindL_get hnm hm (ek.trans hl)⟩
    · rw [← eo.cells] at hc
      obtain ⟨c, hc⟩ := Option.isSome_iff_exists.mp hc
      refine .inr ⟨ek.trans hl, c, hc, ?_⟩
      have := ic.cell x c hc
      rwa [bindC_get hnm hm (by rw [ek, hl]; intro q; cases q)] at this
  have x₁ : Ext s s₁ := ⟨ic.toInCall.keep, ic.toInCall.same⟩
  refine hE (A.deeper env) env eo hh (by show A.depth + 1 + n ≤ _; lia) (by show A.units + 3 + 8 * n < _; lia) s₁ [] _ _ S₁ (fun _ _ _ _ _ _ h => h.elim) fun v d as' s' pr rd f' hk => ?_
  refine hQ v d as' s' ⟨fun b o e => pr.keep b o (x₁.keep b o e) (fun q => by rw [q, nL] at e; cases e) (fun x hx => by rw [nC x b hx] at e; cases e) (fun _ h => nomatch h), ?_⟩ rd (fun a ha => ?_) hk
  · obtain ⟨h1, t1, rfl⟩ := x₁.same
    obtain ⟨h2, t2, rfl⟩ := pr.same
    exact ⟨h2, t2, rfl⟩
  · rcases f' a ha with q | ⟨_, h⟩
    · exact x₁.fresh q
    · cases h
theorem vs1 {vs : List Value} (h : vs.length + 0 = 1) : ∃ v, vs = [v] := List.length_eq_one_iff.mp h
theorem vs2 {vs : List Value} (h : vs.length + 0 = 2) : ∃ v v', vs = [v, v'] := by
  rcases vs with _ | ⟨v, _ | ⟨v', _ | ⟨_, _⟩⟩⟩
  · cases h
  · cases h
  · exact ⟨v, v', rfl⟩
  · simp at h
theorem vs3 {vs : List Value} (h : vs.length + 0 = 3) : ∃ v v' v'', vs = [v, v', v''] := by
  rcases vs with _ | ⟨v, vs⟩
  · cases h
  · obtain ⟨v', v'', rfl⟩ := vs2 (vs := vs) (by simpa using h)
    exact ⟨v, v', v'', rfl⟩
end

section
variable {p : Program} {w : World} {h₀ : Heap} {A : Around} {env : Env} {m : Locs} {N : Locs → Prop} {T : PyData → Prop}

theorem pi_any {h : Heap} {ns : List Int} {vs : Array Value} (r : RdAll h vs.toList (PI ns) []) (a : Int) : ∃ e : Value → Bool, (∀ y, y ∈ vs → ∀ t, MeetsSeq.EqGives y (.int a t) (e y)) ∧ vs.any e = ns.contains a := by
  refine ⟨fun v => match v with | .int i _ => i == a | _ => false, fun y hy t => ?_, ?_⟩
  · obtain ⟨xs, rfl, _⟩ := pi_items r
    simp only [intItems, Array.mem_map] at hy
    obtain ⟨q, _, rfl⟩ := hy
    exact MeetsSeq.EqGives.int _ _ _ _
  · obtain ⟨xs, rfl, rfl⟩ := pi_items r
    rw [← Array.any_toList]
    have : (intItems xs).toList = xs.toList.map fun q => Value.int q.1 q.2 := by simp [intItems]
    rw [this]
    induction xs.toList with
    | nil => rfl
    | cons q l ih =>
      simp only [List.map_cons, List.any_cons, List.contains_cons, ih]
      congr 1
      rw [Bool.eq_iff_iff, beq_iff_eq, beq_iff_eq]
      exact ⟨Eq.symm, Eq.symm⟩
theorem evB_in {l r : Expr} {pos : Pos} {k : Bool → Prop} (h : EvI p w h₀ A env m l fun a => EvP p w h₀ A env m r fun ns => k (ns.contains a)) (hm : behindInMarks .In r = false := by with_unfolding_all rfl) : EvB p w h₀ A env m (.Compare l [.In] [r] pos) k := fun s O Q E S hQ =>
  wpAny_Compare1 (h s O _ E S fun a t s₁ x₁ h₁ => h₁ s₁ O _ E (S.ext x₁) fun b vs ns s₂ x₂ il q hk => by
    obtain ⟨e, he, ea⟩ := pi_any q a
    exact SeqInW.in_listW e (fun y hy => he y hy t) il.isList (hQ _ _ (x₁.trans x₂) (by rw [ea]; exact hk))) hm
theorem evB_notin {l r : Expr} {pos : Pos} {k : Bool → Prop} (h : EvI p w h₀ A env m l fun a => EvP p w h₀ A env m r fun ns => k (!ns.contains a)) (hm : behindInMarks .NotIn r = false := by with_unfolding_all rfl) : EvB p w h₀ A env m (.Compare l [.NotIn] [r] pos) k := fun s O Q E S hQ =>
  wpAny_Compare1 (h s O _ E S fun a t s₁ x₁ h₁ => h₁ s₁ O _ E (S.ext x₁) fun b vs ns s₂ x₂ il q hk => by
    obtain ⟨e, he, ea⟩ := pi_any q a
    exact SeqInW.notIn_listW e (fun y hy => he y hy t) il.isList (hQ _ _ (x₁.trans x₂) (by rw [ea]; exact hk))) hm
theorem tst_in {l r : Expr} {pos : Pos} {k : Bool → Prop} (h : EvI p w h₀ A env m l fun a => EvP p w h₀ A env m r fun ns => k (ns.contains a)) (hm : behindInMarks .In r = false := by with_unfolding_all rfl) : Tst p w h₀ A env m (.Compare l [.In] [r] pos) k := fun s O Q E S hQ =>
  wpAny_isTrue_Compare1 (h s O _ E S fun a t s₁ x₁ h₁ => h₁ s₁ O _ E (S.ext x₁) fun b vs ns s₂ x₂ il q hk => by
    obtain ⟨e, he, ea⟩ := pi_any q a
    exact SeqInW.in_listW e (fun y hy => he y hy t) il.isList (wpAny_truthy_bool (hQ _ _ (x₁.trans x₂) (by rw [ea]; exact hk)))) hm
theorem tst_notin {l r : Expr} {pos : Pos} {k : Bool → Prop} (h : EvI p w h₀ A env m l fun a => EvP p w h₀ A env m r fun ns => k (!ns.contains a)) (hm : behindInMarks .NotIn r = false := by with_unfolding_all rfl) : Tst p w h₀ A env m (.Compare l [.NotIn] [r] pos) k := fun s O Q E S hQ =>
  wpAny_isTrue_Compare1 (h s O _ E S fun a t s₁ x₁ h₁ => h₁ s₁ O _ E (S.ext x₁) fun b vs ns s₂ x₂ il q hk => by
    obtain ⟨e, he, ea⟩ := pi_any q a
    exact SeqInW.notIn_listW e (fun y hy => he y hy t) il.isList (wpAny_truthy_bool (hQ _ _ (x₁.trans x₂) (by rw [ea]; exact hk)))) hm

def CodeOk (h₀ : Heap) (env : Env) : Prop := ∃ c o vs, env.code = .ref c ∧ h₀.get? c = some o ∧ o.data = .fields vs
theorem in_main {s : Shared} {O : Owns} {E : Value → Shared → Prop} {Q : Bool → Shared → Prop} (hc : CodeOk h₀ env) (S : St h₀ env O m s.heap) (h : ∀ b, Q b s) : wpAny (model p w) A (inMainModule env) Q E s := by
  obtain ⟨c, o, vs, e, ho, hd⟩ := hc
  unfold inMainModule
  try dsimp only
  rw [e]
  split
  · exact wpAny_pure (h _)
  · refine wpAny_bind (wpAny_fieldsOf (S.ground _ _ ho) hd ?_)
    split
    · exact wpAny_bind (wpAny_askSetting (wpAny_pure (h _)))
    · exact wpAny_pure (h _)
theorem set_add {s : Shared} {E : Value → Shared → Prop} {Q : Bool → Shared → Prop} {a : Addr} {F : Int → Bool} {n : Nat} {i : Int} {t : Tok} (hS : s.heap.SetOf (PySem.intKind p w) a F n) (hb : n + 1 < scanBound)
    (h : ∀ b h' tk, Heap.SameBut a s.heap h' → h'.SetOf (PySem.intKind p w) a (fun j => F j || decide (j = i)) (if F i then n else n + 1) → Q b { s with heap := h', toks := tk }) : wpAny (model p w) A (setAdd a (.int i t)) Q E s := by
  unfold setAdd
  refine wpAny_holding (wpAny_bind ((PySem.intKind p w).pyHash (intKind_is _ _ _ _) ?_))
  exact wpAny_setAddHashed_of (s := { s with toks := s.toks + 1 }) (intKind_is _ _ _ _) rfl hS hb fun h' hs hS' => h _ h' _ hs hS'
theorem set_unled {s : Shared} {E : Value → Shared → Prop} {Q : Unit → Shared → Prop} {a : Addr} {F : Int → Bool} {n : Nat} (hS : s.heap.SetOf (PySem.intKind p w) a F n)
    (h : ∀ h', Heap.SameBut a s.heap h' → h'.SetOf (PySem.intKind p w) a F n → Q () { s with heap := h' }) : wpAny (model p w) A (setUnled a) Q E s := by
  obtain ⟨o, es, ep, t, ho, hex, hd, hel, hmem, hb, hf, hn⟩ := hS
  unfold setUnled
  refine wpAny_bind (wpAny_setState_of ho hd hf ?_)
  dsimp only
  refine wpAny_storeSet_of ho hd ?_ (fits_of_scanBound hb)
  have hf' : ({ t with led := false } : SetTable).fits es.size = true := by cases t; exact hf
  obtain ⟨_, hS⟩ := SetOf_store (knd := PySem.intKind p w) ho hex hd hel hmem hb hf'
  rw [hn] at hS
  exact h _ (Heap.SameBut.update ..) hS
theorem set_two {c d : Int} {i j : Nat} {pc pd pos : Pos} {s : Shared} {O : Owns} {E : Value → Shared → Prop} {Q : Value → Shared → Prop} (hc : CodeOk h₀ env) (S : St h₀ env O m s.heap)
    (h : ∀ a s', Ext s s' → s.heap.get? a = none → (∃ n, n < scanBound ∧ s'.heap.SetOf (PySem.intKind p w) a (fun k => (false || decide (k = c)) || decide (k = d)) n) → Q (.ref a) s') :
    wpAny (model p w) A (eval (.Set [.Constant (.int c) i pc, .Constant (.int d) j pd] 0 pos) env) Q E s := by
  rw [arm_eval_Set]
  refine wpAny_bind (wpAny_standAt (wpAny_bind (in_main hc S fun b => ?_)))
  rw [kds_star _ rfl, List.map_map]
  refine kds_core (ts := (evalEach [.Constant (.int c) i pc, .Constant (.int d) j pd] env).map fun t => do let v ← t; standAt pos; pure v) rfl rfl (Nat.le_of_ble_eq_true rfl) rfl fun led => ?_
  refine kds_all pos [.Constant (.int c) i pc, .Constant (.int d) j pd] _ _ ?_
  refine wpAny_Constant_int (wpAny_Constant_int ?_)
  have hz : scanBound > 10 := by decide
  have hS0 : (s.heap.push { cls := .type "set", dict := none, data := .set #[] 0 (.fresh 0 0 led) }).SetOf (PySem.intKind p w) s.heap.objs.size (fun _ => false) 0 := (setObjOf_fresh led).setOf (Heap.get?_push_size _ rfl) (by lia)
  refine kds_fill_cons (set_add (n := 0) hS0 (by lia) fun b₁ h₁ t₁ hs₁ hS₁ => ?_)
  have fr := size_none s.heap
  refine kds_fill_cons (set_add (n := 1) (by simpa using hS₁) (by lia) fun b₂ h₂ t₂ hs₂ hS₂ => ?_)
  refine kds_fill_nil rfl (h _ _ ⟨fun b o e => ?_, h₂, t₂, rfl⟩ fr ⟨_, ?_, hS₂⟩)
  · have hne : b ≠ s.heap.objs.size := fun q => by rw [q, fr] at e; cases e
    exact hs₂.extBut b o hne (hs₁.extBut b o hne (Heap.get?_push_of_some _ e))
  · split <;> lia
theorem evB_inset {l : Expr} {c d : Int} {i j : Nat} {pc pd sp pos : Pos} {k : Bool → Prop} (hc : CodeOk h₀ env) (h : EvI p w h₀ A env m l fun a => k (decide (a = c) || decide (a = d))) :
    EvB p w h₀ A env m (.Compare l [.In] [.Set [.Constant (.int c) i pc, .Constant (.int d) j pd] 0 sp] pos) k := fun s O Q E S hQ =>
  kdi_eval rfl (h s O _ E S fun a t s₁ x₁ hk => set_two hc (S.ext x₁) fun D s₂ x₂ nD ⟨n, hn, hS⟩ => kdi_mark (set_unled hS fun h' hs' hS' => by
    refine wpAny_inSet_of (s := { s₂ with heap := h' }) (intKind_is _ _ _ _) rfl (hS') (hQ _ { s₂ with heap := h', toks := s₂.toks + 1 } (x₁.trans ⟨fun b o e => hs'.extBut b o (fun q => by rw [q, nD] at e; cases e) (x₂.keep b o e), ?_⟩) (by simpa using hk))
    obtain ⟨hx, tk, e⟩ := x₂.same
    exact ⟨h', _, by rw [e]⟩))
theorem tst_inset {l : Expr} {c d : Int} {i j : Nat} {pc pd sp pos : Pos} {k : Bool → Prop} (hc : CodeOk h₀ env) (h : EvI p w h₀ A env m l fun a => k (decide (a = c) || decide (a = d))) :
    Tst p w h₀ A env m (.Compare l [.In] [.Set [.Constant (.int c) i pc, .Constant (.int d) j pd] 0 sp] pos) k := fun s O Q E S hQ =>
  kdi_test rfl (h s O _ E S fun a t s₁ x₁ hk => set_two hc (S.ext x₁) fun D s₂ x₂ nD ⟨n, hn, hS⟩ => kdi_mark (set_unled hS fun h' hs' hS' => by
    refine wpAny_inSet_of (s := { s₂ with heap := h' }) (intKind_is _ _ _ _) rfl (hS') (wpAny_truthy_bool (hQ _ { s₂ with heap := h', toks := s₂.toks + 1 } (x₁.trans ⟨fun b o e => hs'.extBut b o (fun q => by rw [q, nD] at e; cases e) (x₂.keep b o e), ?_⟩) (by simpa using hk)))
    obtain ⟨hx, tk, e⟩ := x₂.same
    exact ⟨h', _, by rw [e]⟩))

def PB (bs : List Bool) : List PyData := bs.map .bool
theorem pb_items {h : Heap} : ∀ {bs : List Bool} {vs : List Value} {as : List Addr}, RdAll h vs (PB bs) as → vs = bs.map Value.bool
  | [], _, _, .nil => rfl
  | b :: bs, _, _, .cons r q => by
    cases r
    rw [List.map_cons, ← pb_items (bs := bs) q]
theorem evI_sumB {x : Str} {e : Expr} {xp pos : Pos} {k : Int → Prop} (ok : EnvOk env) (hh : A.handled = none) (hx : env.kindOf x = some .globalImplicit) (B : Bi h₀ x (.builtin "sum")) (h : Ev p w h₀ A env .any m e fun d => ∃ bs, d = .list (PB bs) ∧ k (bs.map b2n).sum)
    (he : starEach [e] env = (false, eval e env) :: starEach [] env := by rfl) (hd : (x == ("__debug__" : Str)) = false := by decide) : EvI p w h₀ A env m (.Call (.Name x xp) [e] [] pos) k := fun s O Q E S hQ =>
  call_b1 ok hx B S (h s O _ E S fun v d as s₁ x₁ r f0 ⟨bs, e, hk⟩ => by
    subst e
    clear f0
    cases r with
    | list i q =>
      rename_i a vs as
      have ev := pb_items q
      have hlt : a ≠ s₁.heap.objs.size := size_ne i
      refine call_sum_walkAnyB (wpAny_pyIter_list i.isList ⟨_, _, _, _, _, _, _, fun j => (bs.map b2n).getD j 0, rfl, (Walks.list (A := A.in1) hh s₁.heap.objs.size a hlt vs).toS, ⟨⟨_, Heap.get?_push_size _ rfl, rfl, rfl⟩, i.isList.push _⟩, fun b hb => ?_, fun j v hv => ?_, fun s' t' hm => ?_⟩)
      · show b < (s₁.heap.push _).objs.size
        rw [Heap.size_push]
        have ha : a < s₁.heap.objs.size := by obtain ⟨n, e⟩ := i; exact Heap.lt_size e
        rcases List.mem_cons.mp hb with rfl | hb
        · exact Nat.lt_succ_self _
        · rcases List.mem_cons.mp hb with rfl | hb
          · exact Nat.lt_succ_of_lt ha
          · cases hb
      · have e1 : vs.toList[j]? = some v := by simpa using hv
        rw [ev, List.getElem?_map] at e1
        cases hj : bs[j]? with
        | none => rw [hj] at e1; cases e1
        | some b =>
          rw [hj] at e1
          cases e1
          exact .inr ⟨b, rfl, by simp [List.getD, hj, b2n]⟩
      · have e2 : ∀ (ns : List Int) (n : Nat), preSum (fun j => ns.getD j 0) n = (ns.take n).sum := by
          intro ns n
          induction n with
          | zero => simp [preSum]
          | succ n ih => rw [preSum, ih, PySem.sum_take_succ]
        have e3 : vs.size = (bs.map b2n).length := by rw [← Array.length_toList, ev]; simp
        rw [e2, e3, List.take_of_length_le (Nat.le_refl _)]
        obtain ⟨hx, tk, es⟩ := x₁.same
        refine hQ _ _ _ (x₁.trans ⟨fun b o e => hm.heap b o (fun hb => ?_) (Heap.get?_push_of_some _ e), s'.heap, s'.toks, (Moved.eq_with hm).trans rfl⟩) hk
        rcases List.mem_cons.mp hb with q | hb
        · rw [q, size_none] at e; cases e
        · cases hb) hd he
end

section
variable {p : Program} {w : World} {h₀ : Heap} {A : Around} {env : Env} {m : Locs} {N : Locs → Prop} {T : PyData → Prop}
theorem whw_inv {t : Expr} {b : List Stmt} (I : Nat → Locs → Prop) (h0 : ∀ m, ¬ I 0 m) (step : ∀ j m, I (j + 1) m → Tst p w h₀ A env m t fun c => if c then Ex p w h₀ A env m b (fun m' => I j m') T else N m) : ∀ n m, I n m → WhW p w h₀ A env t b N T n m
  | 0, m, h => (h0 m h).elim
  | n + 1, m, h => by
    unfold WhW
    refine fun s O Q E S hQ => step n m h s O Q E S fun c s' x hc => hQ c s' x ?_
    cases c with
    | false => exact hc
    | true => exact ex_mono hc (fun m' hm => whw_inv I h0 step n m' hm) fun _ t => t
theorem forw_inv {x : Str} {b : List Stmt} (I : List PyData → Locs → Prop) (h0 : ∀ m, I [] m → N m) (step : ∀ d ds m, I (d :: ds) m → Ex p w h₀ A env (st m x (.val d)) b (fun m' => I ds m') T) : ∀ ds m, I ds m → ForW p w h₀ A env x b N T ds m
  | [], m, h => h0 m h
  | d :: ds, m, h => by
    unfold ForW
    exact ex_mono (step d ds m h) (fun m' hm => forw_inv I h0 step ds m' hm) fun _ t => t
theorem forw_cons {x : Str} {b : List Stmt} {d : PyData} {ds : List PyData} (h : Ex p w h₀ A env (st m x (.val d)) b (fun m' => ForW p w h₀ A env x b N T ds m') T) : ForW p w h₀ A env x b N T (d :: ds) m := h
theorem forw_nil {x : Str} {b : List Stmt} (h : N m) : ForW p w h₀ A env x b N T [] m := h
theorem compw_cons {x : Str} {ifs : List Expr} {elt : Expr} {k : List PyData → Prop} {d : PyData} {ds out : List PyData} (h : TstS p w h₀ A env (st m x (.val d)) ifs fun b => if b then Ev p w h₀ A env .fresh (st m x (.val d)) elt fun r => CompW p w h₀ A env m x ifs elt k ds (out ++ [r]) else CompW p w h₀ A env m x ifs elt k ds out) : CompW p w h₀ A env m x ifs elt k (d :: ds) out := h
theorem compw_nil {x : Str} {ifs : List Expr} {elt : Expr} {k : List PyData → Prop} {out : List PyData} (h : k out) : CompW p w h₀ A env m x ifs elt k [] out := h
theorem compw_inv {x : Str} {ifs : List Expr} {elt : Expr} {k : List PyData → Prop} (I : List PyData → List PyData → Prop) (h0 : ∀ out, I [] out → k out)
    (step : ∀ d ds out, I (d :: ds) out → TstS p w h₀ A env (st m x (.val d)) ifs fun b => if b then Ev p w h₀ A env .fresh (st m x (.val d)) elt fun r => I ds (out ++ [r]) else I ds out)
    (mono : ∀ m (k k' : Bool → Prop), (∀ b, k b → k' b) → TstS p w h₀ A env m ifs k → TstS p w h₀ A env m ifs k') : ∀ ds out, I ds out → CompW p w h₀ A env m x ifs elt k ds out
  | [], out, h => h0 out h
  | d :: ds, out, h => by
    unfold CompW
    refine mono _ _ _ (fun b hb => ?_) (step d ds out h)
    cases b with
    | false => exact compw_inv I h0 step mono ds out hb
    | true => exact fun s O Q E S hQ => hb s O Q E S fun v d' as s' x' r f hk => hQ v d' as s' x' r f (compw_inv I h0 step mono ds _ hk)
theorem tstS_mono {ifs : List Expr} (m : Locs) (k k' : Bool → Prop) (h : ∀ b, k b → k' b) (t : TstS p w h₀ A env m ifs k) : TstS p w h₀ A env m ifs k' := by
  match ifs, t with
  | [], t => exact h _ t
  | [c], t => exact fun s O Q E S hQ => t s O Q E S fun b s' x hk => hQ b s' x (h b hk)
theorem tst_mono {e : Expr} {k k' : Bool → Prop} (t : Tst p w h₀ A env m e k) (h : ∀ b, k b → k' b) : Tst p w h₀ A env m e k' := fun s O Q E S hQ => t s O Q E S fun b s' x hk => hQ b s' x (h b hk)
theorem kind_at {ns : List (Str × NameKind)} {x : Str} {k : NameKind} (h : env.scope.names = ns) (e : ns.lookup x = some k) : env.kindOf x = some k := by
  unfold Env.kindOf; rw [h]; exact e
theorem stored_at {ns : List (Str × NameKind)} {x : Str} (h : env.scope.names = ns) (e : ns.lookup x = some .local) : Stored env x := .inl (kind_at h e)
theorem stored_cell {ns : List (Str × NameKind)} {x : Str} {c : Addr} (h : env.scope.names = ns) (e : ns.lookup x = some .cell) (hc : env.cells.lookup x = some c) : Stored env x := .inr ⟨kind_at h e, c, hc⟩
theorem ex_freeze {x : Str} {ds : List PyData} {b : List Stmt} (hx : gt m x = some (.own ds)) (h : Ex p w h₀ A env (st m x (.val (.list ds))) b N T) : Ex p w h₀ A env m b N T := fun s O Q E S hN hT => by
  obtain ⟨v, bd, a, vs, as, rfl, hm, il, r, n⟩ := S.vars x _ hx
  have sub : ∀ {y c}, (y, c) ∈ O.filter (fun q => q.2 ≠ a) → (y, c) ∈ O := fun h => (List.mem_filter.mp h).1
  have S' : St h₀ env (O.filter (fun q => q.2 ≠ a)) (st m x (.val (.list ds))) s.heap := by
    refine ⟨S.ground, S.frame, S.cells, S.apart, S.newL, S.newC, fun y c h => S.newO y c (sub h), fun y c h => S.lists y c (sub h), fun y z c h h' => S.uniq y z c (sub h) (sub h'), fun y l e => ?_⟩
    rw [gt_st] at e
    by_cases hy : y = x
    · subst hy
      rw [if_pos rfl] at e
      cases e
      refine ⟨.ref a, bd, a :: as, .list il r, fun c hc y' hy' => ?_⟩
      rcases List.mem_cons.mp hc with rfl | hc
      · have := (List.mem_filter.mp hy').2
        simp at this
      · exact n c hc y' (sub hy')
    · rw [if_neg hy] at e
      obtain ⟨u, bd', ru⟩ := S.vars y l e
      refine ⟨u, bd', ?_⟩
      cases l with
      | val d => obtain ⟨as', r', n'⟩ := ru; exact ⟨as', r', fun c hc z hz => n' c hc z (sub hz)⟩
      | own ds' =>
        obtain ⟨a', vs', as', e1, hm', i', r', n'⟩ := ru
        refine ⟨a', vs', as', e1, List.mem_filter.mpr ⟨hm', ?_⟩, i', r', fun c hc z hz => n' c hc z (sub hz)⟩
        have : a' ≠ a := fun q => hy (S.uniq y x a' hm' (q ▸ hm))
        simpa using this
  refine h s _ Q E S' (fun m' O' s' pr g S'' k => hN m' O' s' ⟨fun b o e h1 h2 h3 => pr.keep b o e h1 h2 fun z hz => h3 z (sub hz), pr.same⟩ (fun z c hz => (g z c hz).imp (fun ⟨y, hy⟩ => ⟨y, sub hy⟩) id) S'' k) fun v d as' s' pr rd f t => hT v d as' s' ⟨fun b o e h1 h2 h3 => pr.keep b o e h1 h2 fun z hz => h3 z (sub hz), pr.same⟩ rd (fun c hc => (f c hc).imp id fun ⟨y, hy⟩ => ⟨y, sub hy⟩) t
theorem ex_forget {m' : Locs} {b : List Stmt} (hm : ∀ x l, gt m' x = some l → gt m x = some l) (h : Ex p w h₀ A env m' b N T) : Ex p w h₀ A env m b N T := fun s O Q E S hN hT =>
  h s O Q E ⟨S.ground, S.frame, S.cells, S.apart, S.newL, S.newC, S.newO, S.lists, S.uniq, fun x l e => S.vars x l (hm x l e)⟩ hN hT
end

structure Gnd (K : Frag) (h₀ : Heap) : Prop where
  X : K.In h₀
  top : ∃ mg mb, h₀.Ns mainGlobals mg ∧ h₀.Ns builtinsNs mb ∧ ∀ x : Str, x ≠ "__name__" → mb x = bootBuiltins x
  lim : h₀.NoLimit
theorem Gnd.gl {K : Frag} {h₀ : Heap} (G : Gnd K h₀) {x : Str} {v : Value} (e : nsIn K mainGlobals x = some (some v)) : Gl h₀ x v :=
  let ⟨mg, _, g, _⟩ := G.top; ⟨mg, g, mg_of G.X g e⟩
theorem Gnd.bi {K : Frag} {h₀ : Heap} (G : Gnd K h₀) {x : Str} {v : Value} (e : nsIn K mainGlobals x = some none) (hv : bootBuiltins x = some v) (hn : x ≠ "__name__") : Bi h₀ x v :=
  let ⟨mg, mb, g, b, h⟩ := G.top; ⟨mg, mb, g, mg_none_of G.X g e, b, (h x hn).trans hv⟩

theorem st_st (m : Locs) (x : Str) (a b : Loc) : st (st m x a) x b = st m x b := by
  induction m with
  | nil => simp [st]
  | cons q r ih =>
    obtain ⟨y, k⟩ := q
    by_cases h : x = y
    · subst h; simp [st]
    · have : (x == y) = false := by simpa using h
      simp [st, this, ih]
def Has (m : Locs) : Locs → Prop
  | [] => True
  | (x, l) :: r => gt m x = some l ∧ Has m r
theorem Has.get {m : Locs} : ∀ {m' : Locs}, Has m m' → ∀ x l, gt m' x = some l → gt m x = some l
  | [], _, _, _, e => by simp [gt] at e
  | (y, k) :: r, ⟨h1, h2⟩, x, l, e => by
    unfold gt at e
    rw [List.lookup_cons] at e
    split at e
    · rename_i hb; rw [beq_iff_eq.mp hb, ← e]; exact h1
    · exact h2.get x l e
theorem ex_has {p : Program} {w : World} {h₀ : Heap} {A : Around} {env : Env} {m : Locs} {N : Locs → Prop} {T : PyData → Prop} {m' : Locs} {b : List Stmt} (h : Has m m') (e : Ex p w h₀ A env m' b N T) : Ex p w h₀ A env m b N T := ex_forget h.get e
theorem it_cases {c : Bool} {P Q : Prop} (t : c = true → P) (f : c = false → Q) : if c = true then P else Q := by
  cases c with
  | true => exact t rfl
  | false => exact f rfl
theorem it_t {c : Bool} {P Q : Prop} (h : c = true) (t : P) : if c = true then P else Q := by subst h; exact t
theorem it_f {c : Bool} {P Q : Prop} (h : c = false) (f : Q) : if c = true then P else Q := by subst h; exact f

section
variable {p : Program} {w : World} {h₀ : Heap} {A : Around} {env : Env} {m : Locs} {N : Locs → Prop} {T : PyData → Prop}
theorem evI_itemC {b : Expr} {i : Int} {n j : Nat} {cpos pos : Pos} {k : Int → Prop} (hn : i = (n : Int)) (h : EvP p w h₀ A env m b fun ns => (n < ns.length ∧ (ns.length : Int) < 2 ^ 63) ∧ k (ns.getD n 0)) :
    EvI p w h₀ A env m (.Subscript b (.Constant (.int i) j cpos) pos) k := by
  refine evI_item (fun s O Q E S hQ => h s O Q E S fun a vs ns s' x il r ⟨⟨h1, h2⟩, hk⟩ => hQ a vs ns s' x il r (evI_const ?_))
  subst hn
  refine ⟨⟨by lia, by lia, h2⟩, ?_⟩
  rw [Int.toNat_natCast]; exact hk
theorem tst_none {x : Str} {pos : Pos} {k : Bool → Prop} (hk : env.scope.kind = .function) (hx : gt m x = some (.val .none)) (h : k false) (hd : (x == ("__debug__" : Str)) = false := by decide) : Tst p w h₀ A env m (.Name x pos) k := fun s O Q E S hQ => by
  obtain ⟨v, b, as, r, _⟩ := S.vars x _ hx
  cases r
  exact isTrue_plain (load_bound hk b (truthy_none (hQ _ _ (Ext.refl s) h)) hd) rfl

def closes (env : Env) : List (Str × NameKind) → List (Str × Addr) → Option (List (Str × Addr))
  | [], cs => some cs
  | (n, k) :: r, cs => if k == .free then (match env.cells.lookup n with | some a => closes env r ((n, a) :: cs) | none => none) else closes env r cs
theorem closureFor_closes {scope : Scope} {cl : List (Str × Addr)} (h : closes env scope.names [] = some cl) : closureFor scope env = pure cl := by
  have gen : ∀ (f : Str × NameKind → List (Str × Addr) → Sem (ForInStep (List (Str × Addr)))), (∀ n k cs, f (n, k) cs = if k == .free then (do let a ← cellOf env n; pure (.yield ((n, a) :: cs))) else pure (.yield cs)) →
      ∀ (names : List (Str × NameKind)) (cs cl : List (Str × Addr)), closes env names cs = some cl → forIn names cs f = pure cl := by
    intro f hf names
    induction names with
    | nil => intro cs cl h; cases h; rfl
    | cons q r ih =>
      obtain ⟨n, k⟩ := q
      intro cs cl h
      rw [List.forIn_cons, hf]
      unfold closes at h
      by_cases hk : (k == NameKind.free) = true
      · rw [if_pos hk] at h ⊢
        cases hc : env.cells.lookup n with
        | none => rw [hc] at h; cases h
        | some a =>
          rw [hc] at h
          have e : cellOf env n = pure a := by unfold cellOf; rw [hc]
          rw [e]
          simp only [pure_bind]
          exact ih _ _ h
      · rw [if_neg hk] at h ⊢
        simp only [pure_bind]
        exact ih _ _ h
  simp only [closureFor]
  rw [gen _ (fun n k cs => by cases hk : k == NameKind.free <;> simp) scope.names [] cl h]
  rfl
theorem relabel_free {scope : Scope} {x : Str} (hk : env.scope.kind = .function) (hx : env.kindOf x = some .cell) (h : scope.names.lookup x = some .free) : (relabel scope env).names.lookup x = some .cell := by
  show (scope.names.map _).lookup x = _
  generalize scope.names = names at h
  induction names with
  | nil => simp at h
  | cons q r ih =>
    obtain ⟨n, k⟩ := q
    rw [List.map_cons]
    by_cases e : x = n
    · subst e
      rw [List.lookup_cons] at h
      simp only [beq_self_eq_true] at h
      cases h
      simp [hk, hx]
    · have hb : (x == n) = false := by simpa using e
      rw [List.lookup_cons, hb] at h
      have := ih h
      by_cases hc : (k == NameKind.free && env.scope.kind == .function && env.kindOf n == some .cell) = true
      · show List.lookup x ((if (k == NameKind.free && env.scope.kind == .function && env.kindOf n == some .cell) = true then (n, NameKind.cell) else (n, k)) :: _) = _
        rw [if_pos hc, List.lookup_cons, hb]; exact this
      · show List.lookup x ((if (k == NameKind.free && env.scope.kind == .function && env.kindOf n == some .cell) = true then (n, NameKind.cell) else (n, k)) :: _) = _
        rw [if_neg hc, List.lookup_cons, hb]; exact this
theorem caught_nil {scope : Scope} {cl : List (Str × Addr)} : Caught env scope cl m [] := fun y l e => by simp [gt] at e
theorem caught_cons {scope : Scope} {cl : List (Str × Addr)} {mc : Locs} {x : Str} {l : Loc} {c : Addr} (hk : env.scope.kind = .function) (hm : gt m x = some l) (hx : env.kindOf x = some .cell) (hs : scope.names.lookup x = some .free) (hc : cl.lookup x = some c) (hc' : env.cells.lookup x = some c)
    (h : Caught env scope cl m mc) : Caught env scope cl m ((x, l) :: mc) := fun y l' e => by
  unfold gt at e
  rw [List.lookup_cons] at e
  split at e
  · rename_i hb
    rw [beq_iff_eq.mp hb]
    cases e
    exact ⟨hm, hx, relabel_free hk hx hs, c, hc, hc'⟩
  · exact h y l' e
theorem compEnv_ok {scope : Scope} {cl : List (Str × Addr)} {C : Addr} (ok : EnvOk env) (hk : scope.kind = .function) : EnvOk (compEnvC scope cl C env) := ⟨hk, ok.glob, ok.blt⟩
theorem tstS_nil {k : Bool → Prop} (h : k true) : TstS p w h₀ A env m [] k := h
theorem tstS_one {c : Expr} {k : Bool → Prop} (h : Tst p w h₀ A env m c k) : TstS p w h₀ A env m [c] k := h
theorem compw_map {x : Str} {elt : Expr} {k : List PyData → Prop} (f : PyData → PyData) : ∀ (ds out : List PyData), (∀ d ∈ ds, Ev p w h₀ A env .fresh (st m x (.val d)) elt fun r => r = f d) → k (out ++ ds.map f) → CompW p w h₀ A env m x [] elt k ds out
  | [], out, _, hk => compw_nil (by simpa using hk)
  | d :: ds, out, h, hk => by
    refine compw_cons (tstS_nil (it_t rfl ?_))
    refine fun s O Q E S hQ => h d (.head _) s O Q E S fun v d' as s' x' r f' e => hQ v d' as s' x' r f' ?_
    subst e
    exact compw_map f ds _ (fun d' hd => h d' (.tail _ hd)) (by simpa using hk)
theorem compw_filter {x : Str} {elt c : Expr} {k : List PyData → Prop} (t : PyData → Bool) (f : PyData → PyData) : ∀ (ds out : List PyData), (∀ d ∈ ds, Tst p w h₀ A env (st m x (.val d)) c fun b => b = t d) → (∀ d ∈ ds, t d = true → Ev p w h₀ A env .fresh (st m x (.val d)) elt fun r => r = f d) → k (out ++ (ds.filter t).map f) → CompW p w h₀ A env m x [c] elt k ds out
  | [], out, _, _, hk => compw_nil (by simpa using hk)
  | d :: ds, out, ht, h, hk => by
    refine compw_cons ?_
    refine tst_mono (ht d (.head _)) fun b e => ?_
    subst e
    cases hb : t d with
    | true =>
      rw [if_pos rfl]
      refine fun s O Q E S hQ => h d (.head _) hb s O Q E S fun v d' as s' x' r f' e => hQ v d' as s' x' r f' ?_
      subst e
      exact compw_filter t f ds _ (fun d' hd => ht d' (.tail _ hd)) (fun d' hd => h d' (.tail _ hd)) (by simpa [List.filter_cons, hb] using hk)
    | false =>
      rw [if_neg Bool.false_ne_true]
      exact compw_filter t f ds _ (fun d' hd => ht d' (.tail _ hd)) (fun d' hd => h d' (.tail _ hd)) (by simpa [List.filter_cons, hb] using hk)
end

section
variable {p : Program} {w : World} {h₀ : Heap} {A : Around} {env : Env} {m : Locs} {N : Locs → Prop} {T : PyData → Prop}
theorem rng_drop (n i : Nat) (h : i < n) : (rng n).drop i = (i : Int) :: (rng n).drop (i + 1) := by
  have hl : (rng n).length = n := by simp [rng]
  rw [List.drop_eq_getElem_cons (by lia)]
  congr 1
  simp [rng]
theorem forw_range {x : Str} {b : List Stmt} (n : Nat) (I : Nat → Locs → Prop) (h0 : ∀ m, I n m → N m) (step : ∀ i m, i < n → I i m → Ex p w h₀ A env (st m x (.val (.int i))) b (fun m' => I (i + 1) m') T) (m : Locs) (h : I 0 m) : ForW p w h₀ A env x b N T (PI (rng n)) m := by
  refine forw_inv (fun ds m => ∃ i, i ≤ n ∧ ds = PI ((rng n).drop i) ∧ I i m) ?_ ?_ _ _ ⟨0, Nat.zero_le _, by simp, h⟩
  · rintro m ⟨i, hi, e, hI⟩
    have hl : (rng n).length = n := by simp [rng]
    have : i = n := by
      have := congrArg List.length e
      simp [PI, hl] at this
      lia
    subst this; exact h0 m hI
  · rintro d ds m ⟨i, hi, e, hI⟩
    have hlt : i < n := by
      rcases Nat.lt_or_ge i n with h | h
      · exact h
      · have hl : (rng n).length = n := by simp [rng]
        rw [List.drop_eq_nil_of_le (by lia)] at e; cases e
    rw [rng_drop n i hlt, PI, List.map_cons] at e
    obtain ⟨rfl, rfl⟩ := List.cons.inj e
    exact ex_mono (step i m hlt hI) (fun m' hm => ⟨i + 1, hlt, rfl, hm⟩) fun _ t => t
theorem swaps_t {elt : Expr} {gs : List Comprehension} {scope : Scope} {pos py : Pos} {y : Str} {l : Nat} (ok : EnvOk env) (hy : env.kindOf y = some .local) (hl : (py.line == pos.line) = true) (hn : (scope.names.any fun (n, k) => n == y && (k == .local || k == .cell)) = false) :
    swapsWith (.ListComp elt gs scope pos) (some (.Name y py)) l env = pure true := by
  have hb : env.blockKind = .function := by unfold Env.blockKind; rw [ok.kind]; rfl
  show (pure (env.blockKind == .function && env.kindOf y == some .local && py.line == pos.line && !(scope.names.any fun (n, k) => n == y && (k == .local || k == .cell))) : Sem Bool) = pure true
  rw [hb, hy, hl, hn]; rfl
theorem compw_env {sc : Scope} {cl : List (Str × Addr)} {C : Addr} {mc : Locs} {x : Str} {ifs : List Expr} {elt : Expr} {k : List PyData → Prop} {ds out : List PyData} (ok : EnvOk env) (hk : sc.kind = .function) (h : ∀ e', EnvOk e' → e'.scope.names = (relabel sc env).names → CompW p w h₀ A e' mc x ifs elt k ds out) : CompW p w h₀ A (compEnvC sc cl C env) mc x ifs elt k ds out := h _ (compEnv_ok ok hk) rfl
theorem evB_eqBB {l r : Expr} {pos : Pos} {k : Bool → Prop} (h : EvB p w h₀ A env m l fun a => EvB p w h₀ A env m r fun b => k (a == b)) (hm : behindInMarks .Eq r = false := by with_unfolding_all rfl) : EvB p w h₀ A env m (.Compare l [.Eq] [r] pos) k :=
  fun s O Q E S hQ => wpAny_Compare1 (h s O _ E S fun _ _ x₁ h₁ => h₁ _ O _ E (S.ext x₁) fun _ s₂ x₂ h₂ => eq_bool (hQ _ _ (x₁.trans x₂) h₂)) hm
end

-- bits
theorem and7 {m : Int} (h : 0 ≤ m) : Builtin.bitAnd m 7 = m % 8 := by
  rw [bitAnd_pp h (by decide)]
  have : m.toNat &&& (7 : Int).toNat = m.toNat % 8 := Nat.and_two_pow_sub_one_eq_mod m.toNat 3
  rw [this]; lia
theorem fdiv8 (m : Int) : m.fdiv (2 ^ (3 : Int).toNat) = m / 8 := by
  have : (2 : Int) ^ (3 : Int).toNat = 8 := by decide
  rw [this]; exact Int.fdiv_eq_ediv_of_nonneg m (by decide)
def dg (m : Int) (i : Nat) : Int := m / 8 ^ i % 8
theorem and7s {m : Int} (h : 0 ≤ m) (i : Nat) : Builtin.bitAnd m (7 * 8 ^ i) = dg m i * 8 ^ i := by
  have h8 : (0 : Int) < 8 ^ i := Int.pow_pos (by decide)
  rw [bitAnd_pp h (by lia)]
  have e1 : ((7 : Int) * 8 ^ i).toNat = (7 : Nat) <<< (3 * i) := by
    rw [Nat.shiftLeft_eq, Nat.pow_mul]
    have : (7 : Int) * 8 ^ i = ((7 * (2 ^ 3) ^ i : Nat) : Int) := by push_cast; rfl
    rw [this, Int.toNat_natCast]
  rw [e1]
  have e2 : m.toNat &&& (7 : Nat) <<< (3 * i) = ((m.toNat >>> (3 * i)) &&& 7) <<< (3 * i) := by
    apply Nat.eq_of_testBit_eq
    intro j
    simp only [Nat.testBit_and, Nat.testBit_shiftLeft, Nat.testBit_shiftRight]
    by_cases hj : j ≥ 3 * i
    · simp [hj, Nat.add_sub_cancel' hj]
    · simp [hj]
  rw [e2, Nat.shiftLeft_eq, Nat.shiftRight_eq_div_pow]
  have e3 : m.toNat / 2 ^ (3 * i) &&& 7 = m.toNat / 2 ^ (3 * i) % 8 := Nat.and_two_pow_sub_one_eq_mod _ 3
  rw [e3, Nat.pow_mul]
  unfold dg
  have hm : m = (m.toNat : Int) := by lia
  conv => rhs; rw [hm]
  push_cast
  rfl
theorem or_add {a b : Int} {n : Nat} (h0 : 0 ≤ a) (h1 : a < 2 ^ n) (hb : 0 ≤ b) : Builtin.bitOr a (b * 2 ^ n) = a + b * 2 ^ n := by
  have hp : (0 : Int) < 2 ^ n := Int.pow_pos (by decide)
  have hbn : 0 ≤ b * 2 ^ n := Int.mul_nonneg hb (by lia)
  rw [bitOr_and, bitAnd_pp h0 hbn]
  have e1 : (b * 2 ^ n).toNat = b.toNat <<< n := by
    rw [Nat.shiftLeft_eq]
    have hb' : b = (b.toNat : Int) := by lia
    have : b * 2 ^ n = ((b.toNat * 2 ^ n : Nat) : Int) := by rw [hb']; push_cast; simp
    rw [this, Int.toNat_natCast]
  have ha : a.toNat < 2 ^ n := by
    have : ((a.toNat : Nat) : Int) < ((2 ^ n : Nat) : Int) := by push_cast; lia
    exact_mod_cast this
  have e2 : a.toNat &&& b.toNat <<< n = 0 := by
    apply Nat.eq_of_testBit_eq
    intro j
    simp only [Nat.testBit_and, Nat.testBit_shiftLeft, Nat.zero_testBit]
    by_cases hj : j ≥ n
    · have : a.toNat.testBit j = false := Nat.testBit_lt_two_pow (Nat.lt_of_lt_of_le ha (Nat.pow_le_pow_right (by decide) hj))
      simp [this]
    · simp [hj]
  rw [e1, e2]; simp

-- the greedy parting
def can (i : Nat) : Bool := decide (i < 27) && decide (i % 9 < 7)
def GG : Nat → Int → Int → List Int → Bool
  | _, _, _, [] => true
  | i, p, q, a :: t => decide (0 ≤ a - p - q) && (if can i then GG (i + 1) ((a - p - q) % 3) p t else decide ((a - p - q) % 3 = 0) && GG (i + 1) 0 p t)

theorem gg_zeros (l : List Int) : ∀ (k i : Nat), GG i 0 0 (List.replicate k 0 ++ l) = GG (i + k) 0 0 l
  | 0, i => rfl
  | k + 1, i => by
    rw [List.replicate_succ, List.cons_append, GG]
    have := gg_zeros l k (i + 1)
    rw [show i + 1 + k = i + (k + 1) by lia] at this
    cases can i <;> simp [this]
theorem gg_three {i : Nat} {c : Int} {t : List Int} (h : 3 ≤ c) : GG i 0 0 ((c - 3) :: t) = GG i 0 0 (c :: t) := by
  rw [GG, GG]
  have e : (c - 3 - 0 - 0) % 3 = (c - 0 - 0) % 3 := by lia
  have e1 : decide (0 ≤ c - 3 - 0 - 0) = true := by simp; lia
  have e2 : decide (0 ≤ c - 0 - 0) = true := by simp; lia
  rw [e, e1, e2]
theorem gg_run {i : Nat} {c x y : Int} {t : List Int} (hi : can i = true) (hc : 1 ≤ c) (hx : 1 ≤ x) (hy : 1 ≤ y) (h : GG i 0 0 ((c - 1) :: (x - 1) :: (y - 1) :: t) = true) : GG i 0 0 (c :: x :: y :: t) = true := by
  simp only [GG, hi, if_true, Bool.and_eq_true, decide_eq_true_eq] at h ⊢
  obtain ⟨h1, h2, h3⟩ := h
  refine ⟨by lia, ?_⟩
  by_cases hy2 : (c - 1) % 3 = 2
  · have e0 : (c - 1 - 0 - 0) % 3 = 2 := by lia
    have e0' : (c - 0 - 0) % 3 = 0 := by lia
    rw [e0] at h2 h3
    rw [e0']
    have e1 : (x - 1 - 2 - 0) % 3 = (x - 0 - 0) % 3 := by lia
    rw [e1] at h3
    refine ⟨by lia, ?_⟩
    cases hn : can (i + 1) with
    | true =>
      rw [hn] at h3
      simp only [if_true, Bool.and_eq_true, decide_eq_true_eq] at h3 ⊢
      obtain ⟨h4, h5⟩ := h3
      have e2 : (y - 1 - (x - 0 - 0) % 3 - 2) % 3 = (y - (x - 0 - 0) % 3 - 0) % 3 := by lia
      rw [e2] at h5
      exact ⟨by lia, h5⟩
    | false =>
      rw [hn] at h3
      simp only [Bool.false_eq_true, if_false, Bool.and_eq_true, decide_eq_true_eq] at h3 ⊢
      obtain ⟨h4, h5, h6⟩ := h3
      have e2 : (y - 1 - 0 - 2) % 3 = (y - 0 - 0) % 3 := by lia
      rw [e2] at h6
      exact ⟨h4, by lia, h6⟩
  · have e0 : (c - 0 - 0) % 3 = (c - 1 - 0 - 0) % 3 + 1 := by lia
    rw [e0]
    generalize (c - 1 - 0 - 0) % 3 = y0 at h2 h3 ⊢
    have e1 : x - (y0 + 1) - 0 = x - 1 - y0 - 0 := by lia
    rw [e1]
    refine ⟨h2, ?_⟩
    cases hn : can (i + 1) with
    | true =>
      rw [hn] at h3
      simp only [if_true, Bool.and_eq_true, decide_eq_true_eq] at h3 ⊢
      have e2 : y - (x - 1 - y0 - 0) % 3 - (y0 + 1) = y - 1 - (x - 1 - y0 - 0) % 3 - y0 := by lia
      rw [e2]; exact h3
    | false =>
      rw [hn] at h3
      simp only [Bool.false_eq_true, if_false, Bool.and_eq_true, decide_eq_true_eq] at h3 ⊢
      have e2 : y - 0 - (y0 + 1) = y - 1 - 0 - y0 := by lia
      rw [e2]; exact h3
theorem gg_run' {i : Nat} {c x y : Int} {t : List Int} (hi : can i = true) (hc : 1 ≤ c) (hc2 : c ≤ 2) (hx : 1 ≤ x) (hy : 1 ≤ y) (h : GG i 0 0 (c :: x :: y :: t) = true) : GG i 0 0 ((c - 1) :: (x - 1) :: (y - 1) :: t) = true := by
  simp only [GG, hi, if_true, Bool.and_eq_true, decide_eq_true_eq] at h ⊢
  obtain ⟨h1, h2, h3⟩ := h
  refine ⟨by lia, ?_⟩
  have e0 : (c - 0 - 0) % 3 = (c - 1 - 0 - 0) % 3 + 1 := by lia
  rw [e0] at h2 h3
  generalize (c - 1 - 0 - 0) % 3 = y0 at h2 h3 ⊢
  have e1 : x - (y0 + 1) - 0 = x - 1 - y0 - 0 := by lia
  rw [e1] at h2 h3
  refine ⟨h2, ?_⟩
  cases hn : can (i + 1) with
  | true =>
    rw [hn] at h3
    simp only [if_true, Bool.and_eq_true, decide_eq_true_eq] at h3 ⊢
    have e2 : y - (x - 1 - y0 - 0) % 3 - (y0 + 1) = y - 1 - (x - 1 - y0 - 0) % 3 - y0 := by lia
    rw [e2] at h3; exact h3
  | false =>
    rw [hn] at h3
    simp only [Bool.false_eq_true, if_false, Bool.and_eq_true, decide_eq_true_eq] at h3 ⊢
    have e2 : y - 0 - (y0 + 1) = y - 1 - 0 - y0 := by lia
    rw [e2] at h3; exact h3
theorem gg_no {i : Nat} {c : Int} {t : List Int} (hc : 1 ≤ c) (hc2 : c ≤ 2) (h : can i = true → ∀ x y t', t = x :: y :: t' → ¬ (1 ≤ x ∧ 1 ≤ y)) (ht : can i = true → 2 ≤ t.length) : GG i 0 0 (c :: t) = false := by
  rw [Bool.eq_false_iff]
  intro hg
  rw [GG] at hg
  cases hi : can i with
  | false =>
    rw [hi] at hg
    simp only [Bool.false_eq_true, if_false, Bool.and_eq_true, decide_eq_true_eq] at hg
    lia
  | true =>
    rw [hi] at hg
    have hl := ht hi
    match t, hl, h hi with
    | x :: y :: t', _, hn =>
      have hn := hn x y t' rfl
      simp only [GG, if_true, Bool.and_eq_true, decide_eq_true_eq] at hg
      obtain ⟨h1, h2, h3⟩ := hg
      cases hn' : can (i + 1) with
      | true =>
        rw [hn'] at h3
        simp only [if_true, Bool.and_eq_true, decide_eq_true_eq] at h3
        lia
      | false =>
        rw [hn'] at h3
        simp only [Bool.false_eq_true, if_false, Bool.and_eq_true, decide_eq_true_eq] at h3
        lia

theorem getD_set (ns : List Int) (i j : Nat) (v : Int) : (ns.set i v).getD j 0 = if j = i ∧ i < ns.length then v else ns.getD j 0 := by
  simp only [List.getD_eq_getElem?_getD, List.getElem?_set]
  by_cases h : i = j
  · subst h
    by_cases hl : i < ns.length
    · simp [hl]
    · simp [hl]
  · have : ¬ j = i := fun e => h e.symm
    simp [h, this]
theorem sum_set : ∀ (ns : List Int) (i : Nat) (v : Int), i < ns.length → (ns.set i v).sum = ns.sum - ns.getD i 0 + v
  | [], _, _, h => absurd h (Nat.not_lt_zero _)
  | n :: ns, 0, v, _ => by simp; lia
  | n :: ns, i + 1, v, h => by
    have := sum_set ns i v (Nat.lt_of_succ_lt_succ h)
    simp only [List.set_cons_succ, List.sum_cons, this, List.getD_cons_succ]; lia
theorem sum_nonneg : ∀ (ns : List Int), (∀ i, 0 ≤ ns.getD i 0) → 0 ≤ ns.sum
  | [], _ => by simp
  | n :: ns, h => by
    have h1 := h 0
    have h2 := sum_nonneg ns fun i => by simpa using h (i + 1)
    simp at h1 ⊢; lia
theorem le_sum : ∀ (ns : List Int) (i : Nat), (∀ i, 0 ≤ ns.getD i 0) → ns.getD i 0 ≤ ns.sum
  | [], i, _ => by simp
  | n :: ns, 0, h => by
    have := sum_nonneg ns fun i => by simpa using h (i + 1)
    simp; lia
  | n :: ns, i + 1, h => by
    have h0 := h 0
    have := le_sum ns i fun i => by simpa using h (i + 1)
    simp at h0 ⊢; simp at this; lia
theorem split_zeros (ns : List Int) (k : Nat) (hk : k < ns.length) (h : ∀ i, i < k → ns.getD i 0 = 0) : ns = List.replicate k 0 ++ (ns.getD k 0 :: ns.drop (k + 1)) := by
  apply List.ext_getElem?
  intro i
  by_cases h1 : i < k
  · rw [List.getElem?_append_left (by simpa using h1)]
    have := h i h1
    rw [List.getD_eq_getElem?_getD] at this
    have hl : i < ns.length := by lia
    simp [hl] at this
    simp [hl, h1, this]
  · rw [List.getElem?_append_right (by simp; lia), List.length_replicate]
    by_cases h2 : i = k
    · subst h2; simp [hk]
    · obtain ⟨j, hj⟩ : ∃ j, i - k = j + 1 := ⟨i - k - 1, by lia⟩
      rw [hj, List.getElem?_cons_succ, List.getElem?_drop]
      congr 1; lia

theorem drop_cons (ns : List Int) (i : Nat) (h : i < ns.length) : ns.drop i = ns.getD i 0 :: ns.drop (i + 1) := by
  rw [List.drop_eq_getElem_cons h]
  simp [List.getD, h]
theorem gg_set (ns : List Int) (i : Nat) (hi : i < ns.length) (hz : ∀ z, z < i → ns.getD z 0 = 0) (v : Int) : GG 0 0 0 (ns.set i v) = GG i 0 0 (v :: ns.drop (i + 1)) := by
  have e := split_zeros (ns.set i v) i (by simpa using hi) fun z hz' => by
    rw [getD_set, if_neg (by lia)]; exact hz z hz'
  rw [getD_set, if_pos ⟨rfl, hi⟩, List.drop_set_of_lt (by lia)] at e
  rw [e, gg_zeros, Nat.zero_add]
theorem gg_set3 (ns : List Int) (i : Nat) (hi : i + 2 < ns.length) (hz : ∀ z, z < i → ns.getD z 0 = 0) (a b c : Int) : GG 0 0 0 (((ns.set i a).set (i + 1) b).set (i + 2) c) = GG i 0 0 (a :: b :: c :: ns.drop (i + 3)) := by
  have e : ((ns.set i a).set (i + 1) b).set (i + 2) c = ((ns.set (i + 1) b).set (i + 2) c).set i a := by
    rw [List.set_comm a b (by lia), List.set_comm a c (by lia)]
  rw [e, gg_set _ i (by simp; lia) (fun z hz' => by rw [getD_set, if_neg (by lia), getD_set, if_neg (by lia)]; exact hz z hz')]
  have e1 : List.drop (i + 1) ((ns.set (i + 1) b).set (i + 2) c) = b :: c :: ns.drop (i + 3) := by
    rw [drop_cons _ (i + 1) (by simp; lia), drop_cons _ (i + 1 + 1) (by simp; lia)]
    rw [getD_set, if_neg (by lia), getD_set, if_pos ⟨rfl, by lia⟩, getD_set, if_pos ⟨rfl, by simp; lia⟩]
    rw [List.drop_set_of_lt (by lia), List.drop_set_of_lt (by lia)]
  rw [e1]
theorem sum_idx : ∀ (idx : List Nat) (l : List Int), (∀ i, 0 ≤ l.getD i 0) → idx.Nodup → (∀ i ∈ idx, i < l.length) → (idx.map fun i => l.getD i 0).sum ≤ l.sum
  | [], l, h, _, _ => by simpa using sum_nonneg l h
  | i :: idx, l, h, hn, hi => by
    have hn' := List.nodup_cons.mp hn
    have hlt := hi i (.head _)
    have ih := sum_idx idx (l.set i 0) (fun j => by rw [getD_set]; split; exact Int.le_refl _; exact h j) hn'.2 (fun j hj => by simpa using hi j (.tail _ hj))
    rw [sum_set l i 0 hlt] at ih
    have e : (idx.map fun j => (l.set i 0).getD j 0) = idx.map fun j => l.getD j 0 := List.map_congr_left fun j hj => by
      rw [getD_set, if_neg]; rintro ⟨rfl, _⟩; exact hn'.1 hj
    rw [e] at ih
    simp only [List.map_cons, List.sum_cons]
    clear e hn hi hlt h hn'
    lia

def rn (a : Int) : Int := if a = 1 ∨ a = 4 then 1 else if a = 2 then 2 else 0
def mentsuL : Nat → Int → Int → Int → Bool
  | 0, _, c, m => decide (m / 8 % 8 - c = 0) || decide (m / 8 % 8 - c = 3)
  | n + 1, a, c, m => if m / 8 % 8 - (c + rn a) < 0 then false else mentsuL n (m / 8 % 8 - (c + rn a)) (rn a) (m / 8)
def mentsu (m : Int) : Bool := if m / 8 % 8 - rn (m % 8) < 0 then false else mentsuL 6 (m / 8 % 8 - rn (m % 8)) (rn (m % 8)) (m / 8)
def num : List Int → Int
  | [] => 0
  | a :: t => a + 8 * num t
def at2 (m : Int) (i : Nat) : Bool := decide (2 ≤ dg m i) && mentsu (m - 2 * 8 ^ i)
def atama (nn m : Int) : Bool :=
  if nn = 0 then at2 m 2 || at2 m 5 || at2 m 8 else if nn = 1 then at2 m 1 || at2 m 4 || at2 m 7 else if nn = 2 then at2 m 0 || at2 m 3 || at2 m 6 else false
theorem num_nonneg : ∀ (l : List Int), (∀ a ∈ l, 0 ≤ a) → 0 ≤ num l
  | [], _ => by simp [num]
  | a :: t, h => by
    have h1 := h a (.head _)
    have h2 := num_nonneg t fun b hb => h b (.tail _ hb)
    simp only [num]; lia
theorem meld_num {t0 t1 t2 t3 t4 t5 t6 t7 t8 : Int} (h0 : 0 ≤ t0 ∧ t0 ≤ 7) (h1 : 0 ≤ t1 ∧ t1 ≤ 7) (h2 : 0 ≤ t2 ∧ t2 ≤ 7) (h3 : 0 ≤ t3 ∧ t3 ≤ 7) (h4 : 0 ≤ t4 ∧ t4 ≤ 7) (h5 : 0 ≤ t5 ∧ t5 ≤ 7) (h6 : 0 ≤ t6 ∧ t6 ≤ 7) (h7 : 0 ≤ t7 ∧ t7 ≤ 7) (h8 : 0 ≤ t8 ∧ t8 ≤ 7) :
    Builtin.bitOr (Builtin.bitOr (Builtin.bitOr (Builtin.bitOr (Builtin.bitOr (Builtin.bitOr (Builtin.bitOr (Builtin.bitOr t0 (t1 * 2 ^ 3)) (t2 * 2 ^ 6)) (t3 * 2 ^ 9)) (t4 * 2 ^ 12)) (t5 * 2 ^ 15)) (t6 * 2 ^ 18)) (t7 * 2 ^ 21)) (t8 * 2 ^ 24) = num [t0, t1, t2, t3, t4, t5, t6, t7, t8] := by
  rw [or_add (a := t0) (b := t1) (n := 3) (by lia) (by lia) (by lia)]
  rw [or_add (a := t0 + t1 * 2 ^ 3) (b := t2) (n := 6) (by lia) (by lia) (by lia)]
  rw [or_add (a := t0 + t1 * 2 ^ 3 + t2 * 2 ^ 6) (b := t3) (n := 9) (by lia) (by lia) (by lia)]
  rw [or_add (a := t0 + t1 * 2 ^ 3 + t2 * 2 ^ 6 + t3 * 2 ^ 9) (b := t4) (n := 12) (by lia) (by lia) (by lia)]
  rw [or_add (a := t0 + t1 * 2 ^ 3 + t2 * 2 ^ 6 + t3 * 2 ^ 9 + t4 * 2 ^ 12) (b := t5) (n := 15) (by lia) (by lia) (by lia)]
  rw [or_add (a := t0 + t1 * 2 ^ 3 + t2 * 2 ^ 6 + t3 * 2 ^ 9 + t4 * 2 ^ 12 + t5 * 2 ^ 15) (b := t6) (n := 18) (by lia) (by lia) (by lia)]
  rw [or_add (a := t0 + t1 * 2 ^ 3 + t2 * 2 ^ 6 + t3 * 2 ^ 9 + t4 * 2 ^ 12 + t5 * 2 ^ 15 + t6 * 2 ^ 18) (b := t7) (n := 21) (by lia) (by lia) (by lia)]
  rw [or_add (a := t0 + t1 * 2 ^ 3 + t2 * 2 ^ 6 + t3 * 2 ^ 9 + t4 * 2 ^ 12 + t5 * 2 ^ 15 + t6 * 2 ^ 18 + t7 * 2 ^ 21) (b := t8) (n := 24) (by lia) (by lia) (by lia)]
  simp only [num]; lia
theorem cond_dg {m : Int} (h0 : 0 ≤ m) {e : Int} (i : Nat) (he : (2 : Int) ^ e.toNat = 8 ^ i) : decide (Builtin.bitAnd m (7 * 2 ^ e.toNat) ≥ 2 * 2 ^ e.toNat) = decide (2 ≤ dg m i) := by
  have h8 : (0 : Int) < 8 ^ i := Int.pow_pos (by decide)
  rw [he, and7s h0, Bool.eq_iff_iff, decide_eq_true_eq, decide_eq_true_eq]
  constructor
  · intro h
    exact Int.le_of_mul_le_mul_right h h8
  · intro h
    exact Int.mul_le_mul_of_nonneg_right h (by lia)
theorem dg0 (m : Int) : dg m 0 = m % 8 := by unfold dg; rw [Int.pow_zero, Int.ediv_one]
theorem dg_le {m : Int} (h0 : 0 ≤ m) {i : Nat} (h : 2 ≤ dg m i) : 2 * 8 ^ i ≤ m := by
  have h8 : (0 : Int) < 8 ^ i := Int.pow_pos (by decide)
  unfold dg at h
  have h1 : 2 ≤ m / 8 ^ i := by
    have : m / 8 ^ i % 8 ≤ m / 8 ^ i := by
      have := Int.ediv_nonneg h0 (Int.le_of_lt h8)
      lia
    lia
  have h2 := Int.mul_le_mul_of_nonneg_right h1 (Int.le_of_lt h8)
  have h3 := Int.ediv_mul_le m (Int.ne_of_gt h8)
  lia

theorem num_mod {a : Int} {t : List Int} (h : 0 ≤ a ∧ a ≤ 7) : num (a :: t) % 8 = a := by simp only [num]; lia
theorem num_div {a : Int} {t : List Int} (h : 0 ≤ a ∧ a ≤ 7) : num (a :: t) / 8 = num t := by simp only [num]; lia
theorem rn_mod {a : Int} (h0 : 0 ≤ a) (h4 : a ≤ 4) : rn a = a % 3 := by
  unfold rn
  by_cases h1 : a = 1 ∨ a = 4
  · rw [if_pos h1]; lia
  · rw [if_neg h1]
    by_cases h2 : a = 2
    · rw [if_pos h2]; lia
    · rw [if_neg h2]; lia

theorem gg_can {i : Nat} {p q a : Int} {t : List Int} (h : can i = true) : GG i p q (a :: t) = true ↔ 0 ≤ a - p - q ∧ GG (i + 1) ((a - p - q) % 3) p t = true := by
  rw [GG, h]; simp
theorem gg_cannot {i : Nat} {p q a : Int} {t : List Int} (h : can i = false) : GG i p q (a :: t) = true ↔ 0 ≤ a - p - q ∧ (a - p - q) % 3 = 0 ∧ GG (i + 1) 0 p t = true := by
  rw [GG, h]; simp
theorem gg_nine (i : Nat) (hi : i = 0 ∨ i = 9 ∨ i = 18) (c0 c1 c2 c3 c4 c5 c6 c7 c8 : Int) (t : List Int) : GG i 0 0 (c0 :: c1 :: c2 :: c3 :: c4 :: c5 :: c6 :: c7 :: c8 :: t) = (GG 0 0 0 [c0, c1, c2, c3, c4, c5, c6, c7, c8] && GG (i + 9) 0 0 t) := by
  have hc : ∀ j, j < 7 → can (i + j) = true := fun j hj => by
    simp only [can, Bool.and_eq_true, decide_eq_true_eq]; lia
  have hn : ∀ j, j = 7 ∨ j = 8 → can (i + j) = false := fun j hj => by
    simp only [can, Bool.and_eq_false_iff, decide_eq_false_iff_not]; lia
  rw [Bool.eq_iff_iff, Bool.and_eq_true]
  rw [gg_can (show can (i) = true from hc 0 (by decide)), gg_can (show can (i + 1) = true from hc 1 (by decide)), gg_can (show can (i + 1 + 1) = true from hc 2 (by decide)), gg_can (show can (i + 1 + 1 + 1) = true from hc 3 (by decide)), gg_can (show can (i + 1 + 1 + 1 + 1) = true from hc 4 (by decide)), gg_can (show can (i + 1 + 1 + 1 + 1 + 1) = true from hc 5 (by decide)), gg_can (show can (i + 1 + 1 + 1 + 1 + 1 + 1) = true from hc 6 (by decide)), gg_cannot (show can (i + 1 + 1 + 1 + 1 + 1 + 1 + 1) = false from hn 7 (.inl rfl)), gg_cannot (show can (i + 1 + 1 + 1 + 1 + 1 + 1 + 1 + 1) = false from hn 8 (.inr rfl))]
  rw [gg_can (show can 0 = true from rfl), gg_can (show can (0 + 1) = true from rfl), gg_can (show can (0 + 1 + 1) = true from rfl), gg_can (show can (0 + 1 + 1 + 1) = true from rfl), gg_can (show can (0 + 1 + 1 + 1 + 1) = true from rfl), gg_can (show can (0 + 1 + 1 + 1 + 1 + 1) = true from rfl), gg_can (show can (0 + 1 + 1 + 1 + 1 + 1 + 1) = true from rfl), gg_cannot (show can (0 + 1 + 1 + 1 + 1 + 1 + 1 + 1) = false from rfl), gg_cannot (show can (0 + 1 + 1 + 1 + 1 + 1 + 1 + 1 + 1) = false from rfl)]
  simp only [and_assoc, show GG (0 + 1 + 1 + 1 + 1 + 1 + 1 + 1 + 1 + 1) 0 0 [] = true from rfl, true_and, show i + 1 + 1 + 1 + 1 + 1 + 1 + 1 + 1 + 1 = i + 9 from rfl]
theorem gr_iff (c0 c1 c2 c3 c4 c5 c6 c7 c8 : Int) : GG 0 0 0 [c0, c1, c2, c3, c4, c5, c6, c7, c8] = true ↔
    ∃ y0 y1 y2 y3 y4 y5 y6, 0 ≤ c0 ∧ y0 = c0 % 3 ∧ 0 ≤ c1 - y0 ∧ y1 = (c1 - y0) % 3 ∧ 0 ≤ c2 - y1 - y0 ∧ y2 = (c2 - y1 - y0) % 3 ∧ 0 ≤ c3 - y2 - y1 ∧ y3 = (c3 - y2 - y1) % 3 ∧ 0 ≤ c4 - y3 - y2 ∧ y4 = (c4 - y3 - y2) % 3 ∧
      0 ≤ c5 - y4 - y3 ∧ y5 = (c5 - y4 - y3) % 3 ∧ 0 ≤ c6 - y5 - y4 ∧ y6 = (c6 - y5 - y4) % 3 ∧ 0 ≤ c7 - y6 - y5 ∧ (c7 - y6 - y5) % 3 = 0 ∧ 0 ≤ c8 - y6 ∧ (c8 - y6) % 3 = 0 := by
  rw [gg_can (show can 0 = true from rfl), gg_can (show can (0 + 1) = true from rfl), gg_can (show can (0 + 1 + 1) = true from rfl), gg_can (show can (0 + 1 + 1 + 1) = true from rfl), gg_can (show can (0 + 1 + 1 + 1 + 1) = true from rfl), gg_can (show can (0 + 1 + 1 + 1 + 1 + 1) = true from rfl), gg_can (show can (0 + 1 + 1 + 1 + 1 + 1 + 1) = true from rfl), gg_cannot (show can (0 + 1 + 1 + 1 + 1 + 1 + 1 + 1) = false from rfl), gg_cannot (show can (0 + 1 + 1 + 1 + 1 + 1 + 1 + 1 + 1) = false from rfl)]
  simp only [Int.sub_zero]
  constructor
  · rintro ⟨h0, h1, h2, h3, h4, h5, h6, h7, h7', h8, h8', _⟩
    exact ⟨_, _, _, _, _, _, _, h0, rfl, h1, rfl, h2, rfl, h3, rfl, h4, rfl, h5, rfl, h6, rfl, h7, h7', h8, h8'⟩
  · rintro ⟨y0, y1, y2, y3, y4, y5, y6, h0, rfl, h1, rfl, h2, rfl, h3, rfl, h4, rfl, h5, rfl, h6, rfl, h7, h7', h8, h8'⟩
    exact ⟨h0, h1, h2, h3, h4, h5, h6, h7, h7', h8, h8', rfl⟩
theorem quo {y a : Int} (h : y = a % 3) : ∃ q, a = 3 * q + y := ⟨a / 3, by lia⟩
theorem quo0 {a : Int} (h : a % 3 = 0) : ∃ q, a = 3 * q := ⟨a / 3, by lia⟩
theorem sum3 {c0 c1 c2 c3 c4 c5 c6 c7 c8 y0 y1 y2 y3 y4 y5 y6 : Int} (e0 : y0 = c0 % 3) (e1 : y1 = (c1 - y0) % 3) (e2 : y2 = (c2 - y1 - y0) % 3) (e3 : y3 = (c3 - y2 - y1) % 3) (e4 : y4 = (c4 - y3 - y2) % 3) (e5 : y5 = (c5 - y4 - y3) % 3) (e6 : y6 = (c6 - y5 - y4) % 3) :
    ∃ z z', c0 + c1 + c2 + c3 + c4 + c5 + c6 + c7 + c8 = 3 * z + (c7 - y6 - y5) + (c8 - y6) ∧ (c0 + c3 + c6) + (c1 + c4 + c7) * 2 = 3 * z' + (c7 - y6 - y5) * 2 := by
  obtain ⟨q0, f0⟩ := quo e0
  obtain ⟨q1, f1⟩ := quo e1
  obtain ⟨q2, f2⟩ := quo e2
  obtain ⟨q3, f3⟩ := quo e3
  obtain ⟨q4, f4⟩ := quo e4
  obtain ⟨q5, f5⟩ := quo e5
  obtain ⟨q6, f6⟩ := quo e6
  have g1 : c1 = 3 * q1 + y1 + y0 := by lia
  have g2 : c2 = 3 * q2 + y2 + y1 + y0 := by lia
  have g3 : c3 = 3 * q3 + y3 + y2 + y1 := by lia
  have g4 : c4 = 3 * q4 + y4 + y3 + y2 := by lia
  have g5 : c5 = 3 * q5 + y5 + y4 + y3 := by lia
  have g6 : c6 = 3 * q6 + y6 + y5 + y4 := by lia
  clear e0 e1 e2 e3 e4 e5 e6 f1 f2 f3 f4 f5 f6
  subst f0 g1 g2 g3 g4 g5 g6
  refine ⟨q0 + q1 + q2 + q3 + q4 + q5 + q6 + y0 + y1 + y2 + y3 + y4 + y5 + y6, q0 + q3 + q6 + 2 * q1 + 2 * q4 + y0 + y1 + y2 + y3 + y4 + y5 + y6, ?_, ?_⟩ <;> lia
theorem gr_sum {c0 c1 c2 c3 c4 c5 c6 c7 c8 : Int} (h : GG 0 0 0 [c0, c1, c2, c3, c4, c5, c6, c7, c8] = true) : (c0 + c1 + c2 + c3 + c4 + c5 + c6 + c7 + c8) % 3 = 0 ∧ ((c0 + c3 + c6) + (c1 + c4 + c7) * 2) % 3 = 0 := by
  obtain ⟨y0, y1, y2, y3, y4, y5, y6, h0, e0, h1, e1, h2, e2, h3, e3, h4, e4, h5, e5, h6, e6, h7, h7', h8, h8'⟩ := (gr_iff ..).mp h
  obtain ⟨z, z', s1, s2⟩ := sum3 (c7 := c7) (c8 := c8) e0 e1 e2 e3 e4 e5 e6
  obtain ⟨q7, f7⟩ := quo0 h7'
  obtain ⟨q8, f8⟩ := quo0 h8'
  rw [f7, f8] at s1
  rw [f7] at s2
  clear h h0 h1 h2 h3 h4 h5 h6 h7 h8 e0 e1 e2 e3 e4 e5 e6 h7' h8' f7 f8
  exact ⟨by rw [s1]; lia, by rw [s2]; lia⟩
theorem nn3 {y a : Int} (e : y = a % 3) : 0 ≤ y := by lia
theorem le4 {c y : Int} (hc : c ≤ 4) (hy : 0 ≤ y) : c - y ≤ 4 := by lia
theorem le42 {c y z : Int} (hc : c ≤ 4) (hy : 0 ≤ y) (hz : 0 ≤ z) : c - y - z ≤ 4 := by lia
theorem lin2 (c a b : Int) : c - (a + b) = c - b - a := by lia
theorem to7 {c : Int} (h : 0 ≤ c ∧ c ≤ 4) : 0 ≤ c ∧ c ≤ 7 := by lia
theorem mentsuL_step {n : Nat} {a c x y : Int} {t : List Int} (hx : 0 ≤ x ∧ x ≤ 4) (hy : 0 ≤ y ∧ y ≤ 4) : mentsuL (n + 1) a c (num (x :: y :: t)) = true ↔ 0 ≤ y - rn a - c ∧ mentsuL n (y - rn a - c) (rn a) (num (y :: t)) = true := by
  rw [mentsuL, num_div (to7 hx), num_mod (to7 hy), lin2]
  by_cases h : y - rn a - c < 0
  · rw [if_pos h]; simp; lia
  · rw [if_neg h]; simp; lia
theorem mentsuL_fin {a c x y : Int} (hx : 0 ≤ x ∧ x ≤ 4) (hy : 0 ≤ y ∧ y ≤ 4) : mentsuL 0 a c (num [x, y]) = true ↔ y - c = 0 ∨ y - c = 3 := by
  rw [mentsuL, num_div (to7 hx), num_mod (to7 hy)]; simp
theorem mentsu_start {x y : Int} {t : List Int} (hx : 0 ≤ x ∧ x ≤ 4) (hy : 0 ≤ y ∧ y ≤ 4) : mentsu (num (x :: y :: t)) = true ↔ 0 ≤ y - rn x ∧ mentsuL 6 (y - rn x) (rn x) (num (y :: t)) = true := by
  rw [mentsu, num_div (to7 hx), num_mod (to7 hx), num_mod (to7 hy)]
  by_cases h : y - rn x < 0
  · rw [if_pos h]; simp; lia
  · rw [if_neg h]; simp; lia
theorem last8 {A B z S : Int} (hs : S % 3 = 0) (e : S = 3 * z + A + B) (hb : B = 0 ∨ B = 3) : A % 3 = 0 := by lia
theorem fin8 {B : Int} (h0 : 0 ≤ B) (h4 : B ≤ 4) (h : B % 3 = 0) : B = 0 ∨ B = 3 := by lia
theorem tot8 {A B z S : Int} (e : S = 3 * z + A + B) (ha : A % 3 = 0) (hb : B % 3 = 0) : S % 3 = 0 := by lia
theorem mentsu_iff {c0 c1 c2 c3 c4 c5 c6 c7 c8 : Int} (b0 : 0 ≤ c0 ∧ c0 ≤ 4) (b1 : 0 ≤ c1 ∧ c1 ≤ 4) (b2 : 0 ≤ c2 ∧ c2 ≤ 4) (b3 : 0 ≤ c3 ∧ c3 ≤ 4) (b4 : 0 ≤ c4 ∧ c4 ≤ 4) (b5 : 0 ≤ c5 ∧ c5 ≤ 4) (b6 : 0 ≤ c6 ∧ c6 ≤ 4) (b7 : 0 ≤ c7 ∧ c7 ≤ 4) (b8 : 0 ≤ c8 ∧ c8 ≤ 4) :
    GG 0 0 0 [c0, c1, c2, c3, c4, c5, c6, c7, c8] = true ↔ mentsu (num [c0, c1, c2, c3, c4, c5, c6, c7, c8]) = true ∧ (c0 + c1 + c2 + c3 + c4 + c5 + c6 + c7 + c8) % 3 = 0 := by
  rw [gr_iff, mentsu_start b0 b1, mentsuL_step b1 b2, mentsuL_step b2 b3, mentsuL_step b3 b4, mentsuL_step b4 b5, mentsuL_step b5 b6, mentsuL_step b6 b7, mentsuL_fin b7 b8]
  constructor
  · rintro ⟨y0, y1, y2, y3, y4, y5, y6, h0, e0, h1, e1, h2, e2, h3, e3, h4, e4, h5, e5, h6, e6, h7, h7', h8, h8'⟩
    have r0 : rn c0 = y0 := (rn_mod h0 b0.2).trans e0.symm
    have r1 : rn (c1 - y0) = y1 := (rn_mod h1 (le4 b1.2 (nn3 e0))).trans e1.symm
    have r2 : rn (c2 - y1 - y0) = y2 := (rn_mod h2 (le42 b2.2 (nn3 e1) (nn3 e0))).trans e2.symm
    have r3 : rn (c3 - y2 - y1) = y3 := (rn_mod h3 (le42 b3.2 (nn3 e2) (nn3 e1))).trans e3.symm
    have r4 : rn (c4 - y3 - y2) = y4 := (rn_mod h4 (le42 b4.2 (nn3 e3) (nn3 e2))).trans e4.symm
    have r5 : rn (c5 - y4 - y3) = y5 := (rn_mod h5 (le42 b5.2 (nn3 e4) (nn3 e3))).trans e5.symm
    have r6 : rn (c6 - y5 - y4) = y6 := (rn_mod h6 (le42 b6.2 (nn3 e5) (nn3 e4))).trans e6.symm
    rw [r0, r1, r2, r3, r4, r5, r6]
    obtain ⟨z, z', s1, s2⟩ := sum3 (c7 := c7) (c8 := c8) e0 e1 e2 e3 e4 e5 e6
    exact ⟨⟨h1, h2, h3, h4, h5, h6, h7, fin8 h8 (le4 b8.2 (nn3 e6)) h8'⟩, tot8 s1 h7' h8'⟩
  · rintro ⟨⟨h1, h2, h3, h4, h5, h6, h7, h8⟩, hs⟩
    have e0 : rn c0 = c0 % 3 := rn_mod b0.1 b0.2
    generalize rn c0 = y0 at *
    have e1 : rn (c1 - y0) = (c1 - y0) % 3 := rn_mod h1 (le4 b1.2 (nn3 e0))
    generalize rn (c1 - y0) = y1 at *
    have e2 : rn (c2 - y1 - y0) = (c2 - y1 - y0) % 3 := rn_mod h2 (le42 b2.2 (nn3 e1) (nn3 e0))
    generalize rn (c2 - y1 - y0) = y2 at *
    have e3 : rn (c3 - y2 - y1) = (c3 - y2 - y1) % 3 := rn_mod h3 (le42 b3.2 (nn3 e2) (nn3 e1))
    generalize rn (c3 - y2 - y1) = y3 at *
    have e4 : rn (c4 - y3 - y2) = (c4 - y3 - y2) % 3 := rn_mod h4 (le42 b4.2 (nn3 e3) (nn3 e2))
    generalize rn (c4 - y3 - y2) = y4 at *
    have e5 : rn (c5 - y4 - y3) = (c5 - y4 - y3) % 3 := rn_mod h5 (le42 b5.2 (nn3 e4) (nn3 e3))
    generalize rn (c5 - y4 - y3) = y5 at *
    have e6 : rn (c6 - y5 - y4) = (c6 - y5 - y4) % 3 := rn_mod h6 (le42 b6.2 (nn3 e5) (nn3 e4))
    generalize rn (c6 - y5 - y4) = y6 at *
    obtain ⟨z, z', s1, s2⟩ := sum3 (c7 := c7) (c8 := c8) e0 e1 e2 e3 e4 e5 e6
    have g8 : 0 ≤ c8 - y6 ∧ (c8 - y6) % 3 = 0 := by
      clear s1 s2 h1 h2 h3 h4 h5 h6 h7 e0 e1 e2 e3 e4 e5 e6 hs b0 b1 b2 b3 b4 b5 b6 b7 b8
      lia
    exact ⟨y0, y1, y2, y3, y4, y5, y6, b0.1, e0, h1, e1, h2, e2, h3, e3, h4, e4, h5, e5, h6, e6, h7, last8 hs s1 h8, g8.1, g8.2⟩

theorem nine {c : List Int} (h : c.length = 9) : ∃ c0 c1 c2 c3 c4 c5 c6 c7 c8, c = [c0, c1, c2, c3, c4, c5, c6, c7, c8] := by
  match c, h with
  | [c0, c1, c2, c3, c4, c5, c6, c7, c8], _ => exact ⟨_, _, _, _, _, _, _, _, _, rfl⟩
def wsum (c : List Int) : Int := (c.getD 0 0 + c.getD 3 0 + c.getD 6 0) * 1 + (c.getD 1 0 + c.getD 4 0 + c.getD 7 0) * 2
def Four (c : List Int) : Prop := ∀ a ∈ c, 0 ≤ a ∧ a ≤ 4
theorem gr_sums {c : List Int} (hl : c.length = 9) (h : GG 0 0 0 c = true) : c.sum % 3 = 0 ∧ wsum c % 3 = 0 := by
  obtain ⟨c0, c1, c2, c3, c4, c5, c6, c7, c8, rfl⟩ := nine hl
  obtain ⟨h1, h2⟩ := gr_sum h
  refine ⟨?_, ?_⟩
  · have : [c0, c1, c2, c3, c4, c5, c6, c7, c8].sum = c0 + c1 + c2 + c3 + c4 + c5 + c6 + c7 + c8 := by simp only [List.sum_cons, List.sum_nil]; lia
    rw [this]; exact h1
  · have : wsum [c0, c1, c2, c3, c4, c5, c6, c7, c8] = c0 + c3 + c6 + (c1 + c4 + c7) * 2 := by
      show (c0 + c3 + c6) * 1 + (c1 + c4 + c7) * 2 = _
      lia
    rw [this]; exact h2
theorem mentsu_gr {c : List Int} (hl : c.length = 9) (hb : Four c) : GG 0 0 0 c = true ↔ mentsu (num c) = true ∧ c.sum % 3 = 0 := by
  obtain ⟨c0, c1, c2, c3, c4, c5, c6, c7, c8, rfl⟩ := nine hl
  have : [c0, c1, c2, c3, c4, c5, c6, c7, c8].sum = c0 + c1 + c2 + c3 + c4 + c5 + c6 + c7 + c8 := by simp only [List.sum_cons, List.sum_nil]; lia
  rw [this]
  exact mentsu_iff (hb _ (by simp)) (hb _ (by simp)) (hb _ (by simp)) (hb _ (by simp)) (hb _ (by simp)) (hb _ (by simp)) (hb _ (by simp)) (hb _ (by simp)) (hb _ (by simp))
theorem dg_num : ∀ {c : List Int}, Four c → ∀ i, i < c.length → dg (num c) i = c.getD i 0
  | [], _, i, h => absurd h (Nat.not_lt_zero _)
  | a :: t, hb, 0, _ => by
    rw [dg0, num_mod (to7 (hb a (.head _)))]; rfl
  | a :: t, hb, i + 1, h => by
    have ih := dg_num (c := t) (fun b hb' => hb b (.tail _ hb')) i (Nat.lt_of_succ_lt_succ h)
    rw [List.getD_cons_succ, ← ih]
    unfold dg
    rw [Int.pow_succ, Int.mul_comm, ← Int.ediv_ediv_of_nonneg (by decide), num_div (to7 (hb a (.head _)))]
theorem num_set : ∀ (c : List Int) (i : Nat) (v : Int), i < c.length → num (c.set i v) = num c + (v - c.getD i 0) * 8 ^ i
  | [], _, _, h => absurd h (Nat.not_lt_zero _)
  | a :: t, 0, v, _ => by simp [num]; lia
  | a :: t, i + 1, v, h => by
    have ih := num_set t i v (Nat.lt_of_succ_lt_succ h)
    rw [List.set_cons_succ, num, num, ih, List.getD_cons_succ, Int.pow_succ]
    have : (v - t.getD i 0) * (8 ^ i * 8) = 8 * ((v - t.getD i 0) * 8 ^ i) := by rw [← Int.mul_assoc, Int.mul_comm]
    rw [this]; lia
theorem four_set {c : List Int} (hb : Four c) {i : Nat} {v : Int} (hv : 0 ≤ v ∧ v ≤ 4) : Four (c.set i v) := fun a ha => by
  rcases List.mem_or_eq_of_mem_set ha with h | h
  · exact hb a h
  · rw [h]; exact hv
theorem four_get {c : List Int} (hb : Four c) (i : Nat) : 0 ≤ c.getD i 0 ∧ c.getD i 0 ≤ 4 := by
  rw [List.getD_eq_getElem?_getD]
  cases h : c[i]? with
  | none => simp
  | some a => simpa using hb a (List.mem_of_getElem? h)
def dot : List Int → List Int → Int
  | a :: w, b :: c => a * b + dot w c
  | _, _ => 0
theorem dot_set : ∀ (w c : List Int) (i : Nat) (v : Int), i < c.length → dot w (c.set i v) = dot w c + w.getD i 0 * (v - c.getD i 0)
  | [], c, i, v, _ => by simp [dot]
  | a :: w, [], i, v, h => by simp at h
  | a :: w, b :: c, 0, v, _ => by simp only [List.set_cons_zero, dot, List.getD_cons_zero, Int.mul_sub]; lia
  | a :: w, b :: c, i + 1, v, h => by
    simp only [List.set_cons_succ, dot, List.getD_cons_succ, dot_set w c i v (by simpa using h)]
    lia
def wts : List Int := [1, 2, 0, 1, 2, 0, 1, 2, 0]
theorem wsum_dot {c : List Int} (hl : c.length = 9) : wsum c = dot wts c := by
  obtain ⟨c0, c1, c2, c3, c4, c5, c6, c7, c8, rfl⟩ := nine hl
  show (c0 + c3 + c6) * 1 + (c1 + c4 + c7) * 2 = 1 * c0 + (2 * c1 + (0 * c2 + (1 * c3 + (2 * c4 + (0 * c5 + (1 * c6 + (2 * c7 + (0 * c8 + 0))))))))
  lia
theorem wts_ok : ∀ i, i < 9 → (i % 3 = 0 ∧ wts.getD i 0 = 1) ∨ (i % 3 = 1 ∧ wts.getD i 0 = 2) ∨ (i % 3 = 2 ∧ wts.getD i 0 = 0) := by decide
theorem wsum_set {c : List Int} (hl : c.length = 9) {i : Nat} (hi : i < 9) (v : Int) : ∃ wt : Int, wsum (c.set i v) = wsum c + wt * (v - c.getD i 0) ∧ ((i % 3 = 0 ∧ wt = 1) ∨ (i % 3 = 1 ∧ wt = 2) ∨ (i % 3 = 2 ∧ wt = 0)) := by
  refine ⟨wts.getD i 0, ?_, wts_ok i hi⟩
  rw [wsum_dot (by simpa using hl), wsum_dot hl, dot_set _ _ _ _ (by lia)]
def PairAt (c : List Int) (i : Nat) : Prop := 2 ≤ c.getD i 0 ∧ GG 0 0 0 (c.set i (c.getD i 0 - 2)) = true
theorem pair_sum {c : List Int} (hl : c.length = 9) {i : Nat} (hi : i < 9) (h : PairAt c i) : c.sum % 3 = 2 := by
  have := (gr_sums (by simpa using hl) h.2).1
  rw [sum_set c i _ (by lia)] at this
  lia
theorem at2_iff {c : List Int} (hl : c.length = 9) (hb : Four c) (hs : c.sum % 3 = 2) {i : Nat} (hi : i < 9) : at2 (num c) i = true ↔ PairAt c i := by
  unfold at2 PairAt
  rw [Bool.and_eq_true, decide_eq_true_eq, dg_num hb i (by lia)]
  constructor
  · rintro ⟨h1, h2⟩
    refine ⟨h1, (mentsu_gr (by simpa using hl) (four_set hb (by have := four_get hb i; lia))).mpr ⟨?_, ?_⟩⟩
    · rw [num_set c i _ (by lia)]
      have : num c + (c.getD i 0 - 2 - c.getD i 0) * 8 ^ i = num c - 2 * 8 ^ i := by
        rw [show c.getD i 0 - 2 - c.getD i 0 = -2 by lia]; lia
      rw [this]; exact h2
    · rw [sum_set c i _ (by lia)]; lia
  · rintro ⟨h1, h2⟩
    refine ⟨h1, ?_⟩
    have := ((mentsu_gr (by simpa using hl) (four_set hb (by have := four_get hb i; lia))).mp h2).1
    rw [num_set c i _ (by lia)] at this
    have e : num c + (c.getD i 0 - 2 - c.getD i 0) * 8 ^ i = num c - 2 * 8 ^ i := by
      rw [show c.getD i 0 - 2 - c.getD i 0 = -2 by lia]; lia
    rw [e] at this; exact this
theorem atama_iff {c : List Int} (hl : c.length = 9) (hb : Four c) (hs : c.sum % 3 = 2) : atama (wsum c % 3) (num c) = true ↔ ∃ i, i < 9 ∧ PairAt c i := by
  have A := fun i hi => at2_iff hl hb hs (i := i) hi
  constructor
  · intro h
    unfold atama at h
    split at h
    · simp only [Bool.or_eq_true] at h
      rcases h with (h | h) | h
      · exact ⟨2, by decide, (A 2 (by decide)).mp h⟩
      · exact ⟨5, by decide, (A 5 (by decide)).mp h⟩
      · exact ⟨8, by decide, (A 8 (by decide)).mp h⟩
    · split at h
      · simp only [Bool.or_eq_true] at h
        rcases h with (h | h) | h
        · exact ⟨1, by decide, (A 1 (by decide)).mp h⟩
        · exact ⟨4, by decide, (A 4 (by decide)).mp h⟩
        · exact ⟨7, by decide, (A 7 (by decide)).mp h⟩
      · split at h
        · simp only [Bool.or_eq_true] at h
          rcases h with (h | h) | h
          · exact ⟨0, by decide, (A 0 (by decide)).mp h⟩
          · exact ⟨3, by decide, (A 3 (by decide)).mp h⟩
          · exact ⟨6, by decide, (A 6 (by decide)).mp h⟩
        · cases h
  · rintro ⟨i, hi, hp⟩
    have hw := (gr_sums (by simpa using hl) hp.2).2
    obtain ⟨wt, e, hwt⟩ := wsum_set hl hi (c.getD i 0 - 2)
    rw [e, show c.getD i 0 - 2 - c.getD i 0 = -2 by lia] at hw
    have h2 := (A i hi).mpr hp
    unfold atama
    rcases hwt with ⟨hm, rfl⟩ | ⟨hm, rfl⟩ | ⟨hm, rfl⟩
    · have : wsum c % 3 = 2 := by lia
      rw [this]
      simp only [show ¬ ((2 : Int) = 0) by decide, show ¬ ((2 : Int) = 1) by decide, if_false, if_true, Bool.or_eq_true]
      have : i = 0 ∨ i = 3 ∨ i = 6 := by lia
      rcases this with rfl | rfl | rfl
      · exact .inl (.inl h2)
      · exact .inl (.inr h2)
      · exact .inr h2
    · have : wsum c % 3 = 1 := by lia
      rw [this]
      simp only [show ¬ ((1 : Int) = 0) by decide, if_false, if_true, Bool.or_eq_true]
      have : i = 1 ∨ i = 4 ∨ i = 7 := by lia
      rcases this with rfl | rfl | rfl
      · exact .inl (.inl h2)
      · exact .inl (.inr h2)
      · exact .inr h2
    · have : wsum c % 3 = 0 := by lia
      rw [this]
      simp only [if_true, Bool.or_eq_true]
      have : i = 2 ∨ i = 5 ∨ i = 8 := by lia
      rcases this with rfl | rfl | rfl
      · exact .inl (.inl h2)
      · exact .inl (.inr h2)
      · exact .inr h2

def seg (ns : List Int) (s : Nat) : List Int := (List.range 9).map fun i => ns.getD (9 * s + i) 0
def Hon (ns : List Int) : Prop := ∀ h, h < 7 → 0 ≤ ns.getD (27 + h) 0 ∧ ns.getD (27 + h) 0 % 3 = 0
theorem seg_len (ns : List Int) (s : Nat) : (seg ns s).length = 9 := by simp [seg]
theorem seg_get (ns : List Int) (s i : Nat) (hi : i < 9) : (seg ns s).getD i 0 = ns.getD (9 * s + i) 0 := by
  simp [seg, List.getD_eq_getElem?_getD, List.getElem?_map, List.getElem?_range hi]
theorem seg_four {ns : List Int} (hb : ∀ i, 0 ≤ ns.getD i 0 ∧ ns.getD i 0 ≤ 4) (s : Nat) : Four (seg ns s) := fun a ha => by
  obtain ⟨i, _, rfl⟩ := List.mem_map.mp ha
  exact hb _
theorem list34 {ns : List Int} (hl : ns.length = 34) : ns = (List.range 34).map fun i => ns.getD i 0 := by
  apply List.ext_getElem?
  intro i
  by_cases hi : i < 34
  · rw [List.getElem?_map, List.getElem?_range hi, List.getElem?_eq_getElem (by lia)]
    simp [List.getD, show i < ns.length by lia]
  · rw [List.getElem?_eq_none (by lia), List.getElem?_eq_none (by simp; lia)]
theorem gg34 {ns : List Int} (hl : ns.length = 34) : GG 0 0 0 ns = true ↔ (∀ s, s < 3 → GG 0 0 0 (seg ns s) = true) ∧ Hon ns := by
  have e : GG 0 0 0 ns = GG 0 0 0 (ns.getD 0 0 :: ns.getD 1 0 :: ns.getD 2 0 :: ns.getD 3 0 :: ns.getD 4 0 :: ns.getD 5 0 :: ns.getD 6 0 :: ns.getD 7 0 :: ns.getD 8 0 :: ns.getD 9 0 :: ns.getD 10 0 :: ns.getD 11 0 :: ns.getD 12 0 :: ns.getD 13 0 :: ns.getD 14 0 :: ns.getD 15 0 :: ns.getD 16 0 :: ns.getD 17 0 :: ns.getD 18 0 :: ns.getD 19 0 :: ns.getD 20 0 :: ns.getD 21 0 :: ns.getD 22 0 :: ns.getD 23 0 :: ns.getD 24 0 :: ns.getD 25 0 :: ns.getD 26 0 :: ns.getD 27 0 :: ns.getD 28 0 :: ns.getD 29 0 :: ns.getD 30 0 :: ns.getD 31 0 :: ns.getD 32 0 :: ns.getD 33 0 :: []) := by
    conv => lhs; rw [list34 hl]
    rfl
  have e0 : seg ns 0 = [ns.getD 0 0, ns.getD 1 0, ns.getD 2 0, ns.getD 3 0, ns.getD 4 0, ns.getD 5 0, ns.getD 6 0, ns.getD 7 0, ns.getD 8 0] := rfl
  have e1 : seg ns 1 = [ns.getD 9 0, ns.getD 10 0, ns.getD 11 0, ns.getD 12 0, ns.getD 13 0, ns.getD 14 0, ns.getD 15 0, ns.getD 16 0, ns.getD 17 0] := rfl
  have e2 : seg ns 2 = [ns.getD 18 0, ns.getD 19 0, ns.getD 20 0, ns.getD 21 0, ns.getD 22 0, ns.getD 23 0, ns.getD 24 0, ns.getD 25 0, ns.getD 26 0] := rfl
  rw [e, gg_nine 0 (.inl rfl), gg_nine (0 + 9) (.inr (.inl rfl)), gg_nine (0 + 9 + 9) (.inr (.inr rfl)), ← e0, ← e1, ← e2]
  simp only [Bool.and_eq_true]
  rw [gg_cannot (show can (0 + 9 + 9 + 9) = false from rfl)]
  rw [gg_cannot (show can (0 + 9 + 9 + 9 + 1) = false from rfl)]
  rw [gg_cannot (show can (0 + 9 + 9 + 9 + 1 + 1) = false from rfl)]
  rw [gg_cannot (show can (0 + 9 + 9 + 9 + 1 + 1 + 1) = false from rfl)]
  rw [gg_cannot (show can (0 + 9 + 9 + 9 + 1 + 1 + 1 + 1) = false from rfl)]
  rw [gg_cannot (show can (0 + 9 + 9 + 9 + 1 + 1 + 1 + 1 + 1) = false from rfl)]
  rw [gg_cannot (show can (0 + 9 + 9 + 9 + 1 + 1 + 1 + 1 + 1 + 1) = false from rfl)]
  simp only [Int.sub_zero]
  constructor
  · rintro ⟨h0, h1, h2, a0, b0, a1, b1, a2, b2, a3, b3, a4, b4, a5, b5, a6, b6, _⟩
    refine ⟨fun s hs => ?_, fun h hh => ?_⟩
    · have : s = 0 ∨ s = 1 ∨ s = 2 := by lia
      rcases this with rfl | rfl | rfl <;> assumption
    · have : h = 0 ∨ h = 1 ∨ h = 2 ∨ h = 3 ∨ h = 4 ∨ h = 5 ∨ h = 6 := by lia
      rcases this with rfl | rfl | rfl | rfl | rfl | rfl | rfl
      · exact ⟨a0, b0⟩
      · exact ⟨a1, b1⟩
      · exact ⟨a2, b2⟩
      · exact ⟨a3, b3⟩
      · exact ⟨a4, b4⟩
      · exact ⟨a5, b5⟩
      · exact ⟨a6, b6⟩
  · rintro ⟨hs, hh⟩
    exact ⟨hs 0 (by decide), hs 1 (by decide), hs 2 (by decide), (hh 0 (by decide)).1, (hh 0 (by decide)).2, (hh 1 (by decide)).1, (hh 1 (by decide)).2, (hh 2 (by decide)).1, (hh 2 (by decide)).2, (hh 3 (by decide)).1, (hh 3 (by decide)).2, (hh 4 (by decide)).1, (hh 4 (by decide)).2, (hh 5 (by decide)).1, (hh 5 (by decide)).2, (hh 6 (by decide)).1, (hh 6 (by decide)).2, rfl⟩
theorem seg_set_in {ns : List Int} (hl : ns.length = 34) {s i : Nat} (hs : s < 3) (hi : i < 9) (v : Int) : seg (ns.set (9 * s + i) v) s = (seg ns s).set i v := by
  apply List.ext_getElem?
  intro j
  by_cases hj : j < 9
  · rw [List.getElem?_set, seg_len]
    simp only [seg, List.getElem?_map, List.getElem?_range hj, Option.map_some, getD_set]
    by_cases e : i = j
    · subst e
      rw [if_pos ⟨rfl, by lia⟩]
      simp [hi]
    · rw [if_neg (by lia), if_neg e]
  · rw [List.getElem?_eq_none (by rw [seg_len]; lia), List.getElem?_eq_none (by rw [List.length_set, seg_len]; lia)]
theorem seg_set_out {ns : List Int} {k s : Nat} (h : k < 9 * s ∨ 9 * s + 9 ≤ k) (v : Int) : seg (ns.set k v) s = seg ns s := by
  unfold seg
  refine List.map_congr_left fun i hi => ?_
  have := List.mem_range.mp hi
  rw [getD_set, if_neg (by lia)]

def PS (ns : List Int) : Prop := ∃ k, k < 34 ∧ 2 ≤ ns.getD k 0 ∧ GG 0 0 0 (ns.set k (ns.getD k 0 - 2)) = true
def HonPair (ns : List Int) (h : Nat) : Prop := ns.getD (27 + h) 0 = 2 ∧ (∀ h', h' < 7 → h' ≠ h → ns.getD (27 + h') 0 % 3 = 0)
theorem ps_cases {ns : List Int} (hl : ns.length = 34) (hb : ∀ i, 0 ≤ ns.getD i 0 ∧ ns.getD i 0 ≤ 4) (h : PS ns) :
    (∃ s i, s < 3 ∧ i < 9 ∧ PairAt (seg ns s) i ∧ (∀ s', s' < 3 → s' ≠ s → GG 0 0 0 (seg ns s') = true) ∧ ∀ h, h < 7 → ns.getD (27 + h) 0 % 3 = 0) ∨
    (∃ h, h < 7 ∧ HonPair ns h ∧ ∀ s, s < 3 → GG 0 0 0 (seg ns s) = true) := by
  obtain ⟨k, hk, h2, hg⟩ := h
  obtain ⟨hs, hh⟩ := (gg34 (by simpa using hl)).mp hg
  by_cases h27 : k < 27
  · refine .inl ⟨k / 9, k % 9, by lia, by lia, ⟨?_, ?_⟩, fun s' hs' hne => ?_, fun h hh' => ?_⟩
    · rw [seg_get _ _ _ (by lia), show 9 * (k / 9) + k % 9 = k by lia]; exact h2
    · have := hs (k / 9) (by lia)
      have e : 9 * (k / 9) + k % 9 = k := by lia
      have := seg_set_in hl (s := k / 9) (i := k % 9) (by lia) (by lia) (ns.getD k 0 - 2)
      rw [e] at this
      rw [seg_get _ _ _ (by lia), e, ← this]
      exact hs (k / 9) (by lia)
    · have := hs s' hs'
      rwa [seg_set_out (by lia)] at this
    · have := (hh h hh').2
      rwa [getD_set, if_neg (by lia)] at this
  · refine .inr ⟨k - 27, by lia, ⟨?_, fun h' hh' hne => ?_⟩, fun s' hs' => ?_⟩
    · have := (hh (k - 27) (by lia)).2
      rw [show 27 + (k - 27) = k by lia] at this ⊢
      rw [getD_set, if_pos ⟨rfl, by lia⟩] at this
      have := hb k
      lia
    · have := (hh h' hh').2
      rwa [getD_set, if_neg (by lia)] at this
    · have := hs s' hs'
      rwa [seg_set_out (by lia)] at this
theorem ps_suit {ns : List Int} (hl : ns.length = 34) (hb : ∀ i, 0 ≤ ns.getD i 0 ∧ ns.getD i 0 ≤ 4) {s i : Nat} (hs : s < 3) (hi : i < 9) (hp : PairAt (seg ns s) i) (ho : ∀ s', s' < 3 → s' ≠ s → GG 0 0 0 (seg ns s') = true) (hh : ∀ h, h < 7 → ns.getD (27 + h) 0 % 3 = 0) : PS ns := by
  obtain ⟨h2, hg⟩ := hp
  rw [seg_get _ _ _ hi] at h2 hg
  refine ⟨9 * s + i, by lia, h2, (gg34 (by simpa using hl)).mpr ⟨fun s' hs' => ?_, fun h hh' => ?_⟩⟩
  · by_cases e : s' = s
    · subst e
      rw [seg_set_in hl hs hi]; exact hg
    · rw [seg_set_out (by lia)]; exact ho s' hs' e
  · rw [getD_set, if_neg (by lia)]
    exact ⟨(hb _).1, hh h hh'⟩
theorem ps_hon {ns : List Int} (hl : ns.length = 34) (hb : ∀ i, 0 ≤ ns.getD i 0 ∧ ns.getD i 0 ≤ 4) {h : Nat} (hh : h < 7) (hp : HonPair ns h) (ho : ∀ s', s' < 3 → GG 0 0 0 (seg ns s') = true) : PS ns := by
  obtain ⟨h2, hr⟩ := hp
  refine ⟨27 + h, by lia, by lia, (gg34 (by simpa using hl)).mpr ⟨fun s' hs' => ?_, fun h' hh' => ?_⟩⟩
  · rw [seg_set_out (by lia)]; exact ho s' hs'
  · rw [getD_set]
    by_cases e : h' = h
    · subst e
      rw [if_pos ⟨rfl, by lia⟩, h2]; decide
    · rw [if_neg (by lia)]
      exact ⟨(hb _).1, hr h' hh' e⟩

-- the seven honours as bits
def J5 (b0 b1 b2 b3 b4 : Bool) : Int := b2n b0 + 2 * b2n b1 + 4 * b2n b2 + 8 * b2n b3 + 16 * b2n b4
theorem five {t : Int} (h : 0 ≤ t ∧ t ≤ 4) : t = 0 ∨ t = 1 ∨ t = 2 ∨ t = 3 ∨ t = 4 := by lia
theorem pw_J5 {t : Int} (h : 0 ≤ t ∧ t ≤ 4) : 1 * 2 ^ t.toNat = J5 (t == 0) (t == 1) (t == 2) (t == 3) (t == 4) := by
  rcases five h with rfl | rfl | rfl | rfl | rfl <;> rfl
theorem or_J5 (b0 b1 b2 b3 b4 : Bool) {t : Int} (h : 0 ≤ t ∧ t ≤ 4) : Builtin.bitOr (J5 b0 b1 b2 b3 b4) (1 * 2 ^ t.toNat) = J5 (b0 || t == 0) (b1 || t == 1) (b2 || t == 2) (b3 || t == 3) (b4 || t == 4) := by
  rcases five h with rfl | rfl | rfl | rfl | rfl <;> cases b0 <;> cases b1 <;> cases b2 <;> cases b3 <;> cases b4 <;> rfl
theorem J5_ge (b0 b1 b2 b3 b4 : Bool) : decide (J5 b0 b1 b2 b3 b4 ≥ 16) = b4 := by
  cases b0 <;> cases b1 <;> cases b2 <;> cases b3 <;> cases b4 <;> rfl
theorem J5_3 (b0 b1 b2 b3 b4 : Bool) : (Builtin.bitAnd (J5 b0 b1 b2 b3 b4) 3 == 2) = (b1 && !b0) := by
  cases b0 <;> cases b1 <;> cases b2 <;> cases b3 <;> cases b4 <;> rfl
theorem J5_10 (b0 b1 b2 b3 b4 : Bool) : (Builtin.bitAnd (J5 b0 b1 b2 b3 b4) 10 != 0) = (b1 || b3) := by
  cases b0 <;> cases b1 <;> cases b2 <;> cases b3 <;> cases b4 <;> rfl
theorem J5_2 (b0 b1 b2 b3 b4 : Bool) : (Builtin.bitAnd (J5 b0 b1 b2 b3 b4) 2 != 0) = b1 := by
  cases b0 <;> cases b1 <;> cases b2 <;> cases b3 <;> cases b4 <;> rfl
theorem J5_4 (b0 b1 b2 b3 b4 : Bool) : (Builtin.bitAnd (J5 b0 b1 b2 b3 b4) 4 != 0) = b2 := by
  cases b0 <;> cases b1 <;> cases b2 <;> cases b3 <;> cases b4 <;> rfl
def hasv (ns : List Int) (v : Int) : Bool := ns.getD 27 0 == v || ns.getD 28 0 == v || ns.getD 29 0 == v || ns.getD 30 0 == v || ns.getD 31 0 == v || ns.getD 32 0 == v || ns.getD 33 0 == v
theorem jv_eq {ns : List Int} (hb : ∀ i, 0 ≤ ns.getD i 0 ∧ ns.getD i 0 ≤ 4) : Builtin.bitOr (Builtin.bitOr (Builtin.bitOr (Builtin.bitOr (Builtin.bitOr (Builtin.bitOr (1 * 2 ^ (ns.getD 27 0).toNat) (1 * 2 ^ (ns.getD 28 0).toNat)) (1 * 2 ^ (ns.getD 29 0).toNat)) (1 * 2 ^ (ns.getD 30 0).toNat)) (1 * 2 ^ (ns.getD 31 0).toNat)) (1 * 2 ^ (ns.getD 32 0).toNat)) (1 * 2 ^ (ns.getD 33 0).toNat) = J5 (hasv ns 0) (hasv ns 1) (hasv ns 2) (hasv ns 3) (hasv ns 4) := by
  rw [pw_J5 (hb 27), or_J5 _ _ _ _ _ (hb 28), or_J5 _ _ _ _ _ (hb 29), or_J5 _ _ _ _ _ (hb 30), or_J5 _ _ _ _ _ (hb 31), or_J5 _ _ _ _ _ (hb 32), or_J5 _ _ _ _ _ (hb 33)]
  rfl
theorem hasv_iff (ns : List Int) (v : Int) : hasv ns v = true ↔ ∃ h, h < 7 ∧ ns.getD (27 + h) 0 = v := by
  simp only [hasv, Bool.or_eq_true, beq_iff_eq]
  constructor
  · rintro ((((((h | h) | h) | h) | h) | h) | h)
    · exact ⟨0, by decide, h⟩
    · exact ⟨1, by decide, h⟩
    · exact ⟨2, by decide, h⟩
    · exact ⟨3, by decide, h⟩
    · exact ⟨4, by decide, h⟩
    · exact ⟨5, by decide, h⟩
    · exact ⟨6, by decide, h⟩
  · rintro ⟨h, hh, e⟩
    have : h = 0 ∨ h = 1 ∨ h = 2 ∨ h = 3 ∨ h = 4 ∨ h = 5 ∨ h = 6 := by lia
    rcases this with rfl | rfl | rfl | rfl | rfl | rfl | rfl
    · exact .inl (.inl (.inl (.inl (.inl (.inl e)))))
    · exact .inl (.inl (.inl (.inl (.inl (.inr e)))))
    · exact .inl (.inl (.inl (.inl (.inr e))))
    · exact .inl (.inl (.inl (.inr e)))
    · exact .inl (.inl (.inr e))
    · exact .inl (.inr e)
    · exact .inr e
theorem hasv_no {ns : List Int} {v : Int} (h : hasv ns v = false) (i : Nat) (hi : i < 7) : ns.getD (27 + i) 0 ≠ v := fun e => by
  have := (hasv_iff ns v).mpr ⟨i, hi, e⟩
  rw [h] at this; cases this
def prod13 (ns : List Int) : Int := ns.getD 0 0 * ns.getD 8 0 * ns.getD 9 0 * ns.getD 17 0 * ns.getD 18 0 * ns.getD 26 0 * ns.getD 27 0 * ns.getD 28 0 * ns.getD 29 0 * ns.getD 30 0 * ns.getD 31 0 * ns.getD 32 0 * ns.getD 33 0
def KOK (ns : List Int) : Prop := prod13 ns = 2
theorem dvd_two {a : Int} (hb : 0 ≤ a ∧ a ≤ 4) (h : a ∣ 2) : a = 1 ∨ a = 2 := by
  rcases five hb with rfl | rfl | rfl | rfl | rfl
  · exact absurd h (by decide)
  · exact .inl rfl
  · exact .inr rfl
  · exact absurd h (by decide)
  · exact absurd h (by decide)
theorem kok_hon {ns : List Int} (hb : ∀ i, 0 ≤ ns.getD i 0 ∧ ns.getD i 0 ≤ 4) (h : KOK ns) : (∀ i, i < 7 → ns.getD (27 + i) 0 = 1 ∨ ns.getD (27 + i) 0 = 2) ∧ hasv ns 1 = true := by
  unfold KOK prod13 at h
  have h33 : ns.getD 33 0 ∣ 2 := h ▸ Int.dvd_mul_left _ _
  have d32 := h ▸ Int.dvd_mul_right (ns.getD 0 0 * ns.getD 8 0 * ns.getD 9 0 * ns.getD 17 0 * ns.getD 18 0 * ns.getD 26 0 * ns.getD 27 0 * ns.getD 28 0 * ns.getD 29 0 * ns.getD 30 0 * ns.getD 31 0 * ns.getD 32 0) (ns.getD 33 0)
  have h32 : ns.getD 32 0 ∣ 2 := Int.dvd_trans (Int.dvd_mul_left (ns.getD 0 0 * ns.getD 8 0 * ns.getD 9 0 * ns.getD 17 0 * ns.getD 18 0 * ns.getD 26 0 * ns.getD 27 0 * ns.getD 28 0 * ns.getD 29 0 * ns.getD 30 0 * ns.getD 31 0) (ns.getD 32 0)) d32
  have d31 := Int.dvd_trans (Int.dvd_mul_right (ns.getD 0 0 * ns.getD 8 0 * ns.getD 9 0 * ns.getD 17 0 * ns.getD 18 0 * ns.getD 26 0 * ns.getD 27 0 * ns.getD 28 0 * ns.getD 29 0 * ns.getD 30 0 * ns.getD 31 0) (ns.getD 32 0)) d32
  have h31 : ns.getD 31 0 ∣ 2 := Int.dvd_trans (Int.dvd_mul_left (ns.getD 0 0 * ns.getD 8 0 * ns.getD 9 0 * ns.getD 17 0 * ns.getD 18 0 * ns.getD 26 0 * ns.getD 27 0 * ns.getD 28 0 * ns.getD 29 0 * ns.getD 30 0) (ns.getD 31 0)) d31
  have d30 := Int.dvd_trans (Int.dvd_mul_right (ns.getD 0 0 * ns.getD 8 0 * ns.getD 9 0 * ns.getD 17 0 * ns.getD 18 0 * ns.getD 26 0 * ns.getD 27 0 * ns.getD 28 0 * ns.getD 29 0 * ns.getD 30 0) (ns.getD 31 0)) d31
  have h30 : ns.getD 30 0 ∣ 2 := Int.dvd_trans (Int.dvd_mul_left (ns.getD 0 0 * ns.getD 8 0 * ns.getD 9 0 * ns.getD 17 0 * ns.getD 18 0 * ns.getD 26 0 * ns.getD 27 0 * ns.getD 28 0 * ns.getD 29 0) (ns.getD 30 0)) d30
  have d29 := Int.dvd_trans (Int.dvd_mul_right (ns.getD 0 0 * ns.getD 8 0 * ns.getD 9 0 * ns.getD 17 0 * ns.getD 18 0 * ns.getD 26 0 * ns.getD 27 0 * ns.getD 28 0 * ns.getD 29 0) (ns.getD 30 0)) d30
  have h29 : ns.getD 29 0 ∣ 2 := Int.dvd_trans (Int.dvd_mul_left (ns.getD 0 0 * ns.getD 8 0 * ns.getD 9 0 * ns.getD 17 0 * ns.getD 18 0 * ns.getD 26 0 * ns.getD 27 0 * ns.getD 28 0) (ns.getD 29 0)) d29
  have d28 := Int.dvd_trans (Int.dvd_mul_right (ns.getD 0 0 * ns.getD 8 0 * ns.getD 9 0 * ns.getD 17 0 * ns.getD 18 0 * ns.getD 26 0 * ns.getD 27 0 * ns.getD 28 0) (ns.getD 29 0)) d29
  have h28 : ns.getD 28 0 ∣ 2 := Int.dvd_trans (Int.dvd_mul_left (ns.getD 0 0 * ns.getD 8 0 * ns.getD 9 0 * ns.getD 17 0 * ns.getD 18 0 * ns.getD 26 0 * ns.getD 27 0) (ns.getD 28 0)) d28
  have d27 := Int.dvd_trans (Int.dvd_mul_right (ns.getD 0 0 * ns.getD 8 0 * ns.getD 9 0 * ns.getD 17 0 * ns.getD 18 0 * ns.getD 26 0 * ns.getD 27 0) (ns.getD 28 0)) d28
  have h27 : ns.getD 27 0 ∣ 2 := Int.dvd_trans (Int.dvd_mul_left (ns.getD 0 0 * ns.getD 8 0 * ns.getD 9 0 * ns.getD 17 0 * ns.getD 18 0 * ns.getD 26 0) (ns.getD 27 0)) d27
  refine ⟨fun i hi => ?_, ?_⟩
  · have : i = 0 ∨ i = 1 ∨ i = 2 ∨ i = 3 ∨ i = 4 ∨ i = 5 ∨ i = 6 := by lia
    rcases this with rfl | rfl | rfl | rfl | rfl | rfl | rfl
    · exact dvd_two (hb 27) h27
    · exact dvd_two (hb 28) h28
    · exact dvd_two (hb 29) h29
    · exact dvd_two (hb 30) h30
    · exact dvd_two (hb 31) h31
    · exact dvd_two (hb 32) h32
    · exact dvd_two (hb 33) h33
  · rcases dvd_two (hb 32) h32 with e | e
    · exact (hasv_iff ns 1).mpr ⟨5, by decide, e⟩
    · rcases dvd_two (hb 33) h33 with e' | e'
      · exact (hasv_iff ns 1).mpr ⟨6, by decide, e'⟩
      · rw [e, e'] at h
        lia
def cnt2 (ns : List Int) : Int := (((List.range 34).map fun i => (ns.getD i 0 == 2)).map b2n).sum
def CHI (ns : List Int) : Prop := hasv ns 1 = false ∧ hasv ns 3 = false ∧ hasv ns 4 = false ∧ cnt2 ns = 7
def AG (ns : List Int) : Prop := KOK ns ∨ CHI ns ∨ PS ns
open Classical in
noncomputable def AGb (ns : List Int) : Bool := decide (AG ns)
open Classical in
theorem agb_t {ns : List Int} (h : AG ns) : AGb ns = true := decide_eq_true h
open Classical in
theorem agb_f {ns : List Int} (h : ¬ AG ns) : AGb ns = false := decide_eq_false h
open Classical in
theorem ps_hon_mod {ns : List Int} (hl : ns.length = 34) (hb : ∀ i, 0 ≤ ns.getD i 0 ∧ ns.getD i 0 ≤ 4) (h : PS ns) (i : Nat) (hi : i < 7) : ns.getD (27 + i) 0 = 0 ∨ ns.getD (27 + i) 0 = 2 ∨ ns.getD (27 + i) 0 = 3 := by
  have b := hb (27 + i)
  rcases ps_cases hl hb h with ⟨s, j, _, _, _, _, hh⟩ | ⟨j, hj, ⟨e, hh⟩, _⟩
  · have := hh i hi; lia
  · by_cases q : i = j
    · subst q; exact .inr (.inl e)
    · have := hh i hi q; lia
section
variable {ns : List Int} (hl : ns.length = 34) (hb : ∀ i, 0 ≤ ns.getD i 0 ∧ ns.getD i 0 ≤ 4)
include hb
theorem lf_kok0 (h : (hasv ns 1 && !hasv ns 0) = false ∨ prod13 ns ≠ 2) : ¬ KOK ns := fun hk => by
  rcases h with h | h
  · obtain ⟨h1, h2⟩ := kok_hon hb hk
    have h0 : hasv ns 0 = false := by
      rw [Bool.eq_false_iff]
      intro q
      obtain ⟨i, hi, e⟩ := (hasv_iff ns 0).mp q
      rcases h1 i hi with e' | e' <;> rw [e] at e' <;> cases e'
    rw [h2, h0] at h; cases h
  · exact h hk
include hl
theorem lf_4 (h : hasv ns 4 = true) : ¬ AG ns := by
  obtain ⟨i, hi, e⟩ := (hasv_iff ns 4).mp h
  rintro (hk | hc | hp)
  · rcases (kok_hon hb hk).1 i hi with e' | e' <;> rw [e] at e' <;> cases e'
  · rw [hc.2.2.1] at h; cases h
  · rcases ps_hon_mod hl hb hp i hi with e' | e' | e' <;> rw [e] at e' <;> cases e'
theorem lf_1 (hk : ¬ KOK ns) (h : hasv ns 1 = true) : ¬ AG ns := by
  obtain ⟨i, hi, e⟩ := (hasv_iff ns 1).mp h
  rintro (hk' | hc | hp)
  · exact hk hk'
  · rw [hc.1] at h; cases h
  · rcases ps_hon_mod hl hb hp i hi with e' | e' | e' <;> rw [e] at e' <;> cases e'
theorem ps_sums (h : PS ns) : (∃ s, s < 3 ∧ (seg ns s).sum % 3 = 2 ∧ (∀ s', s' < 3 → s' ≠ s → (seg ns s').sum % 3 = 0) ∧ ∀ i, i < 7 → ns.getD (27 + i) 0 ≠ 2) ∨
    ((∀ s, s < 3 → (seg ns s).sum % 3 = 0) ∧ ∃ i, i < 7 ∧ ns.getD (27 + i) 0 = 2 ∧ ∀ i', i' < 7 → i' ≠ i → ns.getD (27 + i') 0 ≠ 2) := by
  rcases ps_cases hl hb h with ⟨s, j, hs, hj, hp, ho, hh⟩ | ⟨j, hj, ⟨e, hh⟩, ho⟩
  · refine .inl ⟨s, hs, pair_sum (seg_len _ _) hj hp, fun s' hs' hne => (gr_sums (seg_len _ _) (ho s' hs' hne)).1, fun i hi q => ?_⟩
    have := hh i hi
    rw [q] at this; cases this
  · refine .inr ⟨fun s hs => (gr_sums (seg_len _ _) (ho s hs)).1, j, hj, e, fun i hi hne q => ?_⟩
    have := hh i hi hne
    rw [q] at this; cases this
end

def pairs (ns : List Int) (n0 n1 n2 : Int) : Int := b2n (n0 == 2) + b2n (n1 == 2) + b2n (n2 == 2) + b2n (ns.getD 27 0 == 2) + b2n (ns.getD 28 0 == 2) + b2n (ns.getD 29 0 == 2) + b2n (ns.getD 30 0 == 2) + b2n (ns.getD 31 0 == 2) + b2n (ns.getD 32 0 == 2) + b2n (ns.getD 33 0 == 2)
theorem b2n_01 (b : Bool) : b2n b = 0 ∨ b2n b = 1 := by cases b <;> simp [b2n]
theorem b2n_t {a : Int} (h : a = 2) : b2n (a == 2) = 1 := by subst h; rfl
theorem b2n_f {a : Int} (h : a ≠ 2) : b2n (a == 2) = 0 := by
  have : (a == 2) = false := by simpa using h
  rw [this]; rfl
section
variable {ns : List Int} (hl : ns.length = 34) (hb : ∀ i, 0 ≤ ns.getD i 0 ∧ ns.getD i 0 ≤ 4) {n0 n1 n2 : Int} (e0 : n0 = (seg ns 0).sum % 3) (e1 : n1 = (seg ns 1).sum % 3) (e2 : n2 = (seg ns 2).sum % 3)
include hl hb e0 e1 e2
theorem ps_n1 (h : n0 = 1 ∨ n1 = 1 ∨ n2 = 1) : ¬ PS ns := fun hp => by
  have key : ∀ s, s < 3 → (seg ns s).sum % 3 ≠ 1 := fun s hs => by
    rcases ps_sums hl hb hp with ⟨s', hs', h2, ho, _⟩ | ⟨ho, _⟩
    · by_cases q : s = s'
      · subst q; lia
      · have := ho s hs q; lia
    · have := ho s hs; lia
  have k0 := key 0 (by decide)
  have k1 := key 1 (by decide)
  have k2 := key 2 (by decide)
  lia
theorem ps_pairs (hp : PS ns) : pairs ns n0 n1 n2 = 1 := by
  unfold pairs
  rcases ps_sums hl hb hp with ⟨s, hs, h2, ho, hh⟩ | ⟨ho, i, hi, h2, hh⟩
  · rw [b2n_f (hh 0 (by decide)), b2n_f (hh 1 (by decide)), b2n_f (hh 2 (by decide)), b2n_f (hh 3 (by decide)), b2n_f (hh 4 (by decide)), b2n_f (hh 5 (by decide)), b2n_f (hh 6 (by decide))]
    have : s = 0 ∨ s = 1 ∨ s = 2 := by lia
    rcases this with rfl | rfl | rfl
    · have a1 := ho 1 (by decide) (by decide)
      have a2 := ho 2 (by decide) (by decide)
      rw [b2n_t (by lia), b2n_f (by lia), b2n_f (by lia)]; rfl
    · have a1 := ho 0 (by decide) (by decide)
      have a2 := ho 2 (by decide) (by decide)
      rw [b2n_f (by lia), b2n_t (by lia), b2n_f (by lia)]; rfl
    · have a1 := ho 0 (by decide) (by decide)
      have a2 := ho 1 (by decide) (by decide)
      rw [b2n_f (by lia), b2n_f (by lia), b2n_t (by lia)]; rfl
  · have a0 := ho 0 (by decide)
    have a1 := ho 1 (by decide)
    have a2 := ho 2 (by decide)
    rw [b2n_f (a := n0) (by lia), b2n_f (a := n1) (by lia), b2n_f (a := n2) (by lia)]
    have : i = 0 ∨ i = 1 ∨ i = 2 ∨ i = 3 ∨ i = 4 ∨ i = 5 ∨ i = 6 := by lia
    rcases this with rfl | rfl | rfl | rfl | rfl | rfl | rfl
    · rw [b2n_t h2, b2n_f (hh 1 (by decide) (by decide)), b2n_f (hh 2 (by decide) (by decide)), b2n_f (hh 3 (by decide) (by decide)), b2n_f (hh 4 (by decide) (by decide)), b2n_f (hh 5 (by decide) (by decide)), b2n_f (hh 6 (by decide) (by decide))]; rfl
    · rw [b2n_f (hh 0 (by decide) (by decide)), b2n_t h2, b2n_f (hh 2 (by decide) (by decide)), b2n_f (hh 3 (by decide) (by decide)), b2n_f (hh 4 (by decide) (by decide)), b2n_f (hh 5 (by decide) (by decide)), b2n_f (hh 6 (by decide) (by decide))]; rfl
    · rw [b2n_f (hh 0 (by decide) (by decide)), b2n_f (hh 1 (by decide) (by decide)), b2n_t h2, b2n_f (hh 3 (by decide) (by decide)), b2n_f (hh 4 (by decide) (by decide)), b2n_f (hh 5 (by decide) (by decide)), b2n_f (hh 6 (by decide) (by decide))]; rfl
    · rw [b2n_f (hh 0 (by decide) (by decide)), b2n_f (hh 1 (by decide) (by decide)), b2n_f (hh 2 (by decide) (by decide)), b2n_t h2, b2n_f (hh 4 (by decide) (by decide)), b2n_f (hh 5 (by decide) (by decide)), b2n_f (hh 6 (by decide) (by decide))]; rfl
    · rw [b2n_f (hh 0 (by decide) (by decide)), b2n_f (hh 1 (by decide) (by decide)), b2n_f (hh 2 (by decide) (by decide)), b2n_f (hh 3 (by decide) (by decide)), b2n_t h2, b2n_f (hh 5 (by decide) (by decide)), b2n_f (hh 6 (by decide) (by decide))]; rfl
    · rw [b2n_f (hh 0 (by decide) (by decide)), b2n_f (hh 1 (by decide) (by decide)), b2n_f (hh 2 (by decide) (by decide)), b2n_f (hh 3 (by decide) (by decide)), b2n_f (hh 4 (by decide) (by decide)), b2n_t h2, b2n_f (hh 6 (by decide) (by decide))]; rfl
    · rw [b2n_f (hh 0 (by decide) (by decide)), b2n_f (hh 1 (by decide) (by decide)), b2n_f (hh 2 (by decide) (by decide)), b2n_f (hh 3 (by decide) (by decide)), b2n_f (hh 4 (by decide) (by decide)), b2n_f (hh 5 (by decide) (by decide)), b2n_t h2]; rfl
end
def pairB (ns : List Int) (n0 n1 n2 : Int) : List Bool := [n0 == 2, n1 == 2, n2 == 2, ns.getD 27 0 == 2, ns.getD 28 0 == 2, ns.getD 29 0 == 2, ns.getD 30 0 == 2, ns.getD 31 0 == 2, ns.getD 32 0 == 2, ns.getD 33 0 == 2]
theorem pairs_sum (ns : List Int) (n0 n1 n2 : Int) : pairs ns n0 n1 n2 = ((pairB ns n0 n1 n2).map b2n).sum := by
  simp only [pairs, pairB, List.map_cons, List.map_nil, List.sum_cons, List.sum_nil, Int.add_assoc, Int.add_zero]
theorem b2n_get (l : List Bool) (i : Nat) : 0 ≤ (l.map b2n).getD i 0 := by
  rw [List.getD_eq_getElem?_getD, List.getElem?_map]
  cases l[i]? with
  | none => exact Int.le_refl _
  | some b => cases b <;> decide
theorem pairB_hon (ns : List Int) (n0 n1 n2 : Int) : ∀ j, j < 7 → ((pairB ns n0 n1 n2).map b2n).getD (3 + j) 0 = b2n (ns.getD (27 + j) 0 == 2)
  | 0, _ => rfl
  | 1, _ => rfl
  | 2, _ => rfl
  | 3, _ => rfl
  | 4, _ => rfl
  | 5, _ => rfl
  | 6, _ => rfl
theorem pairs_one {ns : List Int} {n0 n1 n2 : Int} (h : pairs ns n0 n1 n2 = 1) (i : Nat) (hi : i < 7) (h2 : ns.getD (27 + i) 0 = 2) : n0 ≠ 2 ∧ n1 ≠ 2 ∧ n2 ≠ 2 ∧ ∀ j, j < 7 → j ≠ i → ns.getD (27 + j) 0 ≠ 2 := by
  rw [pairs_sum] at h
  have e1 := pairB_hon ns n0 n1 n2 i hi
  rw [b2n_t h2] at e1
  have key : ∀ a, a < 10 → a ≠ 3 + i → ((pairB ns n0 n1 n2).map b2n).getD a 0 ≠ 1 := fun a ha hne hc => by
    have := sum_idx [3 + i, a] ((pairB ns n0 n1 n2).map b2n) (b2n_get _) (by simp [Ne.symm hne]) (fun z hz => by
      simp only [List.mem_cons, List.not_mem_nil, or_false] at hz
      show z < 10
      lia)
    simp only [List.map_cons, List.map_nil, List.sum_cons, List.sum_nil, e1, hc, h] at this
    exact absurd this (by decide)
  refine ⟨fun q => key 0 (by decide) (by lia) (b2n_t q), fun q => key 1 (by decide) (by lia) (b2n_t q), fun q => key 2 (by decide) (by lia) (b2n_t q), fun j hj hne q => key (3 + j) (by lia) (by lia) ?_⟩
  rw [pairB_hon ns n0 n1 n2 j hj, b2n_t q]
theorem pairs_suit {ns : List Int} {n0 n1 n2 : Int} (h : pairs ns n0 n1 n2 = 1) (hh : hasv ns 2 = false) : (n0 = 2 ∧ n1 ≠ 2 ∧ n2 ≠ 2) ∨ (n0 ≠ 2 ∧ n1 = 2 ∧ n2 ≠ 2) ∨ (n0 ≠ 2 ∧ n1 ≠ 2 ∧ n2 = 2) := by
  unfold pairs at h
  have hn := fun i hi => hasv_no hh i hi
  rw [b2n_f (hn 0 (by decide)), b2n_f (hn 1 (by decide)), b2n_f (hn 2 (by decide)), b2n_f (hn 3 (by decide)), b2n_f (hn 4 (by decide)), b2n_f (hn 5 (by decide)), b2n_f (hn 6 (by decide))] at h
  by_cases a : n0 = 2 <;> by_cases b : n1 = 2 <;> by_cases c : n2 = 2
  all_goals first
    | (rw [b2n_t a, b2n_t b, b2n_t c] at h; lia)
    | (rw [b2n_t a, b2n_t b, b2n_f c] at h; lia)
    | (rw [b2n_t a, b2n_f b, b2n_t c] at h; lia)
    | exact .inl ⟨a, b, c⟩
    | (rw [b2n_f a, b2n_t b, b2n_t c] at h; lia)
    | exact .inr (.inl ⟨a, b, c⟩)
    | exact .inr (.inr ⟨a, b, c⟩)
    | (rw [b2n_f a, b2n_f b, b2n_f c] at h; lia)
section
variable {ns : List Int} (hl : ns.length = 34) (hb : ∀ i, 0 ≤ ns.getD i 0 ∧ ns.getD i 0 ≤ 4)
include hb
theorem suit_iff (s : Nat) : GG 0 0 0 (seg ns s) = true ↔ (seg ns s).sum % 3 = 0 ∧ wsum (seg ns s) % 3 = 0 ∧ mentsu (num (seg ns s)) = true := by
  constructor
  · intro h
    exact ⟨(gr_sums (seg_len _ _) h).1, (gr_sums (seg_len _ _) h).2, ((mentsu_gr (seg_len _ _) (seg_four hb s)).mp h).1⟩
  · rintro ⟨h1, _, h3⟩
    exact (mentsu_gr (seg_len _ _) (seg_four hb s)).mpr ⟨h3, h1⟩
include hl
theorem honours {i : Nat} (h1 : hasv ns 1 = false) (h4 : hasv ns 4 = false) (hi : i < 7) : ns.getD (27 + i) 0 = 0 ∨ ns.getD (27 + i) 0 = 2 ∨ ns.getD (27 + i) 0 = 3 := by
  have := hb (27 + i)
  have a := hasv_no h1 i hi
  have b := hasv_no h4 i hi
  lia
theorem ps_iff_hon (h1 : hasv ns 1 = false) (h4 : hasv ns 4 = false) (h2 : hasv ns 2 = true) {n0 n1 n2 : Int} (hp : pairs ns n0 n1 n2 = 1) (e0 : n0 = (seg ns 0).sum % 3) (e1 : n1 = (seg ns 1).sum % 3) (e2 : n2 = (seg ns 2).sum % 3) :
    PS ns ↔ GG 0 0 0 (seg ns 0) = true ∧ GG 0 0 0 (seg ns 1) = true ∧ GG 0 0 0 (seg ns 2) = true := by
  obtain ⟨i, hi, e⟩ := (hasv_iff ns 2).mp h2
  obtain ⟨a0, a1, a2, ho⟩ := pairs_one hp i hi e
  constructor
  · intro h
    rcases ps_cases hl hb h with ⟨s, j, hs, hj, hpa, _, hh⟩ | ⟨j, hj, _, hg⟩
    · have := hh i hi
      rw [e] at this; cases this
    · exact ⟨hg 0 (by decide), hg 1 (by decide), hg 2 (by decide)⟩
  · rintro ⟨g0, g1, g2⟩
    refine ps_hon hl hb hi ⟨e, fun j hj hne => ?_⟩ fun s hs => ?_
    · have := honours hl hb h1 h4 hj
      have := ho j hj hne
      lia
    · have : s = 0 ∨ s = 1 ∨ s = 2 := by lia
      rcases this with rfl | rfl | rfl <;> assumption
theorem ps_iff_suit (h1 : hasv ns 1 = false) (h4 : hasv ns 4 = false) (h2 : hasv ns 2 = false) {s : Nat} (hs : s < 3) (hn : (seg ns s).sum % 3 = 2) :
    PS ns ↔ (∀ s', s' < 3 → s' ≠ s → GG 0 0 0 (seg ns s') = true) ∧ atama (wsum (seg ns s) % 3) (num (seg ns s)) = true := by
  rw [atama_iff (seg_len _ _) (seg_four hb s) hn]
  constructor
  · intro h
    rcases ps_cases hl hb h with ⟨s', j, hs', hj, hpa, ho, hh⟩ | ⟨j, hj, ⟨e, _⟩, hg⟩
    · have : s' = s := by
        refine Classical.byContradiction fun q => ?_
        have := (gr_sums (seg_len _ _) (ho s hs (fun e => q e.symm))).1
        lia
      subst this
      exact ⟨ho, j, hj, hpa⟩
    · exact absurd e (hasv_no h2 j hj)
  · rintro ⟨ho, j, hj, hpa⟩
    refine ps_suit hl hb hs hj hpa ho fun i hi => ?_
    have := honours hl hb h1 h4 hi
    have := hasv_no h2 i hi
    lia
end
theorem or_zero {a b : Int} (ha : 0 ≤ a) (hb : 0 ≤ b) : 0 ≤ Builtin.bitOr a b ∧ (Builtin.bitOr a b = 0 ↔ a = 0 ∧ b = 0) := by
  rw [bitOr_and, bitAnd_pp ha hb]
  have h1 : ((a.toNat &&& b.toNat : Nat) : Int) ≤ a := by
    have := @Nat.and_le_left a.toNat b.toNat
    lia
  have h2 : ((a.toNat &&& b.toNat : Nat) : Int) ≤ b := by
    have := @Nat.and_le_right a.toNat b.toNat
    lia
  lia

def twos (ns : List Int) : List Int := ns.filter fun a => a == 2
theorem cnt2_twos {ns : List Int} (hl : ns.length = 34) : cnt2 ns = ((twos ns).length : Int) := by
  have gen : ∀ l : List Int, ((l.map fun a => (a == 2)).map b2n).sum = ((twos l).length : Int) := by
    intro l
    induction l with
    | nil => rfl
    | cons a l ih =>
      rw [List.map_cons, List.map_cons, List.sum_cons, ih]
      unfold twos
      by_cases h : a = 2
      · subst h; simp [b2n]; lia
      · have : (a == 2) = false := by simpa using h
        rw [List.filter_cons, this]; simp [b2n]
  have e : cnt2 ns = (((((List.range 34).map fun i => ns.getD i 0)).map fun a => (a == 2)).map b2n).sum := by
    unfold cnt2; rw [List.map_map (l := List.range 34)]; rfl
  rw [e, ← list34 hl, gen]
theorem twos_sum : ∀ l : List Int, (∀ a ∈ l, 0 ≤ a) → 2 * ((twos l).length : Int) ≤ l.sum ∧ (l.sum = 2 * ((twos l).length : Int) → ∀ a ∈ l, a = 0 ∨ a = 2)
  | [], _ => ⟨by simp [twos], fun _ a h => nomatch h⟩
  | a :: l, h => by
    obtain ⟨i1, i2⟩ := twos_sum l fun b hb => h b (.tail _ hb)
    have ha := h a (.head _)
    rw [List.sum_cons]
    by_cases e : a = 2
    · have et : (twos (a :: l)).length = (twos l).length + 1 := by subst e; simp [twos]
      rw [et]
      refine ⟨by lia, fun q b hb => ?_⟩
      rcases List.mem_cons.mp hb with rfl | hb
      · exact .inr e
      · exact i2 (by lia) b hb
    · have et : twos (a :: l) = twos l := by
        have : (a == 2) = false := by simpa using e
        simp [twos, List.filter_cons, this]
      rw [et]
      refine ⟨by lia, fun q b hb => ?_⟩
      rcases List.mem_cons.mp hb with rfl | hb
      · exact .inl (by lia)
      · exact i2 (by lia) b hb
theorem mem_getD' {ns : List Int} {a : Int} (h : a ∈ ns) : ∃ i, ns.getD i 0 = a := by
  obtain ⟨i, hi, rfl⟩ := List.mem_iff_getElem.mp h
  exact ⟨i, by simp [List.getD, hi]⟩
theorem getD_mem' (ns : List Int) (i : Nat) : ns.getD i 0 = 0 ∨ ns.getD i 0 ∈ ns := by
  by_cases h : i < ns.length
  · exact .inr (by simp [List.getD, h])
  · exact .inl (by simp [List.getD, List.getElem?_eq_none (Nat.le_of_not_lt h)])
theorem chi_iff {ns : List Int} (hl : ns.length = 34) (hb : ∀ i, 0 ≤ ns.getD i 0 ∧ ns.getD i 0 ≤ 4) (hs : ns.sum = 14) : CHI ns ↔ (twos ns).length = 7 := by
  constructor
  · rintro ⟨_, _, _, h⟩
    rw [cnt2_twos hl] at h; lia
  · intro h
    have hn : ∀ a ∈ ns, 0 ≤ a := fun a ha => by obtain ⟨i, rfl⟩ := mem_getD' ha; exact (hb i).1
    have all := (twos_sum ns hn).2 (by lia)
    have no : ∀ v : Int, v ≠ 0 → v ≠ 2 → hasv ns v = false := fun v h0 h2 => by
      cases q : hasv ns v with
      | false => rfl
      | true =>
        obtain ⟨i, _, e⟩ := (hasv_iff ns v).mp q
        rcases getD_mem' ns (27 + i) with e' | hm
        · exact absurd (e.symm.trans e') h0
        · rcases all _ hm with e' | e'
          · exact absurd (e.symm.trans e') h0
          · exact absurd (e.symm.trans e') h2
    refine ⟨no 1 (by decide) (by decide), no 3 (by decide) (by decide), no 4 (by decide) (by decide), ?_⟩
    rw [cnt2_twos hl]; lia
def prodL : List Int → Int
  | [] => 1
  | a :: l => a * prodL l
theorem prodL_one : ∀ l : List Int, (∀ a ∈ l, 0 ≤ a ∧ a ≤ 4) → (prodL l = 1 ↔ (∀ a ∈ l, 1 ≤ a) ∧ l.sum = l.length)
  | [], _ => by simp [prodL]
  | a :: l, h => by
    have ih := prodL_one l fun b hb => h b (.tail _ hb)
    have ha := h a (.head _)
    have low : ∀ l : List Int, (∀ a ∈ l, 1 ≤ a) → (l.length : Int) ≤ l.sum := by
      intro l
      induction l with
      | nil => intro _; simp
      | cons b l ih => intro h; have := ih (fun c hc => h c (.tail _ hc)); have := h b (.head _); simp only [List.sum_cons, List.length_cons]; lia
    have e : prodL (a :: l) = 1 ↔ a = 1 ∧ prodL l = 1 := by
      simp only [prodL]
      rcases five ha with rfl | rfl | rfl | rfl | rfl <;> lia
    rw [e, ih]
    simp only [List.sum_cons, List.length_cons, List.forall_mem_cons]
    constructor
    · rintro ⟨h1, h2, h3⟩; exact ⟨⟨by lia, h2⟩, by lia⟩
    · rintro ⟨⟨h1, h2⟩, h3⟩
      have := low l h2
      exact ⟨by lia, h2, by lia⟩
theorem prodL_two : ∀ l : List Int, (∀ a ∈ l, 0 ≤ a ∧ a ≤ 4) → (prodL l = 2 ↔ (∀ a ∈ l, 1 ≤ a) ∧ l.sum = l.length + 1)
  | [], _ => by simp [prodL]
  | a :: l, h => by
    have ih := prodL_two l fun b hb => h b (.tail _ hb)
    have i1 := prodL_one l fun b hb => h b (.tail _ hb)
    have ha := h a (.head _)
    have low : ∀ l : List Int, (∀ a ∈ l, 1 ≤ a) → (l.length : Int) ≤ l.sum := by
      intro l
      induction l with
      | nil => intro _; simp
      | cons b l ih => intro h; have := ih (fun c hc => h c (.tail _ hc)); have := h b (.head _); simp only [List.sum_cons, List.length_cons]; lia
    have e : prodL (a :: l) = 2 ↔ (a = 1 ∧ prodL l = 2) ∨ (a = 2 ∧ prodL l = 1) := by
      simp only [prodL]
      rcases five ha with rfl | rfl | rfl | rfl | rfl <;> lia
    rw [e, ih, i1]
    simp only [List.sum_cons, List.length_cons, List.forall_mem_cons]
    constructor
    · rintro (⟨h1, h2, h3⟩ | ⟨h1, h2, h3⟩) <;> exact ⟨⟨by lia, h2⟩, by lia⟩
    · rintro ⟨⟨h1, h2⟩, h3⟩
      have := low l h2
      have : a = 1 ∨ a = 2 := by lia
      rcases this with rfl | rfl
      · exact .inl ⟨rfl, h2, by lia⟩
      · exact .inr ⟨rfl, h2, by lia⟩
def ends (ns : List Int) : List Int := [ns.getD 0 0, ns.getD 8 0, ns.getD 9 0, ns.getD 17 0, ns.getD 18 0, ns.getD 26 0, ns.getD 27 0, ns.getD 28 0, ns.getD 29 0, ns.getD 30 0, ns.getD 31 0, ns.getD 32 0, ns.getD 33 0]
theorem kok_iff {ns : List Int} (hb : ∀ i, 0 ≤ ns.getD i 0 ∧ ns.getD i 0 ≤ 4) : KOK ns ↔ (∀ a ∈ ends ns, 1 ≤ a) ∧ (ends ns).sum = 14 := by
  have e : prod13 ns = prodL (ends ns) := by simp only [prod13, ends, prodL, Int.mul_assoc, Int.mul_one]
  unfold KOK
  rw [e, prodL_two (ends ns) fun a ha => by
    simp only [ends, List.mem_cons, List.not_mem_nil, or_false] at ha
    rcases ha with rfl | rfl | rfl | rfl | rfl | rfl | rfl | rfl | rfl | rfl | rfl | rfl | rfl <;> exact hb _]
  rfl

-- one step of the walk
local macro_rules | `(tactic| walk_at "mI") => `(tactic| first
  | with_reducible refine evI_const ?_
  | ((with_reducible refine' evI_name (EnvOk.kind (by assumption)) ?hx ?_ ?hd); (case hx => exact rfl); (case hd => decide +kernel))
  | with_reducible refine evI_add ?_
  | with_reducible refine evI_sub ?_
  | with_reducible refine evI_or ?_
  | with_reducible refine evI_and ?_
  | with_reducible refine evI_shl ?_
  | with_reducible refine evI_mod ?_
  | with_reducible refine evI_div ?_
  | with_reducible refine evI_mul ?_
  | ((with_reducible refine' evI_itemC ?hn ?_); (case hn => exact rfl))
  | ((with_reducible refine evI_item ?_ ?hs); (case hs => intros; with_unfolding_all rfl))
  | ((with_reducible refine' evP_name (by assumption) ?hx ?hl ?_ ?hd); (case hx => exact rfl); (case hl => exact rfl); (case hd => decide +kernel))
  | ((with_reducible refine tst_lt ?_ ?hm); (case hm => with_unfolding_all rfl))
  | ((with_reducible refine tst_gt ?_ ?hm); (case hm => with_unfolding_all rfl))
  | ((with_reducible refine tst_ge ?_ ?hm); (case hm => with_unfolding_all rfl))
  | ((with_reducible refine tst_eq ?_ ?hm); (case hm => with_unfolding_all rfl))
  | ((with_reducible refine tst_ne ?_ ?hm); (case hm => with_unfolding_all rfl))
  | with_reducible refine tst_inset (by assumption) ?_
  | with_reducible refine evB_inset (by assumption) ?_
  | with_reducible refine tst_and_nil ?_
  | with_reducible refine tst_and ?_
  | with_reducible refine tst_or_nil ?_
  | with_reducible refine tst_or ?_
  | with_reducible refine tst_not ?_)
-- a name is stored
local macro_rules | `(tactic| walk_at "mAsgI") => `(tactic| ((with_reducible refine' x1_asgI (EnvOk.kind (by assumption)) ?hx ?_ ?hs); (case hx => exact stored_at (by assumption) rfl); (case hs => rfl)))
local macro_rules | `(tactic| walk_at "mAsg2I") => `(tactic| ((with_reducible refine' x1_asg2I (EnvOk.kind (by assumption)) ?hx ?hy ?_ ?he ?hw); (case hx => exact stored_at (by assumption) rfl); (case hy => exact stored_at (by assumption) rfl); (case he => rfl); (case hw => rfl)))
local macro_rules | `(tactic| walk_at "mAugAdd") => `(tactic| ((with_reducible refine' x1_aug_add (EnvOk.kind (by assumption)) ?hx ?hg ?_); (case hx => exact stored_at (by assumption) rfl); (case hg => exact rfl)))
local macro_rules | `(tactic| walk_at "mAugShr") => `(tactic| ((with_reducible refine' x1_aug_shr (EnvOk.kind (by assumption)) ?hx ?hg ?_); (case hx => exact stored_at (by assumption) rfl); (case hg => exact rfl)))
-- for x in range(e)
local macro_rules | `(tactic| walk_at "mRange") => `(tactic| ((with_reducible refine' x1_for (by assumption) (EnvOk.kind (by assumption)) ?hx (it_range (by assumption) ?hg ?hb ?_ ?he ?hd) ?hs); (case hx => exact stored_at (by assumption) rfl); (case hg => exact kind_at (by assumption) rfl); (case hb => exact Gnd.bi (by assumption) (by k_is) (by kernel_rfl) (by decide +kernel)); (case he => rfl); (case hd => decide +kernel); (case hs => intro _; rfl)))
set_option maxRecDepth 100000
set_option maxHeartbeats 4000000

def Rsets (n : Int) : Spec := fun ds k => ∃ ns, ds = [.list (PI ns)] ∧ ns.length = 34 ∧ (∀ i, 0 ≤ ns.getD i 0) ∧ ns.sum < n ∧ k (.bool (GG 0 0 0 ns))

theorem sets_meets {p : Program} {w : World} {h₀ : Heap} (hr : PySem.Challenge.rw_md0016_01 = PySem.Challenge.rw_md0016_01) (G : Gnd (topw.heap_39 w.params) h₀) : ∀ j : Nat, Meets p w h₀ 74 (j + 1) (Rsets (3 * (j + 1))) := by
  revert hr G
  k_fill
  intro hr G j
  have main : ∀ (j : Nat), (∀ j', j = j' + 1 → Meets p w h₀ 74 j (Rsets (3 * j))) → Meets p w h₀ 74 (j + 1) (Rsets (3 * (j + 1))) := by
    intro j ih
    refine meets_def ["left"] [] [] (G.X _ _ (by k_is)) rfl G.lim (codeRec_of G.X (by k_is)) rfl rfl rfl rfl rfl (fun _ => .nil) ?hb ?hk (by decide) (by decide) ?_ (Nat.succ_pos _)
    case hb =>
      intro s vs _ hl
      obtain ⟨v, rfl⟩ := vs1 hl
      exact BindsTo.of_eq rfl
    case hk =>
      intro n x hx
      rcases List.mem_singleton.mp hx with rfl
      exact .inl rfl
    rintro ds k ⟨ns, rfl, hl, h0, hs, hk⟩
    refine ⟨rfl, fun A env eo hh hdp hun => ?_⟩
    have hn : env.scope.names = _ := congrArg Scope.names eo.scope
    have ok : EnvOk env := ⟨by rw [eo.scope], eo.glob, eo.blt⟩
    dsimp only at hn
    clear eo
    show Ex p w h₀ A env [(Str.ofString "left", .val (.list (PI ns)))] _ _ _
    refine ex_cons ?_
    (with_reducible refine x1_asgI ok.kind ?hx ?_ ?hs); (case hx => exact stored_at hn rfl); (case hs => rfl)
    walk_at "mI"
    refine ex_cons (x1_mono (N' := fun m => ∃ i : Nat, i ≤ 34 ∧ m = st [(Str.ofString "left", .val (.list (PI ns)))] "kind" (.val (.int i)) ∧ (∀ z, z < i → ns.getD z 0 = 0) ∧ (i < 34 → ns.getD i 0 ≠ 0)) (x1_while 35 ?_) ?_)
    · refine whw_inv (fun n m => ∃ i : Nat, n + i = 35 ∧ i ≤ 34 ∧ m = st [(Str.ofString "left", .val (.list (PI ns)))] "kind" (.val (.int i)) ∧ ∀ z, z < i → ns.getD z 0 = 0) ?_ ?_ 35 _ ⟨0, rfl, by lia, rfl, fun z hz => absurd hz (Nat.not_lt_zero _)⟩
      · rintro m ⟨i, h1, h2, _⟩; lia
      rintro n m ⟨i, h1, h2, rfl, hz⟩
      iterate 4 walk_at "mI"
      refine it_cases (fun hi => ?_) (fun hi => ?_)
      · simp only [decide_eq_true_eq] at hi
        iterate 5 walk_at "mI"
        refine ⟨by lia, ?_⟩
        walk_at "mI"
        rw [Int.toNat_natCast]
        refine it_cases (fun hc => ?_) (fun hc => ?_)
        · walk_at "mI"
          refine it_t rfl ?_
          simp only [beq_iff_eq] at hc
          refine ex_cons ?_
          (with_reducible refine' x1_aug_add ok.kind ?hx ?hg ?_); (case hx => exact stored_at hn rfl); (case hg => exact rfl)
          walk_at "mI"
          refine ex_nil ⟨i + 1, by lia, by lia, st_st .., fun z hz' => ?_⟩
          by_cases e : z = i
          · rw [e]; exact hc
          · exact hz z (by lia)
        · refine it_f rfl ⟨i, by lia, rfl, hz, fun _ => by simpa using hc⟩
      · simp only [decide_eq_false_iff_not] at hi
        refine it_f rfl ⟨i, h2, rfl, hz, fun h => by lia⟩
    rintro m ⟨i, hi, rfl, hz, hnz⟩
    refine ex_cons (x1_if ?_)
    iterate 3 walk_at "mI"
    refine it_cases (fun h34 => ?_) (fun h34 => ?_)
    · simp only [beq_iff_eq] at h34
      refine ex_cons (x1_ret (ev_bool (evB_const ?_)))
      have e34 : i = 34 := by lia
      have : GG 0 0 0 ns = true := by
        have e : ns = List.replicate 34 0 ++ [] := by
          apply List.ext_getElem?
          intro z
          rw [List.append_nil, List.getElem?_replicate]
          by_cases hz1 : z < 34
          · have := hz z (by lia)
            rw [List.getD_eq_getElem?_getD] at this
            have hl' : z < ns.length := by lia
            rw [List.getElem?_eq_getElem hl', Option.getD_some] at this
            rw [if_pos hz1, List.getElem?_eq_getElem hl', this]
          · rw [if_neg hz1, List.getElem?_eq_none (by lia)]
        rw [e, gg_zeros]; rfl
      rw [this] at hk; exact hk
    refine ex_nil ?_
    have hi34 : i < 34 := by
      simp only [beq_eq_false_iff_ne, ne_eq] at h34; lia
    have hpos : 1 ≤ ns.getD i 0 := by have := h0 i; have := hnz hi34; lia
    have esp := split_zeros ns i (by lia) hz
    have eGG : GG 0 0 0 ns = GG i 0 0 (ns.getD i 0 :: ns.drop (i + 1)) := by
      conv => lhs; rw [esp]
      rw [gg_zeros, Nat.zero_add]
    refine ex_cons (x1_mono (N' := fun m => gt m "left" = some (.val (.list (PI ns))) ∧ gt m "kind" = some (.val (.int i)) ∧ (ns.getD i 0 < 3 ∨ GG 0 0 0 ns = false)) (x1_if ?_) ?_)
    · iterate 4 walk_at "mI"
      refine ⟨by lia, ?_⟩
      walk_at "mI"
      rw [Int.toNat_natCast]
      refine it_cases (fun h3 => ?_) (fun h3 => ?_)
      · simp only [decide_eq_true_eq, ge_iff_le] at h3
        refine ex_cons ?_
        (with_reducible refine' x1_asgN ok.kind ?hx (evN_all ?_) ?hs); (case hx => exact stored_at hn rfl); (case hs => rfl)
        walk_at "mI"
        refine ⟨by rw [hl]; decide, ?_⟩
        refine ex_cons ?_
        (with_reducible refine' x1_item_sub ok.kind ?hg ?hf ?_ ?hi ?hd); (case hg => exact rfl); (case hf => rw [hl]; decide); (case hi => intros; rfl); (case hd => decide +kernel)
        walk_at "mI"
        refine ⟨by lia, ?_⟩
        walk_at "mI"
        rw [Int.toNat_natCast]
        refine ex_cons (x1_if (tst_B ?_))
        obtain ⟨j', hj⟩ : ∃ j', j = j' + 1 := ⟨j - 1, by have := le_sum ns i h0; lia⟩
        refine evB_of ?_
        (with_reducible refine' ev_call ok (ih j' hj) ?hf hh ?hr ?hu ?hx ?hg ?_ ?he ?hp ?hd); (case hf => exact ⟨_, _, G.X _ _ (by k_is), rfl⟩); (case hr => lia); (case hu => lia); (case hx => exact kind_at hn rfl); (case hg => exact G.gl (by k_is)); (case he => rfl); (case hp => rfl); (case hd => decide +kernel)
        (with_reducible refine' evS_cons ?_ ?he); (case he => rfl)
        (with_reducible refine' ev_nameAny ok.kind ?hx ?_ ?hd); (case hx => exact rfl); (case hd => decide +kernel)
        refine evS_nil ⟨ns.set i (ns.getD i 0 - 3), rfl, by simpa using hl, fun z => ?_, ?_, ⟨_, rfl, ?_⟩⟩
        · rw [getD_set]; split
          · lia
          · exact h0 z
        · rw [sum_set ns i _ (by lia)]; lia
        have eset : GG 0 0 0 (ns.set i (ns.getD i 0 - 3)) = GG 0 0 0 ns := by
          rw [eGG, gg_set ns i (by lia) hz]
          exact gg_three h3
        rw [eset]
        refine it_cases (fun hg => ?_) (fun hg => ?_)
        · refine ex_cons (x1_ret (ev_bool (evB_const ?_)))
          rw [hg] at hk; exact hk
        · exact ex_nil (ex_nil ⟨rfl, rfl, .inr hg⟩)
      · simp only [decide_eq_false_iff_not, ge_iff_le] at h3
        exact ex_nil ⟨rfl, rfl, .inl (by lia)⟩
    rintro m ⟨gl, gk, hor⟩
    have efalse : (can i = true → ¬ (1 ≤ ns.getD (i + 1) 0 ∧ 1 ≤ ns.getD (i + 2) 0)) → GG 0 0 0 ns = false := fun hno => by
      rcases hor with h3 | h3
      · rw [eGG]
        refine gg_no hpos (by lia) (fun hc x y t' e => ?_) (fun hc => by simp [can] at hc; simp; lia)
        have hc' := hc
        simp only [can, Bool.and_eq_true, decide_eq_true_eq] at hc'
        rw [drop_cons ns (i + 1) (by lia), drop_cons ns (i + 1 + 1) (by lia)] at e
        injection e with e1 e2
        injection e2 with e2 e3
        rw [← e1, ← e2]
        exact hno hc
      · exact h3
    refine ex_forget (m' := [(Str.ofString "left", .val (.list (PI ns))), (Str.ofString "kind", .val (.int i))]) (fun x l e => ?_) ?_
    · unfold gt at e
      rw [List.lookup_cons] at e
      split at e
      · rename_i hb; rw [beq_iff_eq.mp hb, ← e]; exact gl
      · rw [List.lookup_cons] at e
        split at e
        · rename_i hb; rw [beq_iff_eq.mp hb, ← e]; exact gk
        · cases e
    refine ex_cons (x1_mono (N' := fun m => GG 0 0 0 ns = false) (x1_if ?_) fun m' hf => ?_)
    rotate_left
    · refine ex_cons (x1_ret (ev_bool (evB_const ?_)))
      rw [hf] at hk; exact hk
    iterate 4 walk_at "mI"
    refine it_cases (fun h27 => ?_) (fun h27 => ?_)
    rotate_left
    · refine it_f rfl (ex_nil (efalse fun hc => ?_))
      simp only [can, Bool.and_eq_true, decide_eq_true_eq] at hc
      simp only [decide_eq_false_iff_not] at h27
      lia
    simp only [decide_eq_true_eq] at h27
    iterate 5 walk_at "mI"
    refine ⟨by decide, ?_⟩
    walk_at "mI"
    have emod : (i : Int).fmod 9 = ((i % 9 : Nat) : Int) := by
      rw [Int.fmod_eq_emod_of_nonneg _ (by decide)]; lia
    rw [emod]
    refine it_cases (fun h7 => ?_) (fun h7 => ?_)
    rotate_left
    · refine it_f rfl (ex_nil (efalse fun hc => ?_))
      simp only [can, Bool.and_eq_true, decide_eq_true_eq] at hc
      simp only [decide_eq_false_iff_not] at h7
      lia
    simp only [decide_eq_true_eq] at h7
    have hcan : can i = true := by simp only [can, Bool.and_eq_true, decide_eq_true_eq]; lia
    iterate 7 walk_at "mI"
    refine ⟨by lia, ?_⟩
    walk_at "mI"
    have e1 : ((i : Int) + 1).toNat = i + 1 := by lia
    have e2 : ((i : Int) + 2).toNat = i + 2 := by lia
    rw [e1]
    refine it_cases (fun hx => ?_) (fun hx => ?_)
    rotate_left
    · refine it_f rfl (ex_nil (efalse fun _ hc => ?_))
      simp only [decide_eq_false_iff_not] at hx
      lia
    simp only [decide_eq_true_eq] at hx
    iterate 7 walk_at "mI"
    refine ⟨by lia, ?_⟩
    walk_at "mI"
    rw [e2]
    refine it_cases (fun hy => ?_) (fun hy => ?_)
    rotate_left
    · refine it_f rfl (ex_nil (efalse fun _ hc => ?_))
      simp only [decide_eq_false_iff_not] at hy
      lia
    simp only [decide_eq_true_eq] at hy
    walk_at "mI"
    refine it_t rfl ?_
    refine ex_cons ?_
    (with_reducible refine' x1_asgN ok.kind ?hx (evN_all ?_) ?hs); (case hx => exact stored_at hn rfl); (case hs => rfl)
    walk_at "mI"
    refine ⟨by rw [hl]; decide, ?_⟩
    refine ex_cons ?_
    (with_reducible refine' x1_for hh ok.kind ?hx (it_range ok ?hg ?hb ?_ ?he ?hd) ?hs); (case hx => exact stored_at hn rfl); (case hg => exact kind_at hn rfl); (case hb => exact G.bi (by k_is) (by kernel_rfl) (by decide +kernel)); (case he => rfl); (case hd => decide +kernel); (case hs => intro _; rfl)
    walk_at "mI"
    refine ⟨by decide, ?_⟩
    show ForW p w h₀ A env _ _ _ _ [.int 0, .int 1, .int 2] _
    refine forw_cons (ex_cons ?_)
    (with_reducible refine' x1_item_sub ok.kind ?hg ?hf ?_ ?hi ?hd); (case hg => exact rfl); (case hf => rw [hl]; decide); (case hi => intros; rfl); (case hd => decide +kernel)
    iterate 3 walk_at "mI"
    refine ⟨by lia, ?_⟩
    walk_at "mI"
    rw [show ((i : Int) + 0).toNat = i by lia]
    refine ex_nil (forw_cons (ex_cons ?_))
    (with_reducible refine' x1_item_sub ok.kind ?hg ?hf ?_ ?hi ?hd); (case hg => exact rfl); (case hf => rw [List.length_set, hl]; decide); (case hi => intros; rfl); (case hd => decide +kernel)
    iterate 3 walk_at "mI"
    refine ⟨by rw [List.length_set]; lia, ?_⟩
    walk_at "mI"
    rw [e1, getD_set, if_neg (by lia)]
    refine ex_nil (forw_cons (ex_cons ?_))
    (with_reducible refine' x1_item_sub ok.kind ?hg ?hf ?_ ?hi ?hd); (case hg => exact rfl); (case hf => rw [List.length_set, List.length_set, hl]; decide); (case hi => intros; rfl); (case hd => decide +kernel)
    iterate 3 walk_at "mI"
    refine ⟨by rw [List.length_set, List.length_set]; lia, ?_⟩
    walk_at "mI"
    rw [e2, getD_set, if_neg (by lia), getD_set, if_neg (by lia)]
    refine ex_nil (forw_nil (ex_cons (x1_ret (ev_bool (evB_of ?_)))))
    have hsum : ns.getD i 0 + ns.getD (i + 1) 0 + ns.getD (i + 2) 0 ≤ ns.sum := by
      have hA : 0 ≤ ((ns.set i 0).set (i + 1) 0).getD (i + 2) 0 ∧ ((ns.set i 0).set (i + 1) 0).getD (i + 2) 0 ≤ ((ns.set i 0).set (i + 1) 0).sum := by
        have hp : ∀ z, 0 ≤ ((ns.set i 0).set (i + 1) 0).getD z 0 := fun z => by
          rw [getD_set]; split
          · lia
          · rw [getD_set]; split
            · lia
            · exact h0 z
        exact ⟨hp _, le_sum _ _ hp⟩
      rw [getD_set, if_neg (by lia), getD_set, if_neg (by lia), sum_set _ _ _ (by simp; lia), sum_set _ _ _ (by lia), getD_set, if_neg (by lia)] at hA
      lia
    obtain ⟨j', hj⟩ : ∃ j', j = j' + 1 := ⟨j - 1, by lia⟩
    (with_reducible refine' ev_call ok (ih j' hj) ?hf hh ?hr ?hu ?hx ?hg ?_ ?he ?hp ?hd); (case hf => exact ⟨_, _, G.X _ _ (by k_is), rfl⟩); (case hr => lia); (case hu => lia); (case hx => exact kind_at hn rfl); (case hg => exact G.gl (by k_is)); (case he => rfl); (case hp => rfl); (case hd => decide +kernel)
    (with_reducible refine' evS_cons ?_ ?he); (case he => rfl)
    (with_reducible refine' ev_nameAny ok.kind ?hx ?_ ?hd); (case hx => exact rfl); (case hd => decide +kernel)
    refine evS_nil ⟨((ns.set i (ns.getD i 0 - 1)).set (i + 1) (ns.getD (i + 1) 0 - 1)).set (i + 2) (ns.getD (i + 2) 0 - 1), rfl, by simpa using hl, fun z => ?_, ?_, ⟨_, rfl, ?_⟩⟩
    · rw [getD_set]; split
      · lia
      · rw [getD_set]; split
        · lia
        · rw [getD_set]; split
          · lia
          · exact h0 z
    · rw [sum_set _ _ _ (by simp; lia), sum_set _ _ _ (by simp; lia), sum_set _ _ _ (by lia), getD_set, if_neg (by lia), getD_set, if_neg (by lia), getD_set, if_neg (by lia)]
      lia
    have eo : GG 0 0 0 ns = GG i 0 0 (ns.getD i 0 :: ns.getD (i + 1) 0 :: ns.getD (i + 2) 0 :: ns.drop (i + 3)) := by
      rw [eGG, drop_cons ns (i + 1) (by lia), drop_cons ns (i + 1 + 1) (by lia)]
    have key : GG 0 0 0 (((ns.set i (ns.getD i 0 - 1)).set (i + 1) (ns.getD (i + 1) 0 - 1)).set (i + 2) (ns.getD (i + 2) 0 - 1)) = GG 0 0 0 ns := by
      rw [gg_set3 ns i (by lia) hz, Bool.eq_iff_iff]
      constructor
      · intro h; rw [eo]; exact gg_run hcan hpos (by lia) (by lia) h
      · intro h
        rcases hor with h3 | h3
        · rw [eo] at h; exact gg_run' hcan hpos (by lia) (by lia) (by lia) h
        · rw [h] at h3; cases h3
    rw [key]; exact hk
  induction j with
  | zero => exact main 0 fun j' e => by lia
  | succ j ih =>
    refine main (j + 1) fun j' e => ?_
    rw [Int.natCast_add]
    exact ih

set_option maxRecDepth 100000
set_option maxHeartbeats 4000000

def Rmeld : Spec := fun ds k => ∃ ns d, ds = [.list (PI ns), .int d] ∧ ns.length = 34 ∧ (∀ i, 0 ≤ ns.getD i 0 ∧ ns.getD i 0 ≤ 4) ∧ (0 ≤ d ∧ d ≤ 18) ∧ k (.int (num ((List.range 9).map fun i => ns.getD (d.toNat + i) 0)))
def Rmentsu : Spec := fun ds k => ∃ m, ds = [.int m] ∧ 0 ≤ m ∧ k (.bool (mentsu m))
def Ratama : Spec := fun ds k => ∃ nn m, ds = [.int nn, .int m] ∧ 0 ≤ m ∧ k (.bool (atama nn m))

theorem small4 {n : Int} (h : 0 ≤ n ∧ n ≤ 4) : n.natAbs < 2 ^ 64 := by lia

theorem meld_meets {p : Program} {w : World} {h₀ : Heap} (hr : PySem.Challenge.rw_md0016_01 = PySem.Challenge.rw_md0016_01) (G : Gnd (topw.heap_39 w.params) h₀) : Meets p w h₀ 57 1 Rmeld := by
  revert hr G
  k_fill
  intro hr G
  refine meets_def ["tiles", "d"] [] [] (G.X _ _ (by k_is)) rfl G.lim (codeRec_of G.X (by k_is)) rfl rfl rfl rfl rfl (fun _ => .nil) ?hb ?hk (by decide) (by decide) ?_ (by decide)
  case hb =>
    intro s vs _ hl
    obtain ⟨v, v', rfl⟩ := vs2 hl
    exact BindsTo.of_eq rfl
  case hk =>
    intro n x hx
    simp only [List.mem_cons, List.not_mem_nil, or_false] at hx
    rcases hx with rfl | rfl <;> exact .inl rfl
  rintro ds k ⟨ns, d, rfl, hl, h0, hd, hk⟩
  refine ⟨rfl, fun A env eo hh hdp hun => ?_⟩
  have ok : EnvOk env := ⟨by rw [eo.scope], eo.glob, eo.blt⟩
  clear eo
  show Ex p w h₀ A env [(Str.ofString "tiles", .val (.list (PI ns))), (Str.ofString "d", .val (.int d))] _ _ _
  refine ex_cons (x1_ret (ev_int ?_))
  repeat (first | walk_at "mI" | refine ⟨by lia, ?_⟩ | refine ⟨⟨by decide, by decide, small4 (h0 _)⟩, ?_⟩)
  have hb : ∀ i, 0 ≤ ns.getD i 0 ∧ ns.getD i 0 ≤ 7 := fun i => by have := h0 i; lia
  have e := meld_num (hb d.toNat) (hb (d + 1).toNat) (hb (d + 2).toNat) (hb (d + 3).toNat) (hb (d + 4).toNat) (hb (d + 5).toNat) (hb (d + 6).toNat) (hb (d + 7).toNat) (hb (d + 8).toNat)
  have e2 : [ns.getD d.toNat 0, ns.getD (d + 1).toNat 0, ns.getD (d + 2).toNat 0, ns.getD (d + 3).toNat 0, ns.getD (d + 4).toNat 0, ns.getD (d + 5).toNat 0, ns.getD (d + 6).toNat 0, ns.getD (d + 7).toNat 0, ns.getD (d + 8).toNat 0] = (List.range 9).map fun i => ns.getD (d.toNat + i) 0 := by
    have t : ∀ i : Nat, (d + (i : Int)).toNat = d.toNat + i := fun i => by lia
    have t1 := t 1; have t2 := t 2; have t3 := t 3; have t4 := t 4; have t5 := t 5; have t6 := t 6; have t7 := t 7; have t8 := t 8
    simp only [Int.cast_ofNat_Int] at t1 t2 t3 t4 t5 t6 t7 t8
    rw [t1, t2, t3, t4, t5, t6, t7, t8]; rfl
  rw [e2] at e
  exact e ▸ hk

theorem mentsu_meets {p : Program} {w : World} {h₀ : Heap} (hr : PySem.Challenge.rw_md0016_01 = PySem.Challenge.rw_md0016_01) (G : Gnd (topw.heap_39 w.params) h₀) : Meets p w h₀ 37 1 Rmentsu := by
  revert hr G
  k_fill
  intro hr G
  refine meets_def ["m"] [] [] (G.X _ _ (by k_is)) rfl G.lim (codeRec_of G.X (by k_is)) rfl rfl rfl rfl rfl (fun _ => .nil) ?hb ?hk (by decide) (by decide) ?_ (by decide)
  case hb =>
    intro s vs _ hl
    obtain ⟨v, rfl⟩ := vs1 hl
    exact BindsTo.of_eq rfl
  case hk =>
    intro n x hx
    rcases List.mem_singleton.mp hx with rfl
    exact .inl rfl
  rintro ds k ⟨m, rfl, h0, hk⟩
  refine ⟨rfl, fun A env eo hh hdp hun => ?_⟩
  have hn : env.scope.names = _ := congrArg Scope.names eo.scope
  have ok : EnvOk env := ⟨by rw [eo.scope], eo.glob, eo.blt⟩
  have hcode : CodeOk h₀ env := ⟨_, _, _, eo.code, G.X _ _ (by k_is), rfl⟩
  dsimp only at hn
  clear eo
  show Ex p w h₀ A env [(Str.ofString "m", .val (.int m))] _ _ _
  refine ex_cons ?_
  walk_at "mAsgI"
  repeat walk_at "mI"
  rw [and7 h0]
  refine ex_cons ?_
  walk_at "mAsgI"
  walk_at "mI"
  refine ex_cons ?_
  walk_at "mAsgI"
  walk_at "mI"
  refine ex_cons (x1_mono (N' := fun l => Has l [("m", .val (.int m)), ("b", .val (.int (rn (m % 8)))), ("c", .val (.int (rn (m % 8))))]) (x1_if ?_) fun l hl => ex_has hl ?_)
  · repeat walk_at "mI"
    refine it_cases (fun hc => ?_) (fun hc => ?_)
    · simp only [Bool.or_eq_true, decide_eq_true_eq] at hc
      have er : rn (m % 8) = 1 := by unfold rn; rw [if_pos hc]
      rw [er]
      refine ex_cons ?_
      walk_at "mAsg2I"
      walk_at "mI"
      exact ex_nil ⟨rfl, rfl, rfl, trivial⟩
    · simp only [Bool.or_eq_false_iff, decide_eq_false_iff_not] at hc
      refine ex_cons (x1_if ?_)
      repeat walk_at "mI"
      refine it_cases (fun h2 => ?_) (fun h2 => ?_)
      · simp only [beq_iff_eq] at h2
        have er : rn (m % 8) = 2 := by unfold rn; rw [if_neg (by lia), if_pos h2]
        rw [er]
        refine ex_cons ?_
        walk_at "mAsg2I"
        walk_at "mI"
        exact ex_nil (ex_nil ⟨rfl, rfl, rfl, trivial⟩)
      · simp only [beq_eq_false_iff_ne, ne_eq] at h2
        have er : rn (m % 8) = 0 := by unfold rn; rw [if_neg (by lia), if_neg h2]
        rw [er]
        exact ex_nil (ex_nil ⟨rfl, rfl, rfl, trivial⟩)
  refine ex_cons ?_
  walk_at "mAugShr"
  walk_at "mI"
  refine ⟨by decide, ?_⟩
  rw [fdiv8]
  refine ex_cons ?_
  walk_at "mAsgI"
  repeat walk_at "mI"
  have h1 : 0 ≤ m / 8 := by lia
  rw [and7 h1]
  refine ex_cons (x1_mono (N' := fun l => (¬ (m / 8 % 8 - rn (m % 8) < 0)) ∧ Has l [("m", .val (.int (m / 8))), ("a", .val (.int (m / 8 % 8 - rn (m % 8)))), ("c", .val (.int (rn (m % 8))))]) (x1_if ?_) ?_)
  · repeat walk_at "mI"
    refine it_cases (fun hc => ?_) (fun hc => ?_)
    · simp only [decide_eq_true_eq] at hc
      refine ex_cons (x1_ret (ev_bool (evB_const ?_)))
      have : mentsu m = false := by unfold mentsu; rw [if_pos hc]
      rw [this] at hk; exact hk
    · simp only [decide_eq_false_iff_not] at hc
      exact ex_nil ⟨hc, rfl, rfl, rfl, trivial⟩
  rintro l ⟨hge, hl⟩
  have em : mentsu m = mentsuL 6 (m / 8 % 8 - rn (m % 8)) (rn (m % 8)) (m / 8) := by unfold mentsu; rw [if_neg hge]
  rw [em] at hk
  generalize m / 8 % 8 - rn (m % 8) = a at hl hk hge
  generalize rn (m % 8) = c at hl hk
  generalize m / 8 = m' at hl hk h1

  refine ex_has hl ?_
  refine ex_cons (x1_mono (N' := fun l => ∃ m c a, 0 ≤ m ∧ Has l [("m", .val (.int m)), ("c", .val (.int c))] ∧ k (.bool (mentsuL 0 a c m))) ?_ ?_)
  · walk_at "mRange"
    walk_at "mI"
    refine ⟨by decide, ?_⟩
    refine forw_inv (fun ds l => ∃ m c a, 0 ≤ m ∧ Has l [("m", .val (.int m)), ("a", .val (.int a)), ("c", .val (.int c))] ∧ k (.bool (mentsuL ds.length a c m))) ?_ ?_ _ _ ⟨m', c, a, h1, ⟨rfl, rfl, rfl, trivial⟩, hk⟩
    · rintro l ⟨m, c, a, h0, ⟨h1, h2, h3, _⟩, hk⟩
      exact ⟨m, c, a, h0, ⟨h1, h3, trivial⟩, hk⟩
    · rintro d ds l ⟨m, c, a, h0, hl, hk⟩
      refine ex_has (m' := [("m", .val (.int m)), ("a", .val (.int a)), ("c", .val (.int c))]) ?_ ?_
      · obtain ⟨h1, h2, h3, _⟩ := hl
        refine ⟨?_, ?_, ?_, trivial⟩ <;> rw [gt_st, if_neg (by decide)] <;> assumption
      refine ex_cons ?_
      walk_at "mAsgI"
      walk_at "mI"
      refine ex_cons ?_
      walk_at "mAsgI"
      walk_at "mI"
      refine ex_cons (x1_mono (N' := fun l => Has l [("m", .val (.int m)), ("b", .val (.int (c + rn a))), ("c", .val (.int (rn a)))]) (x1_if ?_) fun l hl => ex_has hl ?_)
      · repeat walk_at "mI"
        refine it_cases (fun hc => ?_) (fun hc => ?_)
        · simp only [Bool.or_eq_true, decide_eq_true_eq] at hc
          have er : rn a = 1 := by unfold rn; rw [if_pos hc]
          rw [er]
          refine ex_cons ?_
          walk_at "mAugAdd"
          walk_at "mI"
          refine ex_cons ?_
          walk_at "mAugAdd"
          walk_at "mI"
          exact ex_nil ⟨rfl, rfl, rfl, trivial⟩
        · simp only [Bool.or_eq_false_iff, decide_eq_false_iff_not] at hc
          refine ex_cons (x1_if ?_)
          repeat walk_at "mI"
          refine it_cases (fun h2 => ?_) (fun h2 => ?_)
          · simp only [beq_iff_eq] at h2
            have er : rn a = 2 := by unfold rn; rw [if_neg (by lia), if_pos h2]
            rw [er]
            refine ex_cons ?_
            walk_at "mAugAdd"
            walk_at "mI"
            refine ex_cons ?_
            walk_at "mAugAdd"
            walk_at "mI"
            exact ex_nil (ex_nil ⟨rfl, rfl, rfl, trivial⟩)
          · simp only [beq_eq_false_iff_ne, ne_eq] at h2
            have er : rn a = 0 := by unfold rn; rw [if_neg (by lia), if_neg h2]
            rw [er, Int.add_zero]
            exact ex_nil (ex_nil ⟨rfl, rfl, rfl, trivial⟩)
      refine ex_cons ?_
      walk_at "mAugShr"
      walk_at "mI"
      refine ⟨by decide, ?_⟩
      rw [fdiv8]
      refine ex_cons ?_
      walk_at "mAsgI"
      repeat walk_at "mI"
      have h1 : 0 ≤ m / 8 := by lia
      rw [and7 h1]
      refine ex_cons (x1_if ?_)
      repeat walk_at "mI"
      refine it_cases (fun hc => ?_) (fun hc => ?_)
      · simp only [decide_eq_true_eq] at hc
        refine ex_cons (x1_ret (ev_bool (evB_const ?_)))
        have : mentsuL (ds.length + 1) a c m = false := by unfold mentsuL; rw [if_pos hc]
        rw [List.length_cons, this] at hk; exact hk
      · simp only [decide_eq_false_iff_not] at hc
        have : mentsuL (ds.length + 1) a c m = mentsuL ds.length (m / 8 % 8 - (c + rn a)) (rn a) (m / 8) := by conv => lhs; unfold mentsuL; rw [if_neg hc]
        rw [List.length_cons, this] at hk
        exact ex_nil (ex_nil ⟨m / 8, rn a, _, h1, ⟨rfl, rfl, rfl, trivial⟩, hk⟩)
  rintro l ⟨m, c, a, h0, hl, hk⟩
  refine ex_has hl ?_
  refine ex_cons ?_
  walk_at "mAugShr"
  walk_at "mI"
  refine ⟨by decide, ?_⟩
  rw [fdiv8]
  refine ex_cons ?_
  walk_at "mAsgI"
  repeat walk_at "mI"
  rw [and7 (show 0 ≤ m / 8 by lia)]
  refine ex_cons (x1_ret (ev_bool ?_))
  repeat walk_at "mI"
  exact hk

set_option maxRecDepth 100000
set_option maxHeartbeats 4000000
theorem sm_at {p : Program} {w : World} {h₀ : Heap} {K : Frag} {C f sp : Addr} {mc : Value} {name : Str} {rest : List Value} (X : K.In h₀) (hg : specialIn K (.ref C) "__getattribute__" = some (some (.builtin "type.__getattribute__"))) (hr : readsIn K C mc = true)
    (e : findCls K (.ref C) mc name = some (.get (.builtin "staticmethod.__get__") (.ref sp) .none (.ref C))) (hp : recIn K sp "staticmethod" = some (.ref f :: rest)) : SmAt p w h₀ C name f := fun A s pl Q E g h =>
  method_cls (X.keeps g) hg (cls_bind (X.keeps g) hr e (wpAny_call (sm_get (s := { s with toks := s.toks + 1 }) (X.keeps g) hp (handed_on rfl (h _ (Ext.tok s _))))))

theorem sm_all {p : Program} {w : World} {h₀ : Heap} (hr : PySem.Challenge.rw_md0016_01 = PySem.Challenge.rw_md0016_01) (G : Gnd (topw.heap_39 w.params) h₀) : SmAt p w h₀ 63 "is_agari" 27 ∧ SmAt p w h₀ 63 "_is_mentsu" 37 ∧ SmAt p w h₀ 63 "_is_atama_mentsu" 47 ∧ SmAt p w h₀ 63 "_to_meld" 57 := by
  revert hr G
  k_fill
  intro hr G
  refine ⟨?_, ?_, ?_, ?_⟩
  all_goals
    refine' sm_at (mc := .type "type") G.X ?h1 ?h2 ?h3 ?h4
    case h1 => k_is
    case h3 => k_is
    case h2 => k_is
    case h4 => k_is

theorem atama_meets {p : Program} {w : World} {h₀ : Heap} (hr : PySem.Challenge.rw_md0016_01 = PySem.Challenge.rw_md0016_01) (G : Gnd (topw.heap_39 w.params) h₀) : Meets p w h₀ 47 2 Ratama := by
  have hme := mentsu_meets (p := p) hr G
  have hsm := (sm_all (p := p) hr G).2.1
  revert hr G
  k_fill
  intro hr G
  refine meets_def ["nn", "m"] [] [] (G.X _ _ (by k_is)) rfl G.lim (codeRec_of G.X (by k_is)) rfl rfl rfl rfl rfl (fun _ => .nil) ?hb ?hk (by decide) (by decide) ?_ (by decide)
  case hb =>
    intro s vs _ hl
    obtain ⟨v, v', rfl⟩ := vs2 hl
    exact BindsTo.of_eq rfl
  case hk =>
    intro n x hx
    simp only [List.mem_cons, List.not_mem_nil, or_false] at hx
    rcases hx with rfl | rfl <;> exact .inl rfl
  rintro ds k ⟨nn, m, rfl, h0, hk⟩
  refine ⟨rfl, fun A env eo hh hdp hun => ?_⟩
  have hn : env.scope.names = _ := congrArg Scope.names eo.scope
  have ok : EnvOk env := ⟨by rw [eo.scope], eo.glob, eo.blt⟩
  dsimp only at hn
  clear eo
  show Ex p w h₀ A env [(Str.ofString "nn", .val (.int nn)), (Str.ofString "m", .val (.int m))] _ _ _
  have fn37 : FnAt h₀ 37 := ⟨_, _, G.X _ _ (by k_is), rfl⟩
  have gA : Gl h₀ "Agari" (.ref 63) := G.gl (by k_is)
  refine ex_cons (x1_mono (N' := fun _ => atama nn m = false) (x1_if ?_) fun l hf => ?_)
  rotate_left
  · refine ex_cons (x1_ret (ev_bool (evB_const ?_)))
    rw [hf] at hk; exact hk
  repeat walk_at "mI"
  refine it_cases (fun hc => ?_) (fun hc => ?_)
  · simp only [beq_iff_eq] at hc
    refine ex_cons (x1_mono (N' := fun l => at2 m 2 = false ∧ Has l [("m", .val (.int m))]) (x1_if ?_) ?_)
    · repeat (first | walk_at "mI" | refine ⟨⟨by decide, by decide, by decide⟩, ?_⟩)
      rw [cond_dg h0 2 (by decide)]
      refine it_cases (fun hd => ?_) (fun hd => ?_)
      · simp only [decide_eq_true_eq, ge_iff_le] at hd
        refine tst_and (tst_B (evB_of ?_))
        (with_reducible refine' ev_scall ok hme fn37 hsm hh ?hr ?hu ?hx gA ?_ ?hm ?he ?hp ?hd); (case hr => lia); (case hu => lia); (case hx => exact kind_at hn rfl); (case hm => rfl); (case he => rfl); (case hp => rfl); (case hd => decide +kernel)
        (with_reducible refine' evS_cons (ev_int ?_) ?he); (case he => rfl)
        repeat (first | walk_at "mI" | refine ⟨⟨by decide, by decide, by decide⟩, ?_⟩)
        have hle := dg_le h0 hd
        refine evS_nil ⟨m - 2 * 8 ^ 2, rfl, by lia, _, rfl, ?_⟩
        refine it_cases (fun hg => ?_) (fun hg => ?_)
        · walk_at "mI"
          refine it_t rfl (ex_cons (x1_ret (ev_bool (evB_const ?_))))
          have e2 : at2 m 2 = true := by unfold at2; rw [hg]; simp [hd]
          have : atama nn m = true := by unfold atama; simp [hc, e2]
          rw [this] at hk; exact hk
        · refine it_f rfl (ex_nil ⟨by unfold at2; rw [hg]; simp, rfl, trivial⟩)
      · refine it_f rfl (ex_nil ⟨by unfold at2; simp only [decide_eq_false_iff_not, ge_iff_le] at hd; simp [hd], rfl, trivial⟩)
    rintro l ⟨hf2, hl⟩
    refine ex_has hl ?_
    refine ex_cons (x1_mono (N' := fun l => at2 m 5 = false ∧ Has l [("m", .val (.int m))]) (x1_if ?_) ?_)
    · repeat (first | walk_at "mI" | refine ⟨⟨by decide, by decide, by decide⟩, ?_⟩)
      rw [cond_dg h0 5 (by decide)]
      refine it_cases (fun hd => ?_) (fun hd => ?_)
      · simp only [decide_eq_true_eq, ge_iff_le] at hd
        refine tst_and (tst_B (evB_of ?_))
        (with_reducible refine' ev_scall ok hme fn37 hsm hh ?hr ?hu ?hx gA ?_ ?hm ?he ?hp ?hd); (case hr => lia); (case hu => lia); (case hx => exact kind_at hn rfl); (case hm => rfl); (case he => rfl); (case hp => rfl); (case hd => decide +kernel)
        (with_reducible refine' evS_cons (ev_int ?_) ?he); (case he => rfl)
        repeat (first | walk_at "mI" | refine ⟨⟨by decide, by decide, by decide⟩, ?_⟩)
        have hle := dg_le h0 hd
        refine evS_nil ⟨m - 2 * 8 ^ 5, rfl, by lia, _, rfl, ?_⟩
        refine it_cases (fun hg => ?_) (fun hg => ?_)
        · walk_at "mI"
          refine it_t rfl (ex_cons (x1_ret (ev_bool (evB_const ?_))))
          have e2 : at2 m 5 = true := by unfold at2; rw [hg]; simp [hd]
          have : atama nn m = true := by unfold atama; simp [hc, e2]
          rw [this] at hk; exact hk
        · refine it_f rfl (ex_nil ⟨by unfold at2; rw [hg]; simp, rfl, trivial⟩)
      · refine it_f rfl (ex_nil ⟨by unfold at2; simp only [decide_eq_false_iff_not, ge_iff_le] at hd; simp [hd], rfl, trivial⟩)
    rintro l ⟨hf5, hl⟩
    refine ex_has hl ?_
    refine ex_cons (x1_mono (N' := fun l => at2 m 8 = false ∧ Has l [("m", .val (.int m))]) (x1_if ?_) ?_)
    · repeat (first | walk_at "mI" | refine ⟨⟨by decide, by decide, by decide⟩, ?_⟩)
      rw [cond_dg h0 8 (by decide)]
      refine it_cases (fun hd => ?_) (fun hd => ?_)
      · simp only [decide_eq_true_eq, ge_iff_le] at hd
        refine tst_and (tst_B (evB_of ?_))
        (with_reducible refine' ev_scall ok hme fn37 hsm hh ?hr ?hu ?hx gA ?_ ?hm ?he ?hp ?hd); (case hr => lia); (case hu => lia); (case hx => exact kind_at hn rfl); (case hm => rfl); (case he => rfl); (case hp => rfl); (case hd => decide +kernel)
        (with_reducible refine' evS_cons (ev_int ?_) ?he); (case he => rfl)
        repeat (first | walk_at "mI" | refine ⟨⟨by decide, by decide, by decide⟩, ?_⟩)
        have hle := dg_le h0 hd
        refine evS_nil ⟨m - 2 * 8 ^ 8, rfl, by lia, _, rfl, ?_⟩
        refine it_cases (fun hg => ?_) (fun hg => ?_)
        · walk_at "mI"
          refine it_t rfl (ex_cons (x1_ret (ev_bool (evB_const ?_))))
          have e2 : at2 m 8 = true := by unfold at2; rw [hg]; simp [hd]
          have : atama nn m = true := by unfold atama; simp [hc, e2]
          rw [this] at hk; exact hk
        · refine it_f rfl (ex_nil ⟨by unfold at2; rw [hg]; simp, rfl, trivial⟩)
      · refine it_f rfl (ex_nil ⟨by unfold at2; simp only [decide_eq_false_iff_not, ge_iff_le] at hd; simp [hd], rfl, trivial⟩)
    rintro l ⟨hf8, hl⟩
    refine ex_has hl ?_
    refine ex_nil ?_
    unfold atama; simp [hc, hf2, hf5, hf8]
  simp only [beq_eq_false_iff_ne, ne_eq] at hc
  have hc0 := hc
  clear hc
  refine ex_cons (x1_if ?_)
  repeat walk_at "mI"
  refine it_cases (fun hc => ?_) (fun hc => ?_)
  · simp only [beq_iff_eq] at hc
    refine ex_cons (x1_mono (N' := fun l => at2 m 1 = false ∧ Has l [("m", .val (.int m))]) (x1_if ?_) ?_)
    · repeat (first | walk_at "mI" | refine ⟨⟨by decide, by decide, by decide⟩, ?_⟩)
      rw [cond_dg h0 1 (by decide)]
      refine it_cases (fun hd => ?_) (fun hd => ?_)
      · simp only [decide_eq_true_eq, ge_iff_le] at hd
        refine tst_and (tst_B (evB_of ?_))
        (with_reducible refine' ev_scall ok hme fn37 hsm hh ?hr ?hu ?hx gA ?_ ?hm ?he ?hp ?hd); (case hr => lia); (case hu => lia); (case hx => exact kind_at hn rfl); (case hm => rfl); (case he => rfl); (case hp => rfl); (case hd => decide +kernel)
        (with_reducible refine' evS_cons (ev_int ?_) ?he); (case he => rfl)
        repeat (first | walk_at "mI" | refine ⟨⟨by decide, by decide, by decide⟩, ?_⟩)
        have hle := dg_le h0 hd
        refine evS_nil ⟨m - 2 * 8 ^ 1, rfl, by lia, _, rfl, ?_⟩
        refine it_cases (fun hg => ?_) (fun hg => ?_)
        · walk_at "mI"
          refine it_t rfl (ex_cons (x1_ret (ev_bool (evB_const ?_))))
          have e2 : at2 m 1 = true := by unfold at2; rw [hg]; simp [hd]
          have : atama nn m = true := by unfold atama; simp [hc, e2]
          rw [this] at hk; exact hk
        · refine it_f rfl (ex_nil ⟨by unfold at2; rw [hg]; simp, rfl, trivial⟩)
      · refine it_f rfl (ex_nil ⟨by unfold at2; simp only [decide_eq_false_iff_not, ge_iff_le] at hd; simp [hd], rfl, trivial⟩)
    rintro l ⟨hf1, hl⟩
    refine ex_has hl ?_
    refine ex_cons (x1_mono (N' := fun l => at2 m 4 = false ∧ Has l [("m", .val (.int m))]) (x1_if ?_) ?_)
    · repeat (first | walk_at "mI" | refine ⟨⟨by decide, by decide, by decide⟩, ?_⟩)
      rw [cond_dg h0 4 (by decide)]
      refine it_cases (fun hd => ?_) (fun hd => ?_)
      · simp only [decide_eq_true_eq, ge_iff_le] at hd
        refine tst_and (tst_B (evB_of ?_))
        (with_reducible refine' ev_scall ok hme fn37 hsm hh ?hr ?hu ?hx gA ?_ ?hm ?he ?hp ?hd); (case hr => lia); (case hu => lia); (case hx => exact kind_at hn rfl); (case hm => rfl); (case he => rfl); (case hp => rfl); (case hd => decide +kernel)
        (with_reducible refine' evS_cons (ev_int ?_) ?he); (case he => rfl)
        repeat (first | walk_at "mI" | refine ⟨⟨by decide, by decide, by decide⟩, ?_⟩)
        have hle := dg_le h0 hd
        refine evS_nil ⟨m - 2 * 8 ^ 4, rfl, by lia, _, rfl, ?_⟩
        refine it_cases (fun hg => ?_) (fun hg => ?_)
        · walk_at "mI"
          refine it_t rfl (ex_cons (x1_ret (ev_bool (evB_const ?_))))
          have e2 : at2 m 4 = true := by unfold at2; rw [hg]; simp [hd]
          have : atama nn m = true := by unfold atama; simp [hc, e2]
          rw [this] at hk; exact hk
        · refine it_f rfl (ex_nil ⟨by unfold at2; rw [hg]; simp, rfl, trivial⟩)
      · refine it_f rfl (ex_nil ⟨by unfold at2; simp only [decide_eq_false_iff_not, ge_iff_le] at hd; simp [hd], rfl, trivial⟩)
    rintro l ⟨hf4, hl⟩
    refine ex_has hl ?_
    refine ex_cons (x1_mono (N' := fun l => at2 m 7 = false ∧ Has l [("m", .val (.int m))]) (x1_if ?_) ?_)
    · repeat (first | walk_at "mI" | refine ⟨⟨by decide, by decide, by decide⟩, ?_⟩)
      rw [cond_dg h0 7 (by decide)]
      refine it_cases (fun hd => ?_) (fun hd => ?_)
      · simp only [decide_eq_true_eq, ge_iff_le] at hd
        refine tst_and (tst_B (evB_of ?_))
        (with_reducible refine' ev_scall ok hme fn37 hsm hh ?hr ?hu ?hx gA ?_ ?hm ?he ?hp ?hd); (case hr => lia); (case hu => lia); (case hx => exact kind_at hn rfl); (case hm => rfl); (case he => rfl); (case hp => rfl); (case hd => decide +kernel)
        (with_reducible refine' evS_cons (ev_int ?_) ?he); (case he => rfl)
        repeat (first | walk_at "mI" | refine ⟨⟨by decide, by decide, by decide⟩, ?_⟩)
        have hle := dg_le h0 hd
        refine evS_nil ⟨m - 2 * 8 ^ 7, rfl, by lia, _, rfl, ?_⟩
        refine it_cases (fun hg => ?_) (fun hg => ?_)
        · walk_at "mI"
          refine it_t rfl (ex_cons (x1_ret (ev_bool (evB_const ?_))))
          have e2 : at2 m 7 = true := by unfold at2; rw [hg]; simp [hd]
          have : atama nn m = true := by unfold atama; simp [hc, e2]
          rw [this] at hk; exact hk
        · refine it_f rfl (ex_nil ⟨by unfold at2; rw [hg]; simp, rfl, trivial⟩)
      · refine it_f rfl (ex_nil ⟨by unfold at2; simp only [decide_eq_false_iff_not, ge_iff_le] at hd; simp [hd], rfl, trivial⟩)
    rintro l ⟨hf7, hl⟩
    refine ex_has hl ?_
    refine ex_nil (ex_nil ?_)
    unfold atama; simp [hc, hf1, hf4, hf7]
  simp only [beq_eq_false_iff_ne, ne_eq] at hc
  have hc1 := hc
  clear hc
  refine ex_cons (x1_if ?_)
  repeat walk_at "mI"
  refine it_cases (fun hc => ?_) (fun hc => ?_)
  · simp only [beq_iff_eq] at hc
    refine ex_cons (x1_mono (N' := fun l => at2 m 0 = false ∧ Has l [("m", .val (.int m))]) (x1_if ?_) ?_)
    · repeat (first | walk_at "mI" | refine ⟨⟨by decide, by decide, by decide⟩, ?_⟩)
      rw [and7 h0, ← dg0]
      refine it_cases (fun hd => ?_) (fun hd => ?_)
      · simp only [decide_eq_true_eq, ge_iff_le] at hd
        refine tst_and (tst_B (evB_of ?_))
        (with_reducible refine' ev_scall ok hme fn37 hsm hh ?hr ?hu ?hx gA ?_ ?hm ?he ?hp ?hd); (case hr => lia); (case hu => lia); (case hx => exact kind_at hn rfl); (case hm => rfl); (case he => rfl); (case hp => rfl); (case hd => decide +kernel)
        (with_reducible refine' evS_cons (ev_int ?_) ?he); (case he => rfl)
        repeat (first | walk_at "mI" | refine ⟨⟨by decide, by decide, by decide⟩, ?_⟩)
        have hle := dg_le h0 hd
        refine evS_nil ⟨m - 2 * 8 ^ 0, rfl, by lia, _, rfl, ?_⟩
        refine it_cases (fun hg => ?_) (fun hg => ?_)
        · walk_at "mI"
          refine it_t rfl (ex_cons (x1_ret (ev_bool (evB_const ?_))))
          have e2 : at2 m 0 = true := by unfold at2; rw [hg]; simp [hd]
          have : atama nn m = true := by unfold atama; simp [hc, e2]
          rw [this] at hk; exact hk
        · refine it_f rfl (ex_nil ⟨by unfold at2; rw [hg]; simp, rfl, trivial⟩)
      · refine it_f rfl (ex_nil ⟨by unfold at2; simp only [decide_eq_false_iff_not, ge_iff_le] at hd; simp [hd], rfl, trivial⟩)
    rintro l ⟨hf0, hl⟩
    refine ex_has hl ?_
    refine ex_cons (x1_mono (N' := fun l => at2 m 3 = false ∧ Has l [("m", .val (.int m))]) (x1_if ?_) ?_)
    · repeat (first | walk_at "mI" | refine ⟨⟨by decide, by decide, by decide⟩, ?_⟩)
      rw [cond_dg h0 3 (by decide)]
      refine it_cases (fun hd => ?_) (fun hd => ?_)
      · simp only [decide_eq_true_eq, ge_iff_le] at hd
        refine tst_and (tst_B (evB_of ?_))
        (with_reducible refine' ev_scall ok hme fn37 hsm hh ?hr ?hu ?hx gA ?_ ?hm ?he ?hp ?hd); (case hr => lia); (case hu => lia); (case hx => exact kind_at hn rfl); (case hm => rfl); (case he => rfl); (case hp => rfl); (case hd => decide +kernel)
        (with_reducible refine' evS_cons (ev_int ?_) ?he); (case he => rfl)
        repeat (first | walk_at "mI" | refine ⟨⟨by decide, by decide, by decide⟩, ?_⟩)
        have hle := dg_le h0 hd
        refine evS_nil ⟨m - 2 * 8 ^ 3, rfl, by lia, _, rfl, ?_⟩
        refine it_cases (fun hg => ?_) (fun hg => ?_)
        · walk_at "mI"
          refine it_t rfl (ex_cons (x1_ret (ev_bool (evB_const ?_))))
          have e2 : at2 m 3 = true := by unfold at2; rw [hg]; simp [hd]
          have : atama nn m = true := by unfold atama; simp [hc, e2]
          rw [this] at hk; exact hk
        · refine it_f rfl (ex_nil ⟨by unfold at2; rw [hg]; simp, rfl, trivial⟩)
      · refine it_f rfl (ex_nil ⟨by unfold at2; simp only [decide_eq_false_iff_not, ge_iff_le] at hd; simp [hd], rfl, trivial⟩)
    rintro l ⟨hf3, hl⟩
    refine ex_has hl ?_
    refine ex_cons (x1_mono (N' := fun l => at2 m 6 = false ∧ Has l [("m", .val (.int m))]) (x1_if ?_) ?_)
    · repeat (first | walk_at "mI" | refine ⟨⟨by decide, by decide, by decide⟩, ?_⟩)
      rw [cond_dg h0 6 (by decide)]
      refine it_cases (fun hd => ?_) (fun hd => ?_)
      · simp only [decide_eq_true_eq, ge_iff_le] at hd
        refine tst_and (tst_B (evB_of ?_))
        (with_reducible refine' ev_scall ok hme fn37 hsm hh ?hr ?hu ?hx gA ?_ ?hm ?he ?hp ?hd); (case hr => lia); (case hu => lia); (case hx => exact kind_at hn rfl); (case hm => rfl); (case he => rfl); (case hp => rfl); (case hd => decide +kernel)
        (with_reducible refine' evS_cons (ev_int ?_) ?he); (case he => rfl)
        repeat (first | walk_at "mI" | refine ⟨⟨by decide, by decide, by decide⟩, ?_⟩)
        have hle := dg_le h0 hd
        refine evS_nil ⟨m - 2 * 8 ^ 6, rfl, by lia, _, rfl, ?_⟩
        refine it_cases (fun hg => ?_) (fun hg => ?_)
        · walk_at "mI"
          refine it_t rfl (ex_cons (x1_ret (ev_bool (evB_const ?_))))
          have e2 : at2 m 6 = true := by unfold at2; rw [hg]; simp [hd]
          have : atama nn m = true := by unfold atama; simp [hc, e2]
          rw [this] at hk; exact hk
        · refine it_f rfl (ex_nil ⟨by unfold at2; rw [hg]; simp, rfl, trivial⟩)
      · refine it_f rfl (ex_nil ⟨by unfold at2; simp only [decide_eq_false_iff_not, ge_iff_le] at hd; simp [hd], rfl, trivial⟩)
    rintro l ⟨hf6, hl⟩
    refine ex_has hl ?_
    refine ex_nil (ex_nil (ex_nil ?_))
    unfold atama; simp [hc, hf0, hf3, hf6]
  simp only [beq_eq_false_iff_ne, ne_eq] at hc
  refine ex_nil (ex_nil (ex_nil ?_))
  unfold atama; simp [hc0, hc1, hc]

set_option maxRecDepth 100000
set_option maxHeartbeats 4000000

def Ragari : Spec := fun ds k => ∃ ns, ds = [.list (PI ns)] ∧ ns.length = 34 ∧ (∀ i, 0 ≤ ns.getD i 0 ∧ ns.getD i 0 ≤ 4) ∧ k (.bool (AGb ns))
theorem mul4 {a n : Int} (h : 0 ≤ n ∧ n ≤ 4) : IntMulOk a n := by
  have : Builtin.Int.intBits n ≤ 64 := by
    rcases five h with rfl | rfl | rfl | rfl | rfl <;> decide
  exact IntMulOk.of_right this
theorem or4 {a b c d : Int} (ha : 0 ≤ a) (hb : 0 ≤ b) (hc : 0 ≤ c) (hd : 0 ≤ d) : (!(Builtin.bitOr (Builtin.bitOr (Builtin.bitOr a b) c) d != 0)) = true ↔ (a = 0 ∧ b = 0) ∧ c = 0 ∧ d = 0 := by
  have h1 := or_zero ha hb
  have h2 := or_zero h1.1 hc
  have h3 := or_zero h2.1 hd
  have e : (!(Builtin.bitOr (Builtin.bitOr (Builtin.bitOr a b) c) d != 0)) = true ↔ Builtin.bitOr (Builtin.bitOr (Builtin.bitOr a b) c) d = 0 := by simp
  rw [e, h3.2, h2.2, h1.2]
  simp only [and_assoc]
theorem or6 {a b c d e f : Int} (ha : 0 ≤ a) (hb : 0 ≤ b) (hc : 0 ≤ c) (hd : 0 ≤ d) (he : 0 ≤ e) (hf : 0 ≤ f) : (!(Builtin.bitOr (Builtin.bitOr (Builtin.bitOr (Builtin.bitOr (Builtin.bitOr a b) c) d) e) f != 0)) = true ↔ (a = 0 ∧ b = 0) ∧ (c = 0 ∧ d = 0) ∧ e = 0 ∧ f = 0 := by
  have h1 := or_zero ha hb
  have h2 := or_zero h1.1 hc
  have h3 := or_zero h2.1 hd
  have h4 := or_zero h3.1 he
  have h5 := or_zero h4.1 hf
  have e : (!(Builtin.bitOr (Builtin.bitOr (Builtin.bitOr (Builtin.bitOr (Builtin.bitOr a b) c) d) e) f != 0)) = true ↔ Builtin.bitOr (Builtin.bitOr (Builtin.bitOr (Builtin.bitOr (Builtin.bitOr a b) c) d) e) f = 0 := by simp
  rw [e, h5.2, h4.2, h3.2, h2.2, h1.2]
  simp only [and_assoc]
theorem fsum (ns : List Int) (s : Nat) : ((ns.getD (9 * s + 0) 0 + ns.getD (9 * s + 3) 0 + ns.getD (9 * s + 6) 0) + (ns.getD (9 * s + 1) 0 + ns.getD (9 * s + 4) 0 + ns.getD (9 * s + 7) 0) + (ns.getD (9 * s + 2) 0 + ns.getD (9 * s + 5) 0 + ns.getD (9 * s + 8) 0)).fmod 3 = (seg ns s).sum % 3 := by
  have : seg ns s = [ns.getD (9 * s + 0) 0, ns.getD (9 * s + 1) 0, ns.getD (9 * s + 2) 0, ns.getD (9 * s + 3) 0, ns.getD (9 * s + 4) 0, ns.getD (9 * s + 5) 0, ns.getD (9 * s + 6) 0, ns.getD (9 * s + 7) 0, ns.getD (9 * s + 8) 0] := rfl
  rw [this, Int.fmod_eq_emod_of_nonneg _ (by decide)]
  simp only [List.sum_cons, List.sum_nil]
  congr 1
  lia
theorem fwsum (ns : List Int) (s : Nat) : ((ns.getD (9 * s + 0) 0 + ns.getD (9 * s + 3) 0 + ns.getD (9 * s + 6) 0) * 1 + (ns.getD (9 * s + 1) 0 + ns.getD (9 * s + 4) 0 + ns.getD (9 * s + 7) 0) * 2).fmod 3 = wsum (seg ns s) % 3 := by
  rw [Int.fmod_eq_emod_of_nonneg _ (by decide)]; rfl
theorem num_seg0 {ns : List Int} (hb : ∀ i, 0 ≤ ns.getD i 0 ∧ ns.getD i 0 ≤ 4) (s : Nat) : 0 ≤ num (seg ns s) := num_nonneg _ fun a ha => (seg_four hb s a ha).1

theorem it_any {c : Bool} {P : Bool → Prop} (t : c = true → P true) (f : c = false → P false) : P c := by
  cases c with
  | true => exact t rfl
  | false => exact f rfl
theorem bne_ff {a b : Int} (h : (a != b) = false) : a = b := by simpa using h
theorem suit_two {ns : List Int} (hl : ns.length = 34) (hb : ∀ i, 0 ≤ ns.getD i 0 ∧ ns.getD i 0 ≤ 4) (h1 : hasv ns 1 = false) (h4 : hasv ns 4 = false) (h2 : hasv ns 2 = false) {s a b : Nat} (hs : s < 3) (hab : a < 3 ∧ b < 3 ∧ a ≠ s ∧ b ≠ s ∧ a ≠ b) (hn : (seg ns s).sum % 3 = 2) :
    PS ns ↔ GG 0 0 0 (seg ns a) = true ∧ GG 0 0 0 (seg ns b) = true ∧ atama (wsum (seg ns s) % 3) (num (seg ns s)) = true := by
  rw [ps_iff_suit hl hb h1 h4 h2 hs hn]
  constructor
  · rintro ⟨h, ha⟩
    exact ⟨h a hab.1 hab.2.2.1, h b hab.2.1 hab.2.2.2.1, ha⟩
  · rintro ⟨ga, gb, ha⟩
    refine ⟨fun s' hs' hne => ?_, ha⟩
    have : s' = a ∨ s' = b := by lia
    rcases this with rfl | rfl <;> assumption

theorem agari_meets {p : Program} {w : World} {h₀ : Heap} (hr : PySem.Challenge.rw_md0016_01 = PySem.Challenge.rw_md0016_01) (G : Gnd (topw.heap_39 w.params) h₀) : Meets p w h₀ 27 3 Ragari := by
  have hme := mentsu_meets (p := p) hr G
  have hat := atama_meets (p := p) hr G
  have hml := meld_meets (p := p) hr G
  have hsm := sm_all (p := p) hr G
  revert hr G
  k_fill
  intro hr G
  refine meets_def ["tiles_34", "open_sets_34"] [.none] [.none] (G.X _ _ (by k_is)) rfl G.lim (codeRec_of G.X (by k_is)) rfl rfl rfl rfl rfl (fun _ => .cons .none .nil) ?hb ?hk (by decide) (by decide) ?_ (by decide)
  case hb =>
    intro s vs hg hl
    obtain ⟨v, rfl⟩ := List.length_eq_one_iff.mp (show vs.length = 1 from Nat.succ.inj hl)
    exact BindsTo.of_defaults rfl (hg _ _ (G.X _ _ (by k_is))) rfl rfl rfl
  case hk =>
    intro n x hx
    simp only [List.mem_cons, List.not_mem_nil, or_false] at hx
    rcases hx with rfl | rfl <;> exact .inl rfl
  rintro ds k ⟨ns, rfl, hl, hb, hk⟩
  refine ⟨rfl, fun A env eo hh hdp hun => ?_⟩
  have hn : env.scope.names = _ := congrArg Scope.names eo.scope
  have ok : EnvOk env := ⟨by rw [eo.scope], eo.glob, eo.blt⟩
  have hce : env.cells = [(Str.ofString "tiles", env.locals + 1)] := eo.cells.trans rfl
  dsimp only at hn
  clear eo
  have hcl : env.cells.lookup (Str.ofString "tiles") = some (env.locals + 1) := by rw [hce]; rfl
  have fn37 : FnAt h₀ 37 := ⟨_, _, G.X _ _ (by k_is), rfl⟩
  have fn47 : FnAt h₀ 47 := ⟨_, _, G.X _ _ (by k_is), rfl⟩
  have fn57 : FnAt h₀ 57 := ⟨_, _, G.X _ _ (by k_is), rfl⟩
  have gA : Gl h₀ "Agari" (.ref 63) := G.gl (by k_is)
  show Ex p w h₀ A env [(Str.ofString "tiles_34", .val (.list (PI ns))), (Str.ofString "open_sets_34", .val .none)] _ _ _
  refine ex_cons (x1_mono (N' := fun l => Has l [("tiles", .val (.list (PI ns)))]) (x1_if ?_) fun l hlo => ex_has hlo ?_)
  · (with_reducible refine' tst_none ok.kind ?hx ?_ ?hd); (case hx => exact rfl); (case hd => decide +kernel)
    refine it_f rfl (ex_cons ?_)
    (with_reducible refine' x1_asgV ok.kind ?hx ?_ ?hs); (case hx => exact stored_cell hn rfl hcl); (case hs => rfl)
    (with_reducible refine' ev_name ok.kind ?hx ?_ ?hd); (case hx => exact rfl); (case hd => decide +kernel)
    exact ex_nil ⟨rfl, trivial⟩
  refine ex_cons ?_
  walk_at "mAsgI"
  repeat (first | walk_at "mI" | refine ⟨by rw [hl]; decide, ?_⟩ | refine ⟨⟨(hb _).1, Int.le_trans (hb _).2 (by decide), by decide⟩, ?_⟩)
  rw [jv_eq hb]
  refine ex_cons (x1_mono (N' := fun l => hasv ns 4 = false ∧ Has l [("tiles", .val (.list (PI ns))), ("j", .val (.int (J5 (hasv ns 0) (hasv ns 1) (hasv ns 2) (hasv ns 3) (hasv ns 4))))]) (x1_if ?_) ?_)
  · repeat walk_at "mI"
    rw [J5_ge]
    refine it_cases (fun hc => ?_) (fun hc => ?_)
    · refine ex_cons (x1_ret (ev_bool (evB_const ?_)))
      rw [agb_f (lf_4 hl hb hc)] at hk; exact hk
    · exact ex_nil ⟨hc, rfl, rfl, trivial⟩
  rintro l ⟨h4, hlo⟩
  refine ex_has hlo ?_
  refine ex_cons (x1_mono (N' := fun l => ¬ KOK ns ∧ Has l [("tiles", .val (.list (PI ns))), ("j", .val (.int (J5 (hasv ns 0) (hasv ns 1) (hasv ns 2) (hasv ns 3) (hasv ns 4))))]) (x1_if ?_) ?_)
  · repeat walk_at "mI"
    rw [J5_3]
    refine it_cases (fun hc => ?_) (fun hc => ?_)
    · repeat (first | walk_at "mI" | refine ⟨by rw [hl]; decide, ?_⟩ | refine ⟨mul4 (hb _), ?_⟩)
      refine it_cases (fun hq => ?_) (fun hq => ?_)
      · walk_at "mI"
        refine it_t rfl (ex_cons (x1_ret (ev_bool (evB_const ?_))))
        have : KOK ns := by first | exact beq_iff_eq.mp hq | (have hq := beq_iff_eq.mp hq; exact hq)
        rw [agb_t (.inl this)] at hk; exact hk
      · refine it_f rfl (ex_nil ⟨lf_kok0 hb (.inr ?_), rfl, rfl, trivial⟩)
        exact beq_eq_false_iff_ne.mp hq
    · exact it_f rfl (ex_nil ⟨lf_kok0 hb (.inl hc), rfl, rfl, trivial⟩)
  rintro l ⟨hnk, hlo⟩
  refine ex_has hlo ?_
  refine ex_cons (x1_mono (N' := fun l => ¬ CHI ns ∧ Has l [("tiles", .val (.list (PI ns))), ("j", .val (.int (J5 (hasv ns 0) (hasv ns 1) (hasv ns 2) (hasv ns 3) (hasv ns 4))))]) (x1_if ?_) ?_)
  · refine tst_and (tst_not (tst_I ?_))
    repeat walk_at "mI"
    rw [J5_10]
    refine it_cases (fun hc => ?_) (fun hc => ?_)
    · refine tst_and ?_
      (with_reducible refine tst_eq ?_ ?hm); (case hm => with_unfolding_all rfl)
      (with_reducible refine' evI_sumB ok hh ?hx ?hB ?_ ?he ?hd); (case hx => exact kind_at hn rfl); (case hB => exact G.bi (by k_is) (by kernel_rfl) (by decide +kernel)); (case he => rfl); (case hd => decide +kernel)
      (with_reducible refine' ev_new (evN_comp [(Str.ofString "tiles", env.locals + 1)] [(Str.ofString "tiles", .val (.list (PI ns)))] hh ?K ?hc ?_ ?hs))
      case hs => intro _; rfl
      case K =>
        refine ⟨by decide, rfl, rfl, by decide, closureFor_closes ?_, ?_, ?_⟩
        · simp only [closes, hcl]; rfl
        · intro q hq; rw [hce]; exact hq
        · exact List.pairwise_singleton _ _
      case hc =>
        refine caught_cons ok.kind rfl (kind_at hn rfl) rfl rfl hcl caught_nil
      (with_reducible refine' it_range ok ?hg ?hb ?_ ?he ?hd); (case hg => exact kind_at (by assumption) rfl); (case hb => exact Gnd.bi (by assumption) (by k_is) (by kernel_rfl) (by decide +kernel)); (case he => rfl); (case hd => decide +kernel)
      repeat walk_at "mI"
      refine ⟨by decide, by decide, fun C => compw_env ok rfl fun e' ok' _ => ?_⟩
      refine compw_map (fun d => match d with | .int i => .bool (ns.getD i.toNat 0 == 2) | d => d) _ _ (fun d hd => ?_) ⟨(List.range 34).map fun i => (ns.getD i 0 == 2), rfl, ?_⟩
      · obtain ⟨i, hi, rfl⟩ := List.mem_map.mp hd
        obtain ⟨j, hj, rfl⟩ := List.mem_map.mp hi
        have hj := List.mem_range.mp hj
        refine ev_bool ?_
        (with_reducible refine evB_eq ?_ ?hm); (case hm => with_unfolding_all rfl)
        repeat walk_at "mI"
        refine ⟨⟨by lia, by rw [hl]; exact Int.ofNat_lt.mpr hj, by rw [hl]; decide⟩, ?_⟩
        repeat walk_at "mI"
        rfl
      · repeat walk_at "mI"
        refine it_cases (fun hq => ?_) (fun hq => ?_)
        · walk_at "mI"
          refine it_t rfl (ex_cons (x1_ret (ev_bool (evB_const ?_))))
          have h1 : hasv ns 1 = false := by cases h : hasv ns 1 with | false => rfl | true => rw [h] at hc; cases hc
          have h3 : hasv ns 3 = false := by cases h : hasv ns 3 with | false => rfl | true => rw [h, Bool.or_true] at hc; cases hc
          have : CHI ns := ⟨h1, h3, h4, beq_iff_eq.mp hq⟩
          rw [agb_t (.inr (.inl this))] at hk; exact hk
        · exact it_f rfl (ex_nil ⟨fun q => beq_eq_false_iff_ne.mp hq q.2.2.2, rfl, rfl, trivial⟩)
    · exact it_f rfl (ex_nil ⟨fun q => by (rw [q.1, q.2.1] at hc; cases hc), rfl, rfl, trivial⟩)
  rintro l ⟨hnc, hlo⟩
  refine ex_has hlo ?_
  refine ex_cons (x1_mono (N' := fun l => hasv ns 1 = false ∧ Has l [("tiles", .val (.list (PI ns))), ("j", .val (.int (J5 (hasv ns 0) (hasv ns 1) (hasv ns 2) (hasv ns 3) (hasv ns 4))))]) (x1_if ?_) ?_)
  · refine tst_I ?_
    repeat walk_at "mI"
    rw [J5_2]
    refine it_cases (fun hc => ?_) (fun hc => ?_)
    · refine ex_cons (x1_ret (ev_bool (evB_const ?_)))
      rw [agb_f (lf_1 hl hb hnk hc)] at hk; exact hk
    · exact ex_nil ⟨hc, rfl, rfl, trivial⟩
  rintro l ⟨h1, hlo⟩
  refine ex_has hlo ?_
  have fin_f : ¬ PS ns → k (.bool false) := fun h => by
    rw [agb_f (fun q => by rcases q with q | q | q; exact hnk q; exact hnc q; exact h q)] at hk; exact hk
  have fin_t : PS ns → k (.bool true) := fun h => by
    rw [agb_t (.inr (.inr h))] at hk; exact hk
  have em0 : num ((List.range 9).map fun i => ns.getD ((0 : Int).toNat + i) 0) = num (seg ns 0) := rfl
  have em1 : num ((List.range 9).map fun i => ns.getD ((9 : Int).toNat + i) 0) = num (seg ns 1) := rfl
  have em2 : num ((List.range 9).map fun i => ns.getD ((18 : Int).toNat + i) 0) = num (seg ns 2) := rfl
  have es0 := fsum ns 0
  have es1 := fsum ns 1
  have es2 := fsum ns 2
  have ew0 := fwsum ns 0
  have ew1 := fwsum ns 1
  have ew2 := fwsum ns 2
  simp only [Nat.mul_zero, Nat.mul_one, Nat.zero_add, Nat.reduceAdd, Nat.reduceMul] at es0 es1 es2 ew0 ew1 ew2
  refine ex_cons ?_
  walk_at "mAsgI"
  repeat (first | walk_at "mI" | refine ⟨by rw [hl]; decide, ?_⟩ | refine ⟨by decide, ?_⟩ | refine ⟨mul_ok _, ?_⟩ | refine ⟨mul_ok1 _, ?_⟩)
  refine ex_cons ?_
  walk_at "mAsgI"
  repeat (first | walk_at "mI" | refine ⟨by rw [hl]; decide, ?_⟩ | refine ⟨by decide, ?_⟩ | refine ⟨mul_ok _, ?_⟩ | refine ⟨mul_ok1 _, ?_⟩)
  refine ex_cons ?_
  walk_at "mAsgI"
  repeat (first | walk_at "mI" | refine ⟨by rw [hl]; decide, ?_⟩ | refine ⟨by decide, ?_⟩ | refine ⟨mul_ok _, ?_⟩ | refine ⟨mul_ok1 _, ?_⟩)
  refine ex_cons ?_
  walk_at "mAsgI"
  repeat (first | walk_at "mI" | refine ⟨by rw [hl]; decide, ?_⟩ | refine ⟨by decide, ?_⟩ | refine ⟨mul_ok _, ?_⟩ | refine ⟨mul_ok1 _, ?_⟩)
  refine ex_cons ?_
  walk_at "mAsgI"
  repeat (first | walk_at "mI" | refine ⟨by rw [hl]; decide, ?_⟩ | refine ⟨by decide, ?_⟩ | refine ⟨mul_ok _, ?_⟩ | refine ⟨mul_ok1 _, ?_⟩)
  refine ex_cons ?_
  walk_at "mAsgI"
  repeat (first | walk_at "mI" | refine ⟨by rw [hl]; decide, ?_⟩ | refine ⟨by decide, ?_⟩ | refine ⟨mul_ok _, ?_⟩ | refine ⟨mul_ok1 _, ?_⟩)
  refine ex_cons ?_
  walk_at "mAsgI"
  repeat (first | walk_at "mI" | refine ⟨by rw [hl]; decide, ?_⟩ | refine ⟨by decide, ?_⟩ | refine ⟨mul_ok _, ?_⟩ | refine ⟨mul_ok1 _, ?_⟩)
  refine ex_cons ?_
  walk_at "mAsgI"
  repeat (first | walk_at "mI" | refine ⟨by rw [hl]; decide, ?_⟩ | refine ⟨by decide, ?_⟩ | refine ⟨mul_ok _, ?_⟩ | refine ⟨mul_ok1 _, ?_⟩)
  refine ex_cons ?_
  walk_at "mAsgI"
  repeat (first | walk_at "mI" | refine ⟨by rw [hl]; decide, ?_⟩ | refine ⟨by decide, ?_⟩ | refine ⟨mul_ok _, ?_⟩ | refine ⟨mul_ok1 _, ?_⟩)
  refine ex_has (m' := [("tiles", .val (.list (PI ns))), ("j", .val (.int (J5 (hasv ns 0) (hasv ns 1) (hasv ns 2) (hasv ns 3) (hasv ns 4)))), ("n00", .val (.int (ns.getD 0 0 + ns.getD 3 0 + ns.getD 6 0))), ("n01", .val (.int (ns.getD 1 0 + ns.getD 4 0 + ns.getD 7 0))), ("n02", .val (.int (ns.getD 2 0 + ns.getD 5 0 + ns.getD 8 0))), ("n10", .val (.int (ns.getD 9 0 + ns.getD 12 0 + ns.getD 15 0))), ("n11", .val (.int (ns.getD 10 0 + ns.getD 13 0 + ns.getD 16 0))), ("n12", .val (.int (ns.getD 11 0 + ns.getD 14 0 + ns.getD 17 0))), ("n20", .val (.int (ns.getD 18 0 + ns.getD 21 0 + ns.getD 24 0))), ("n21", .val (.int (ns.getD 19 0 + ns.getD 22 0 + ns.getD 25 0))), ("n22", .val (.int (ns.getD 20 0 + ns.getD 23 0 + ns.getD 26 0)))]) ⟨rfl, rfl, rfl, rfl, rfl, rfl, rfl, rfl, rfl, rfl, rfl, trivial⟩ ?_
  refine ex_cons ?_
  walk_at "mAsgI"
  repeat (first | walk_at "mI" | refine ⟨by rw [hl]; decide, ?_⟩ | refine ⟨by decide, ?_⟩ | refine ⟨mul_ok _, ?_⟩ | refine ⟨mul_ok1 _, ?_⟩)
  rw [es0]
  refine ex_cons (x1_if ?_)
  repeat walk_at "mI"
  refine it_cases (fun hc => ?_) (fun hc0 => ex_nil ?_)
  · refine ex_cons (x1_ret (ev_bool (evB_const (fin_f (ps_n1 hl hb rfl rfl rfl (.inl (beq_iff_eq.mp hc)))))))
  refine ex_cons ?_
  walk_at "mAsgI"
  repeat (first | walk_at "mI" | refine ⟨by rw [hl]; decide, ?_⟩ | refine ⟨by decide, ?_⟩ | refine ⟨mul_ok _, ?_⟩ | refine ⟨mul_ok1 _, ?_⟩)
  rw [es1]
  refine ex_cons (x1_if ?_)
  repeat walk_at "mI"
  refine it_cases (fun hc => ?_) (fun hc1 => ex_nil ?_)
  · refine ex_cons (x1_ret (ev_bool (evB_const (fin_f (ps_n1 hl hb rfl rfl rfl (.inr (.inl (beq_iff_eq.mp hc))))))))
  refine ex_cons ?_
  walk_at "mAsgI"
  repeat (first | walk_at "mI" | refine ⟨by rw [hl]; decide, ?_⟩ | refine ⟨by decide, ?_⟩ | refine ⟨mul_ok _, ?_⟩ | refine ⟨mul_ok1 _, ?_⟩)
  rw [es2]
  refine ex_cons (x1_if ?_)
  repeat walk_at "mI"
  refine it_cases (fun hc => ?_) (fun hc2 => ex_nil ?_)
  · refine ex_cons (x1_ret (ev_bool (evB_const (fin_f (ps_n1 hl hb rfl rfl rfl (.inr (.inr (beq_iff_eq.mp hc))))))))
  refine ex_has (m' := [("tiles", .val (.list (PI ns))), ("j", .val (.int (J5 (hasv ns 0) (hasv ns 1) (hasv ns 2) (hasv ns 3) (hasv ns 4)))), ("n00", .val (.int (ns.getD 0 0 + ns.getD 3 0 + ns.getD 6 0))), ("n01", .val (.int (ns.getD 1 0 + ns.getD 4 0 + ns.getD 7 0))), ("n02", .val (.int (ns.getD 2 0 + ns.getD 5 0 + ns.getD 8 0))), ("n10", .val (.int (ns.getD 9 0 + ns.getD 12 0 + ns.getD 15 0))), ("n11", .val (.int (ns.getD 10 0 + ns.getD 13 0 + ns.getD 16 0))), ("n12", .val (.int (ns.getD 11 0 + ns.getD 14 0 + ns.getD 17 0))), ("n20", .val (.int (ns.getD 18 0 + ns.getD 21 0 + ns.getD 24 0))), ("n21", .val (.int (ns.getD 19 0 + ns.getD 22 0 + ns.getD 25 0))), ("n22", .val (.int (ns.getD 20 0 + ns.getD 23 0 + ns.getD 26 0))), ("n0", .val (.int ((seg ns 0).sum % 3))), ("n1", .val (.int ((seg ns 1).sum % 3))), ("n2", .val (.int ((seg ns 2).sum % 3)))]) ⟨rfl, rfl, rfl, rfl, rfl, rfl, rfl, rfl, rfl, rfl, rfl, rfl, rfl, rfl, trivial⟩ ?_
  -- the pairs
  refine ex_cons (x1_if ?_)
  (with_reducible refine tst_ne ?_ ?hm); (case hm => with_unfolding_all rfl)
  with_reducible refine evI_addIB ?_
  with_reducible refine evI_addIB ?_
  with_reducible refine evI_addIB ?_
  with_reducible refine evI_addIB ?_
  with_reducible refine evI_addIB ?_
  with_reducible refine evI_addIB ?_
  with_reducible refine evI_addIB ?_
  with_reducible refine evI_addIB ?_
  with_reducible refine evI_addBB ?_
  repeat (first | ((with_reducible refine evB_eq ?_ ?hm); (case hm => with_unfolding_all rfl)) | walk_at "mI" | refine ⟨by rw [hl]; decide, ?_⟩)
  refine it_cases (fun hc => ?_) (fun hc => ex_nil ?_)
  · refine ex_cons (x1_ret (ev_bool (evB_const (fin_f fun hps => ?_))))
    exact bne_iff_ne.mp hc (ps_pairs hl hb rfl rfl rfl hps)
  have hpr : pairs ns ((seg ns 0).sum % 3) ((seg ns 1).sum % 3) ((seg ns 2).sum % 3) = 1 := bne_ff hc
  refine ex_cons ?_
  walk_at "mAsgI"
  repeat (first | walk_at "mI" | refine ⟨IntMulOk.of_right (by decide), ?_⟩ | refine ⟨by decide, ?_⟩)
  rw [ew0]
  refine ex_cons ?_
  walk_at "mAsgI"
  with_reducible refine evI_of ?_
  (with_reducible refine' ev_scall ok hml fn57 hsm.2.2.2 hh ?hr ?hu ?hx gA ?_ ?hm ?he ?hp ?hd); (case hr => lia); (case hu => lia); (case hx => exact kind_at hn rfl); (case hm => rfl); (case he => rfl); (case hp => rfl); (case hd => decide +kernel)
  (with_reducible refine' evS_cons (ev_nameAny ok.kind ?hx ?_ ?hd) ?he); (case hx => exact rfl); (case hd => decide +kernel); (case he => rfl)
  (with_reducible refine' evS_cons (ev_int ?_) ?he); (case he => rfl)
  walk_at "mI"
  refine evS_nil ⟨ns, 0, rfl, hl, hb, by decide, _, rfl, ?_⟩
  rw [em0]
  refine ex_cons ?_
  walk_at "mAsgI"
  repeat (first | walk_at "mI" | refine ⟨IntMulOk.of_right (by decide), ?_⟩ | refine ⟨by decide, ?_⟩)
  rw [ew1]
  refine ex_cons ?_
  walk_at "mAsgI"
  with_reducible refine evI_of ?_
  (with_reducible refine' ev_scall ok hml fn57 hsm.2.2.2 hh ?hr ?hu ?hx gA ?_ ?hm ?he ?hp ?hd); (case hr => lia); (case hu => lia); (case hx => exact kind_at hn rfl); (case hm => rfl); (case he => rfl); (case hp => rfl); (case hd => decide +kernel)
  (with_reducible refine' evS_cons (ev_nameAny ok.kind ?hx ?_ ?hd) ?he); (case hx => exact rfl); (case hd => decide +kernel); (case he => rfl)
  (with_reducible refine' evS_cons (ev_int ?_) ?he); (case he => rfl)
  walk_at "mI"
  refine evS_nil ⟨ns, 9, rfl, hl, hb, by decide, _, rfl, ?_⟩
  rw [em1]
  refine ex_cons ?_
  walk_at "mAsgI"
  repeat (first | walk_at "mI" | refine ⟨IntMulOk.of_right (by decide), ?_⟩ | refine ⟨by decide, ?_⟩)
  rw [ew2]
  refine ex_cons ?_
  walk_at "mAsgI"
  with_reducible refine evI_of ?_
  (with_reducible refine' ev_scall ok hml fn57 hsm.2.2.2 hh ?hr ?hu ?hx gA ?_ ?hm ?he ?hp ?hd); (case hr => lia); (case hu => lia); (case hx => exact kind_at hn rfl); (case hm => rfl); (case he => rfl); (case hp => rfl); (case hd => decide +kernel)
  (with_reducible refine' evS_cons (ev_nameAny ok.kind ?hx ?_ ?hd) ?he); (case hx => exact rfl); (case hd => decide +kernel); (case he => rfl)
  (with_reducible refine' evS_cons (ev_int ?_) ?he); (case he => rfl)
  walk_at "mI"
  refine evS_nil ⟨ns, 18, rfl, hl, hb, by decide, _, rfl, ?_⟩
  rw [em2]
  refine ex_has (m' := [("tiles", .val (.list (PI ns))), ("j", .val (.int (J5 (hasv ns 0) (hasv ns 1) (hasv ns 2) (hasv ns 3) (hasv ns 4)))), ("n0", .val (.int ((seg ns 0).sum % 3))), ("nn0", .val (.int (wsum (seg ns 0) % 3))), ("m0", .val (.int (num (seg ns 0)))), ("n1", .val (.int ((seg ns 1).sum % 3))), ("nn1", .val (.int (wsum (seg ns 1) % 3))), ("m1", .val (.int (num (seg ns 1)))), ("n2", .val (.int ((seg ns 2).sum % 3))), ("nn2", .val (.int (wsum (seg ns 2) % 3))), ("m2", .val (.int (num (seg ns 2))))]) ⟨rfl, rfl, rfl, rfl, rfl, rfl, rfl, rfl, rfl, rfl, rfl, trivial⟩ ?_
  refine ex_cons (x1_if (tst_I ?_))
  repeat walk_at "mI"
  rw [J5_4]
  refine it_cases (fun h2 => ?_) (fun h2 => ex_nil ?_)
  · have hP := ps_iff_hon hl hb h1 h4 h2 hpr rfl rfl rfl
    have hor := or6 (a := (seg ns 0).sum % 3) (b := wsum (seg ns 0) % 3) (c := (seg ns 1).sum % 3) (d := wsum (seg ns 1) % 3) (e := (seg ns 2).sum % 3) (f := wsum (seg ns 2) % 3) (Int.emod_nonneg _ (by decide)) (Int.emod_nonneg _ (by decide)) (Int.emod_nonneg _ (by decide)) (Int.emod_nonneg _ (by decide)) (Int.emod_nonneg _ (by decide)) (Int.emod_nonneg _ (by decide))
    refine ex_cons (x1_ret (ev_bool ?_))
    with_reducible refine evB_and ?_
    with_reducible refine evB_notI ?_
    repeat walk_at "mI"
    refine it_cases (fun hq => ?_) (fun hq => fin_f fun hps => ?_)
    rotate_left
    · obtain ⟨g0, g1, g2⟩ := hP.mp hps
      have q0 := (suit_iff hb 0).mp g0
      have q1 := (suit_iff hb 1).mp g1
      have q2 := (suit_iff hb 2).mp g2
      rw [hor.mpr ⟨⟨q0.1, q0.2.1⟩, ⟨q1.1, q1.2.1⟩, q2.1, q2.2.1⟩] at hq; cases hq
    have hz := hor.mp hq
    with_reducible refine evB_and ?_
    with_reducible refine evB_of ?_
    (with_reducible refine' ev_scall ok hme fn37 hsm.2.1 hh ?hr ?hu ?hx gA ?_ ?hm ?he ?hp ?hd); (case hr => lia); (case hu => lia); (case hx => exact kind_at hn rfl); (case hm => rfl); (case he => rfl); (case hp => rfl); (case hd => decide +kernel)
    (with_reducible refine' evS_cons (ev_int ?_) ?he); (case he => rfl)
    walk_at "mI"
    refine evS_nil ⟨num (seg ns 0), rfl, num_seg0 hb 0, _, rfl, ?_⟩
    refine it_cases (fun hm0 => ?_) (fun hq => fin_f fun hps => ?_)
    rotate_left
    · obtain ⟨g0, g1, g2⟩ := hP.mp hps
      rw [((suit_iff hb 0).mp g0).2.2] at hq; cases hq
    with_reducible refine evB_and ?_
    with_reducible refine evB_of ?_
    (with_reducible refine' ev_scall ok hme fn37 hsm.2.1 hh ?hr ?hu ?hx gA ?_ ?hm ?he ?hp ?hd); (case hr => lia); (case hu => lia); (case hx => exact kind_at hn rfl); (case hm => rfl); (case he => rfl); (case hp => rfl); (case hd => decide +kernel)
    (with_reducible refine' evS_cons (ev_int ?_) ?he); (case he => rfl)
    walk_at "mI"
    refine evS_nil ⟨num (seg ns 1), rfl, num_seg0 hb 1, _, rfl, ?_⟩
    refine it_cases (fun hm1 => ?_) (fun hq => fin_f fun hps => ?_)
    rotate_left
    · obtain ⟨g0, g1, g2⟩ := hP.mp hps
      rw [((suit_iff hb 1).mp g1).2.2] at hq; cases hq
    with_reducible refine evB_and1 ?_
    with_reducible refine evB_of ?_
    (with_reducible refine' ev_scall ok hme fn37 hsm.2.1 hh ?hr ?hu ?hx gA ?_ ?hm ?he ?hp ?hd); (case hr => lia); (case hu => lia); (case hx => exact kind_at hn rfl); (case hm => rfl); (case he => rfl); (case hp => rfl); (case hd => decide +kernel)
    (with_reducible refine' evS_cons (ev_int ?_) ?he); (case he => rfl)
    walk_at "mI"
    refine evS_nil ⟨num (seg ns 2), rfl, num_seg0 hb 2, _, rfl, ?_⟩
    refine it_any (P := fun b => k (.bool b)) (fun hm2 => fin_t (hP.mpr ⟨(suit_iff hb 0).mpr ⟨hz.1.1, hz.1.2, hm0⟩, (suit_iff hb 1).mpr ⟨hz.2.1.1, hz.2.1.2, hm1⟩, (suit_iff hb 2).mpr ⟨hz.2.2.1, hz.2.2.2, hm2⟩⟩)) (fun hq => fin_f fun hps => ?_)
    obtain ⟨g0, g1, g2⟩ := hP.mp hps
    rw [((suit_iff hb 2).mp g2).2.2] at hq; cases hq
  refine ex_cons (x1_if ?_)
  repeat walk_at "mI"
  refine it_cases (fun hn2 => ?_) (fun hn2 => ex_nil ?_)
  · have hn2 := beq_iff_eq.mp hn2
    have hP := suit_two hl hb h1 h4 h2 (s := 0) (a := 1) (b := 2) (by decide) (by decide) hn2
    have hor := or4 (a := (seg ns 1).sum % 3) (b := wsum (seg ns 1) % 3) (c := (seg ns 2).sum % 3) (d := wsum (seg ns 2) % 3)  (Int.emod_nonneg _ (by decide)) (Int.emod_nonneg _ (by decide)) (Int.emod_nonneg _ (by decide)) (Int.emod_nonneg _ (by decide))
    refine ex_cons (x1_ret (ev_bool ?_))
    with_reducible refine evB_and ?_
    with_reducible refine evB_notI ?_
    repeat walk_at "mI"
    refine it_cases (fun hq => ?_) (fun hq => fin_f fun hps => ?_)
    rotate_left
    · obtain ⟨g1, g2, ga⟩ := hP.mp hps
      have q1 := (suit_iff hb 1).mp g1
      have q2 := (suit_iff hb 2).mp g2
      rw [hor.mpr ⟨⟨q1.1, q1.2.1⟩, q2.1, q2.2.1⟩] at hq; cases hq
    have hz := hor.mp hq
    with_reducible refine evB_and ?_
    with_reducible refine evB_of ?_
    (with_reducible refine' ev_scall ok hme fn37 hsm.2.1 hh ?hr ?hu ?hx gA ?_ ?hm ?he ?hp ?hd); (case hr => lia); (case hu => lia); (case hx => exact kind_at hn rfl); (case hm => rfl); (case he => rfl); (case hp => rfl); (case hd => decide +kernel)
    (with_reducible refine' evS_cons (ev_int ?_) ?he); (case he => rfl)
    walk_at "mI"
    refine evS_nil ⟨num (seg ns 1), rfl, num_seg0 hb 1, _, rfl, ?_⟩
    refine it_cases (fun hm1 => ?_) (fun hq => fin_f fun hps => ?_)
    rotate_left
    · obtain ⟨g1, g2, ga⟩ := hP.mp hps
      rw [((suit_iff hb 1).mp g1).2.2] at hq; cases hq
    with_reducible refine evB_and ?_
    with_reducible refine evB_of ?_
    (with_reducible refine' ev_scall ok hme fn37 hsm.2.1 hh ?hr ?hu ?hx gA ?_ ?hm ?he ?hp ?hd); (case hr => lia); (case hu => lia); (case hx => exact kind_at hn rfl); (case hm => rfl); (case he => rfl); (case hp => rfl); (case hd => decide +kernel)
    (with_reducible refine' evS_cons (ev_int ?_) ?he); (case he => rfl)
    walk_at "mI"
    refine evS_nil ⟨num (seg ns 2), rfl, num_seg0 hb 2, _, rfl, ?_⟩
    refine it_cases (fun hm2 => ?_) (fun hq => fin_f fun hps => ?_)
    rotate_left
    · obtain ⟨g1, g2, ga⟩ := hP.mp hps
      rw [((suit_iff hb 2).mp g2).2.2] at hq; cases hq
    with_reducible refine evB_and1 ?_
    with_reducible refine evB_of ?_
    (with_reducible refine' ev_scall ok hat fn47 hsm.2.2.1 hh ?hr ?hu ?hx gA ?_ ?hm ?he ?hp ?hd); (case hr => lia); (case hu => lia); (case hx => exact kind_at hn rfl); (case hm => rfl); (case he => rfl); (case hp => rfl); (case hd => decide +kernel)
    (with_reducible refine' evS_cons (ev_int ?_) ?he); (case he => rfl)
    walk_at "mI"
    (with_reducible refine' evS_cons (ev_int ?_) ?he); (case he => rfl)
    walk_at "mI"
    refine evS_nil ⟨wsum (seg ns 0) % 3, num (seg ns 0), rfl, num_seg0 hb 0, _, rfl, ?_⟩
    refine it_any (P := fun b => k (.bool b)) (fun hma => fin_t (hP.mpr ⟨(suit_iff hb 1).mpr ⟨hz.1.1, hz.1.2, hm1⟩, (suit_iff hb 2).mpr ⟨hz.2.1, hz.2.2, hm2⟩, hma⟩)) (fun hq => fin_f fun hps => ?_)
    obtain ⟨g1, g2, ga⟩ := hP.mp hps
    rw [ga] at hq; cases hq
  have hn20 := beq_eq_false_iff_ne.mp hn2
  refine ex_cons (x1_if ?_)
  repeat walk_at "mI"
  refine it_cases (fun hn2 => ?_) (fun hn2 => ex_nil ?_)
  · have hn2 := beq_iff_eq.mp hn2
    have hP := suit_two hl hb h1 h4 h2 (s := 1) (a := 2) (b := 0) (by decide) (by decide) hn2
    have hor := or4 (a := (seg ns 2).sum % 3) (b := wsum (seg ns 2) % 3) (c := (seg ns 0).sum % 3) (d := wsum (seg ns 0) % 3)  (Int.emod_nonneg _ (by decide)) (Int.emod_nonneg _ (by decide)) (Int.emod_nonneg _ (by decide)) (Int.emod_nonneg _ (by decide))
    refine ex_cons (x1_ret (ev_bool ?_))
    with_reducible refine evB_and ?_
    with_reducible refine evB_notI ?_
    repeat walk_at "mI"
    refine it_cases (fun hq => ?_) (fun hq => fin_f fun hps => ?_)
    rotate_left
    · obtain ⟨g2, g0, ga⟩ := hP.mp hps
      have q2 := (suit_iff hb 2).mp g2
      have q0 := (suit_iff hb 0).mp g0
      rw [hor.mpr ⟨⟨q2.1, q2.2.1⟩, q0.1, q0.2.1⟩] at hq; cases hq
    have hz := hor.mp hq
    with_reducible refine evB_and ?_
    with_reducible refine evB_of ?_
    (with_reducible refine' ev_scall ok hme fn37 hsm.2.1 hh ?hr ?hu ?hx gA ?_ ?hm ?he ?hp ?hd); (case hr => lia); (case hu => lia); (case hx => exact kind_at hn rfl); (case hm => rfl); (case he => rfl); (case hp => rfl); (case hd => decide +kernel)
    (with_reducible refine' evS_cons (ev_int ?_) ?he); (case he => rfl)
    walk_at "mI"
    refine evS_nil ⟨num (seg ns 2), rfl, num_seg0 hb 2, _, rfl, ?_⟩
    refine it_cases (fun hm2 => ?_) (fun hq => fin_f fun hps => ?_)
    rotate_left
    · obtain ⟨g2, g0, ga⟩ := hP.mp hps
      rw [((suit_iff hb 2).mp g2).2.2] at hq; cases hq
    with_reducible refine evB_and ?_
    with_reducible refine evB_of ?_
    (with_reducible refine' ev_scall ok hme fn37 hsm.2.1 hh ?hr ?hu ?hx gA ?_ ?hm ?he ?hp ?hd); (case hr => lia); (case hu => lia); (case hx => exact kind_at hn rfl); (case hm => rfl); (case he => rfl); (case hp => rfl); (case hd => decide +kernel)
    (with_reducible refine' evS_cons (ev_int ?_) ?he); (case he => rfl)
    walk_at "mI"
    refine evS_nil ⟨num (seg ns 0), rfl, num_seg0 hb 0, _, rfl, ?_⟩
    refine it_cases (fun hm0 => ?_) (fun hq => fin_f fun hps => ?_)
    rotate_left
    · obtain ⟨g2, g0, ga⟩ := hP.mp hps
      rw [((suit_iff hb 0).mp g0).2.2] at hq; cases hq
    with_reducible refine evB_and1 ?_
    with_reducible refine evB_of ?_
    (with_reducible refine' ev_scall ok hat fn47 hsm.2.2.1 hh ?hr ?hu ?hx gA ?_ ?hm ?he ?hp ?hd); (case hr => lia); (case hu => lia); (case hx => exact kind_at hn rfl); (case hm => rfl); (case he => rfl); (case hp => rfl); (case hd => decide +kernel)
    (with_reducible refine' evS_cons (ev_int ?_) ?he); (case he => rfl)
    walk_at "mI"
    (with_reducible refine' evS_cons (ev_int ?_) ?he); (case he => rfl)
    walk_at "mI"
    refine evS_nil ⟨wsum (seg ns 1) % 3, num (seg ns 1), rfl, num_seg0 hb 1, _, rfl, ?_⟩
    refine it_any (P := fun b => k (.bool b)) (fun hma => fin_t (hP.mpr ⟨(suit_iff hb 2).mpr ⟨hz.1.1, hz.1.2, hm2⟩, (suit_iff hb 0).mpr ⟨hz.2.1, hz.2.2, hm0⟩, hma⟩)) (fun hq => fin_f fun hps => ?_)
    obtain ⟨g2, g0, ga⟩ := hP.mp hps
    rw [ga] at hq; cases hq
  have hn21 := beq_eq_false_iff_ne.mp hn2
  have hn2 : (seg ns 2).sum % 3 = 2 := by
    rcases pairs_suit hpr h2 with q | q | q
    · exact absurd q.1 hn20
    · exact absurd q.2.1 hn21
    · exact q.2.2
  have hP := suit_two hl hb h1 h4 h2 (s := 2) (a := 0) (b := 1) (by decide) (by decide) hn2
  have hor := or4 (a := (seg ns 0).sum % 3) (b := wsum (seg ns 0) % 3) (c := (seg ns 1).sum % 3) (d := wsum (seg ns 1) % 3)  (Int.emod_nonneg _ (by decide)) (Int.emod_nonneg _ (by decide)) (Int.emod_nonneg _ (by decide)) (Int.emod_nonneg _ (by decide))
  refine ex_cons (x1_ret (ev_bool ?_))
  with_reducible refine evB_and ?_
  with_reducible refine evB_notI ?_
  repeat walk_at "mI"
  refine it_cases (fun hq => ?_) (fun hq => fin_f fun hps => ?_)
  rotate_left
  · obtain ⟨g0, g1, ga⟩ := hP.mp hps
    have q0 := (suit_iff hb 0).mp g0
    have q1 := (suit_iff hb 1).mp g1
    rw [hor.mpr ⟨⟨q0.1, q0.2.1⟩, q1.1, q1.2.1⟩] at hq; cases hq
  have hz := hor.mp hq
  with_reducible refine evB_and ?_
  with_reducible refine evB_of ?_
  (with_reducible refine' ev_scall ok hme fn37 hsm.2.1 hh ?hr ?hu ?hx gA ?_ ?hm ?he ?hp ?hd); (case hr => lia); (case hu => lia); (case hx => exact kind_at hn rfl); (case hm => rfl); (case he => rfl); (case hp => rfl); (case hd => decide +kernel)
  (with_reducible refine' evS_cons (ev_int ?_) ?he); (case he => rfl)
  walk_at "mI"
  refine evS_nil ⟨num (seg ns 0), rfl, num_seg0 hb 0, _, rfl, ?_⟩
  refine it_cases (fun hm0 => ?_) (fun hq => fin_f fun hps => ?_)
  rotate_left
  · obtain ⟨g0, g1, ga⟩ := hP.mp hps
    rw [((suit_iff hb 0).mp g0).2.2] at hq; cases hq
  with_reducible refine evB_and ?_
  with_reducible refine evB_of ?_
  (with_reducible refine' ev_scall ok hme fn37 hsm.2.1 hh ?hr ?hu ?hx gA ?_ ?hm ?he ?hp ?hd); (case hr => lia); (case hu => lia); (case hx => exact kind_at hn rfl); (case hm => rfl); (case he => rfl); (case hp => rfl); (case hd => decide +kernel)
  (with_reducible refine' evS_cons (ev_int ?_) ?he); (case he => rfl)
  walk_at "mI"
  refine evS_nil ⟨num (seg ns 1), rfl, num_seg0 hb 1, _, rfl, ?_⟩
  refine it_cases (fun hm1 => ?_) (fun hq => fin_f fun hps => ?_)
  rotate_left
  · obtain ⟨g0, g1, ga⟩ := hP.mp hps
    rw [((suit_iff hb 1).mp g1).2.2] at hq; cases hq
  with_reducible refine evB_and1 ?_
  with_reducible refine evB_of ?_
  (with_reducible refine' ev_scall ok hat fn47 hsm.2.2.1 hh ?hr ?hu ?hx gA ?_ ?hm ?he ?hp ?hd); (case hr => lia); (case hu => lia); (case hx => exact kind_at hn rfl); (case hm => rfl); (case he => rfl); (case hp => rfl); (case hd => decide +kernel)
  (with_reducible refine' evS_cons (ev_int ?_) ?he); (case he => rfl)
  walk_at "mI"
  (with_reducible refine' evS_cons (ev_int ?_) ?he); (case he => rfl)
  walk_at "mI"
  refine evS_nil ⟨wsum (seg ns 2) % 3, num (seg ns 2), rfl, num_seg0 hb 2, _, rfl, ?_⟩
  refine it_any (P := fun b => k (.bool b)) (fun hma => fin_t (hP.mpr ⟨(suit_iff hb 0).mpr ⟨hz.1.1, hz.1.2, hm0⟩, (suit_iff hb 1).mpr ⟨hz.2.1, hz.2.2, hm1⟩, hma⟩)) (fun hq => fin_f fun hps => ?_)
  obtain ⟨g0, g1, ga⟩ := hP.mp hps
  rw [ga] at hq; cases hq

set_option maxRecDepth 100000
set_option maxHeartbeats 4000000

def Rwon : Spec := fun ds k => ∃ ns, ds = [.list (PI ns)] ∧ ns.length = 34 ∧ (∀ i, 0 ≤ ns.getD i 0 ∧ ns.getD i 0 ≤ 4) ∧ ns.sum = 14 ∧ k (.bool (AGb ns))
theorem won_meets {p : Program} {w : World} {h₀ : Heap} (hr : PySem.Challenge.rw_md0016_01 = PySem.Challenge.rw_md0016_01) (G : Gnd (topw.heap_39 w.params) h₀) : Meets p w h₀ 79 6 Rwon := by
  have hse := sets_meets (p := p) hr G 4
  revert hr G
  k_fill
  intro hr G
  refine meets_def ["tiles"] [] [] (G.X _ _ (by k_is)) rfl G.lim (codeRec_of G.X (by k_is)) rfl rfl rfl rfl rfl (fun _ => .nil) ?hb ?hk (by decide) (by decide) ?_ (by decide)
  case hb =>
    intro s vs hg hl
    obtain ⟨v, rfl⟩ := vs1 hl
    exact BindsTo.of_eq rfl
  case hk =>
    intro n x hx
    rcases List.mem_singleton.mp hx with rfl
    exact .inr ⟨rfl, rfl⟩
  rintro ds k ⟨ns, rfl, hl, hb, hs, hk⟩
  refine ⟨rfl, fun A env eo hh hdp hun => ?_⟩
  have hn : env.scope.names = _ := congrArg Scope.names eo.scope
  have ok : EnvOk env := ⟨by rw [eo.scope], eo.glob, eo.blt⟩
  have hce : env.cells = [(Str.ofString "tiles", env.locals + 1)] := eo.cells.trans rfl
  dsimp only at hn
  clear eo
  have hcl : env.cells.lookup (Str.ofString "tiles") = some (env.locals + 1) := by rw [hce]; rfl
  have fn74 : FnAt h₀ 74 := ⟨_, _, G.X _ _ (by k_is), rfl⟩
  show Ex p w h₀ A env [(Str.ofString "tiles", .val (.list (PI ns)))] _ _ _
  refine ex_cons (x1_mono (N' := fun l => ¬ CHI ns ∧ Has l [("tiles", .val (.list (PI ns)))]) (x1_if ?_) ?_)
  · (with_reducible refine tst_eq ?_ ?hm); (case hm => with_unfolding_all rfl)
    (with_reducible refine' evI_len ok ?hx ?hB ?_ ?he ?hd); (case hx => exact kind_at hn rfl); (case hB => exact G.bi (by k_is) (by kernel_rfl) (by decide +kernel)); (case he => rfl); (case hd => decide +kernel)
    (with_reducible refine' ev_new (evN_comp [] [] hh ?K ?hc ?_ ?hs))
    case hs => intro _; rfl
    case K => exact ⟨by decide, rfl, rfl, by decide, closureFor_closes (by simp only [closes]; rfl), (fun _ h => nomatch h), .nil⟩
    case hc => exact caught_nil
    refine it_list ?_
    (with_reducible refine' ev_name ok.kind ?hx ?_ ?hd); (case hx => exact rfl); (case hd => decide +kernel)
    refine ⟨_, rfl, by simp only [PI, List.length_map, hl]; decide, fun C => compw_env ok rfl fun e' ok' _ => ?_⟩
    refine compw_filter (fun d => match d with | .int i => i == 2 | _ => false) (fun d => d) _ _ (fun d hd => ?_) (fun d hd _ => ?_) ?_
    · obtain ⟨i, hi, rfl⟩ := List.mem_map.mp hd
      repeat walk_at "mI"
      rfl
    · obtain ⟨i, hi, rfl⟩ := List.mem_map.mp hd
      refine ev_int ?_
      repeat walk_at "mI"
      rfl
    have e : ([] ++ ((PI ns).filter (fun d => match d with | .int i => i == 2 | _ => false)).map fun d => d) = PI (twos ns) := by
      simp only [PI, twos, List.nil_append, List.map_id', List.filter_map]; rfl
    rw [e]
    have h34 : (twos ns).length ≤ 34 := by rw [← hl]; exact List.length_filter_le _ _
    have hpl : (PI (twos ns)).length = (twos ns).length := by simp [PI]
    refine ⟨_, rfl, by rw [hpl]; lia, ?_⟩
    rw [hpl]
    walk_at "mI"
    refine it_cases (fun hc => ?_) (fun hc => ?_)
    · refine ex_cons (x1_ret (ev_bool (evB_const ?_)))
      rw [agb_t (.inr (.inl ((chi_iff hl hb hs).mpr (by have := beq_iff_eq.mp hc; lia))))] at hk; exact hk
    · exact ex_nil ⟨fun q => beq_eq_false_iff_ne.mp hc (by have := (chi_iff hl hb hs).mp q; lia), rfl, trivial⟩
  rintro l ⟨hnc, hlo⟩
  refine ex_has hlo ?_
  refine ex_cons (x1_mono (N' := fun l => Has l [("tiles", .val (.list (PI ns))), ("ends", .own (PI (ends ns)))]) ?_ fun l hlo => ex_has hlo ?_)
  · (with_reducible refine' x1_asgComp [(Str.ofString "tiles", env.locals + 1)] [(Str.ofString "tiles", .val (.list (PI ns)))] ok hh ?K ?hc ?hy ?hsw ?_ ?hs)
    case hs => intro _; rfl
    case K =>
      refine ⟨by decide, rfl, rfl, by decide, closureFor_closes ?_, ?_, ?_⟩
      · simp only [closes, hcl]; rfl
      · intro q hq; rw [hce]; exact hq
      · exact List.pairwise_singleton _ _
    case hc => exact caught_cons ok.kind rfl (kind_at hn rfl) rfl rfl hcl caught_nil
    case hy => exact kind_at hn rfl
    case hsw => exact swaps_t ok (kind_at hn rfl) rfl (by decide +kernel)
    (with_reducible refine' it_range ok ?hg ?hb ?_ ?he ?hd); (case hg => exact kind_at (by assumption) rfl); (case hb => exact Gnd.bi (by assumption) (by k_is) (by kernel_rfl) (by decide +kernel)); (case he => rfl); (case hd => decide +kernel)
    repeat walk_at "mI"
    refine ⟨by decide, by decide, fun C => compw_env ok rfl fun e' ok' _ => ?_⟩
    refine compw_filter (fun d => match d with | .int i => decide (27 ≤ i) || decide (i % 9 = 0) || decide (i % 9 = 8) | _ => false) (fun d => match d with | .int i => .int (ns.getD i.toNat 0) | d => d) _ _ (fun d hd => ?_) (fun d hd _ => ?_) ⟨rfl, rfl, trivial⟩
    · obtain ⟨i, hi, rfl⟩ := List.mem_map.mp hd
      obtain ⟨j, hj, rfl⟩ := List.mem_map.mp hi
      have hj := List.mem_range.mp hj
      repeat walk_at "mI"
      have hmod : (j : Int).fmod 9 = (j : Int) % 9 := Int.fmod_eq_emod_of_nonneg _ (by decide)
      refine it_cases (fun hc => ?_) (fun hc => ?_)
      · simp only [decide_eq_true_eq, ge_iff_le] at hc
        simp [hc]
      · simp only [decide_eq_false_iff_not, ge_iff_le] at hc
        refine tst_or ?_
        (with_reducible refine tst_in ?_ ?hm); (case hm => with_unfolding_all rfl)
        repeat (first | walk_at "mI" | refine ⟨by decide, ?_⟩)
        refine evP_new (evN_disp ?_)
        (with_reducible refine' evS_cons (ev_int ?_) ?he); (case he => rfl)
        walk_at "mI"
        (with_reducible refine' evS_cons (ev_int ?_) ?he); (case he => rfl)
        walk_at "mI"
        refine evS_nil ⟨by decide, [0, 8], rfl, ?_⟩
        rw [hmod]
        refine it_cases (fun hc2 => ?_) (fun hc2 => ?_)
        · simp only [List.contains_cons, List.contains_nil, Bool.or_false, Bool.or_eq_true, beq_iff_eq] at hc2
          simp only [Bool.or_assoc]
          rcases hc2 with h | h <;> simp [h]
        · simp only [List.contains_cons, List.contains_nil, Bool.or_false, Bool.or_eq_false_iff, beq_eq_false_iff_ne, ne_eq] at hc2
          walk_at "mI"
          simp [hc, hc2]
    · obtain ⟨i, hi, rfl⟩ := List.mem_map.mp hd
      obtain ⟨j, hj, rfl⟩ := List.mem_map.mp hi
      have hj := List.mem_range.mp hj
      refine ev_int ?_
      repeat walk_at "mI"
      refine ⟨⟨by lia, by rw [hl]; exact Int.ofNat_lt.mpr hj, by rw [hl]; decide⟩, ?_⟩
      rfl
  refine ex_cons (x1_mono (N' := fun l => ¬ KOK ns ∧ Has l [("tiles", .val (.list (PI ns)))]) (x1_if ?_) ?_)
  · refine tst_and ?_
    (with_reducible refine tst_ge ?_ ?hm); (case hm => with_unfolding_all rfl)
    (with_reducible refine' evI_min ok hh ?hx ?hB ?_ ?he ?hd); (case hx => exact kind_at hn rfl); (case hB => exact G.bi (by k_is) (by kernel_rfl) (by decide +kernel)); (case he => rfl); (case hd => decide +kernel)
    walk_at "mI"
    refine ⟨by simp [ends], fun M hM hmin => ?_⟩
    walk_at "mI"
    refine it_cases (fun hc => ?_) (fun hc => ?_)
    · simp only [decide_eq_true_eq, ge_iff_le] at hc
      refine tst_and ?_
      (with_reducible refine tst_eq ?_ ?hm); (case hm => with_unfolding_all rfl)
      (with_reducible refine' evI_sum ok hh ?hx ?hB ?_ ?he ?hd); (case hx => exact kind_at hn rfl); (case hB => exact G.bi (by k_is) (by kernel_rfl) (by decide +kernel)); (case he => rfl); (case hd => decide +kernel)
      repeat walk_at "mI"
      refine it_cases (fun hq => ?_) (fun hq => ?_)
      · walk_at "mI"
        refine it_t rfl (ex_cons (x1_ret (ev_bool (evB_const ?_))))
        rw [agb_t (.inl ((kok_iff hb).mpr ⟨fun a ha => Int.le_trans hc (hmin a ha), beq_iff_eq.mp hq⟩))] at hk; exact hk
      · exact it_f rfl (ex_nil ⟨fun q => beq_eq_false_iff_ne.mp hq ((kok_iff hb).mp q).2, rfl, trivial⟩)
    · simp only [decide_eq_false_iff_not, ge_iff_le] at hc
      exact it_f rfl (ex_nil ⟨fun q => hc (((kok_iff hb).mp q).1 M hM), rfl, trivial⟩)
  rintro l ⟨hnk, hlo⟩
  refine ex_has hlo ?_
  refine ex_cons (x1_mono (N' := fun l => ¬ PS ns) ?_ ?_)
  · walk_at "mRange"
    walk_at "mI"
    refine ⟨by decide, ?_⟩
    refine forw_range 34 (fun i l => Has l [("tiles", .val (.list (PI ns)))] ∧ ∀ z, z < i → ¬ (2 ≤ ns.getD z 0 ∧ GG 0 0 0 (ns.set z (ns.getD z 0 - 2)) = true)) ?_ ?_ _ ⟨⟨rfl, trivial⟩, fun z hz => absurd hz (Nat.not_lt_zero _)⟩
    · rintro l ⟨_, hno⟩ ⟨z, hz, h2, hg⟩
      exact hno z hz ⟨h2, hg⟩
    · rintro i l hi ⟨⟨g1, _⟩, hno⟩
      refine ex_has (m' := [("tiles", .val (.list (PI ns))), ("kind", .val (.int i))]) ⟨by rw [gt_st, if_neg (by decide)]; exact g1, by rw [gt_st, if_pos rfl], trivial⟩ ?_
      have nxt : ¬ (2 ≤ ns.getD i 0 ∧ GG 0 0 0 (ns.set i (ns.getD i 0 - 2)) = true) → ∀ z, z < i + 1 → ¬ (2 ≤ ns.getD z 0 ∧ GG 0 0 0 (ns.set z (ns.getD z 0 - 2)) = true) := fun h z hz => by
        by_cases e : z = i
        · rw [e]; exact h
        · exact hno z (by lia)
      refine ex_cons (x1_if ?_)
      repeat (first | walk_at "mI" | refine ⟨⟨by lia, by rw [hl]; exact Int.ofNat_lt.mpr hi, by rw [hl]; decide⟩, ?_⟩)
      rw [Int.toNat_natCast]
      refine it_cases (fun hc => ?_) (fun hc => ?_)
      rotate_left
      · simp only [decide_eq_false_iff_not, ge_iff_le] at hc
        exact ex_nil (ex_nil ⟨⟨rfl, trivial⟩, nxt fun q => hc q.1⟩)
      simp only [decide_eq_true_eq, ge_iff_le] at hc
      refine ex_cons ?_
      (with_reducible refine' x1_asgN ok.kind ?hx (evN_all ?_) ?hs); (case hx => exact stored_at hn rfl); (case hs => rfl)
      walk_at "mI"
      refine ⟨by rw [hl]; decide, ?_⟩
      refine ex_cons ?_
      (with_reducible refine' x1_item_sub ok.kind ?hg ?hf ?_ ?hi ?hd); (case hg => exact rfl); (case hf => rw [hl]; decide); (case hi => intros; rfl); (case hd => decide +kernel)
      walk_at "mI"
      refine ⟨by lia, ?_⟩
      walk_at "mI"
      rw [Int.toNat_natCast]
      refine ex_cons (x1_if (tst_B (evB_of ?_)))
      (with_reducible refine' ev_call ok hse fn74 hh ?hr ?hu ?hx ?hg ?_ ?he ?hp ?hd); (case hr => lia); (case hu => lia); (case hx => exact kind_at hn rfl); (case hg => exact G.gl (by k_is)); (case he => rfl); (case hp => rfl); (case hd => decide +kernel)
      (with_reducible refine' evS_cons ?_ ?he); (case he => rfl)
      (with_reducible refine' ev_nameAny ok.kind ?hx ?_ ?hd); (case hx => exact rfl); (case hd => decide +kernel)
      refine evS_nil ⟨ns.set i (ns.getD i 0 - 2), rfl, by simpa using hl, fun z => ?_, ?_, ⟨_, rfl, ?_⟩⟩
      · rw [getD_set]; split
        · lia
        · exact (hb z).1
      · rw [sum_set ns i _ (by lia)]; lia
      refine it_cases (fun hg => ?_) (fun hg => ?_)
      · refine ex_cons (x1_ret (ev_bool (evB_const ?_)))
        rw [agb_t (.inr (.inr ⟨i, hi, hc, hg⟩))] at hk; exact hk
      · refine ex_nil (ex_nil (ex_nil ⟨⟨rfl, trivial⟩, nxt fun q => ?_⟩))
        rw [q.2] at hg; cases hg
  intro l hnp
  refine ex_cons (x1_ret (ev_bool (evB_const ?_)))
  rw [agb_f (fun q => by rcases q with q | q | q; exact hnk q; exact hnc q; exact hnp q)] at hk; exact hk

def Rlaw : Spec := fun ds k => ∃ ns : List Int, ds = [.list (PI ns)] ∧ ns.length ≤ 63 ∧ k (.bool true)
theorem gnd_of {K : Frag} {p : Program} {loose : List Str} {mean : ExcName → Option Value} {mg mb : Str → Option Value} {h : Heap} (X : K.In h) (T : Top p loose mean mg mb h) : Gnd K h :=
  ⟨X, ⟨mg, mb, T.g, T.b, T.builtins⟩, T.nolimit⟩
theorem rd_of_well {P : Params} {h : Heap} {v : Value} {ns : List Int} (W : Well P h v (ofPy (.list (ns.map .int)))) : Rd h v (.list (PI ns)) ([match v with | .ref a => a | _ => 0]) := by
  have gen : ∀ (ns : List Int) (vs : List Value), WellAll P h vs (ofPys (ns.map PyData.int)) → RdAll h vs (PI ns) [] := by
    intro ns
    induction ns with
    | nil => intro vs W; cases W; exact .nil
    | cons n ns ih =>
      intro vs W
      cases W with
      | cons W1 W2 =>
        cases W1
        exact RdAll.cons (as := []) (.int _ _) (ih _ W2)
  cases W with
  | list ho W => exact .list ⟨_, ho⟩ (gen ns _ W)
set_option maxRecDepth 100000 in
set_option maxHeartbeats 8000000 in
theorem join (LM : ∀ {p : Program} {w : World} {h₀ : Heap}, (PySem.Challenge.rw_md0016_01 = PySem.Challenge.rw_md0016_01) → Gnd (topw.heap_39 w.params) h₀ → Meets p w h₀ 86 50 Rlaw) : PySem.Challenge.rw_md0016_01.Holds := topw (by
  k_fill
  intro w s₀ s₁ mg mb G Y fa o pm cd doc dV kV ho hd hcd hD hmg hg args vals as hpre hlay hrd hwl hlo
  have KX := kIn_of Y
  refine Ground.open G ?_
  intro T B D TE TW
  have G1 := gnd_of KX T
  have hfa : fa = 86 := by
    have h1 : mg "law" = some (.ref 86) := mg_of KX T.g (by k_is)
    have h2 := hmg.symm.trans h1
    cases h2; rfl
  subst hfa
  have LM1 := LM (p := PySem.Challenge.rw_md0016_01.row.prog) rfl G1
  clear hmg hd ho hcd hD LM
  wrow_args hpre hlay hrd hwl hlo
  rename_i script _ _ _ _ _ _ _ _ _ _ _ _ W1 _ _ _ hlen _
  refine LM1 callerA s₁ _ _ _ (fun d => d = .bool true) _ _ rfl (by decide) (by decide) (fun _ _ e => e) (.cons (rd_of_well W1) .nil) ⟨script, rfl, by lia, rfl⟩ ?_
  intro v d as s' x r _ hd
  subst hd
  cases r
  refine GoodW.toG ⟨.inl ⟨_, _, _, rfl, ?_, .bool true, ?_, ?_⟩, x.keep, ?_, ?_⟩
  · intro cls; rfl
  · wrow_post
  · exact fun _ => ⟨List.nodup_nil, fun _ h => nomatch h⟩
  · obtain ⟨h, tk, e⟩ := x.same
    rw [e]
  · obtain ⟨h, tk, e⟩ := x.same
    rw [e]; exact hg)

set_option maxRecDepth 100000
set_option maxHeartbeats 4000000

theorem fm34 (a : Int) : 0 ≤ a.fmod 34 ∧ a.fmod 34 < 34 := ⟨Int.fmod_nonneg_of_pos _ (by decide), Int.fmod_lt_of_pos _ (by decide)⟩
theorem set_nonneg {ts : List Int} (h : ∀ i, 0 ≤ ts.getD i 0) (j : Nat) {v : Int} (hv : 0 ≤ v) : ∀ i, 0 ≤ (ts.set j v).getD i 0 := fun i => by
  rw [getD_set]; split
  · exact hv
  · exact h i
def TI (nums : List Int) (l : Locs) : Prop := ∃ ts : List Int, ts.length = 34 ∧ (∀ i, 0 ≤ ts.getD i 0) ∧ Has l [("numbers", .own (PI nums)), ("tiles", .own (PI ts))]
theorem TI.keep {nums : List Int} {l : Locs} (h : TI nums l) (x : Str) (v : Loc) (h1 : ("numbers" : Str) ≠ x) (h2 : ("tiles" : Str) ≠ x) : TI nums (st l x v) := by
  obtain ⟨ts, a, b, g1, g2, _⟩ := h
  exact ⟨ts, a, b, by rw [gt_st, if_neg h1]; exact g1, by rw [gt_st, if_neg h2]; exact g2, trivial⟩
theorem first_bd (a : Int) : 0 ≤ ((a.fmod 21).fdiv 7) * 9 + a.fmod 7 ∧ ((a.fmod 21).fdiv 7) * 9 + a.fmod 7 ≤ 24 := by
  rw [Int.fmod_eq_emod_of_nonneg _ (by decide), Int.fmod_eq_emod_of_nonneg _ (by decide), Int.fdiv_eq_ediv_of_nonneg _ (by decide)]
  lia
def dflt1 : List Int := [5, 12, 0, 99, 30, 7]

theorem law_meets {p : Program} {w : World} {h₀ : Heap} (hr : PySem.Challenge.rw_md0016_01 = PySem.Challenge.rw_md0016_01) (G : Gnd (topw.heap_39 w.params) h₀) : Meets p w h₀ 86 50 Rlaw := by
  have hwn := won_meets (p := p) hr G
  have hag := agari_meets (p := p) hr G
  have hsm := (sm_all (p := p) hr G).1
  revert hr G
  k_fill
  intro hr G
  refine meets_def ["script"] [] [] (G.X _ _ (by k_is)) rfl G.lim (codeRec_of G.X (by k_is)) rfl rfl rfl rfl rfl (fun _ => .nil) ?hb ?hk (by decide) (by decide) ?_ (by decide)
  case hb =>
    intro s vs hg hl
    obtain ⟨v, rfl⟩ := vs1 hl
    exact BindsTo.of_eq rfl
  case hk =>
    intro n x hx
    rcases List.mem_singleton.mp hx with rfl
    exact .inl rfl
  rintro ds k ⟨sc, rfl, hl, hk⟩
  refine ⟨rfl, fun A env eo hh hdp hun => ?_⟩
  have hn : env.scope.names = _ := congrArg Scope.names eo.scope
  have ok : EnvOk env := ⟨by rw [eo.scope], eo.glob, eo.blt⟩
  dsimp only at hn
  clear eo
  have fn79 : FnAt h₀ 79 := ⟨_, _, G.X _ _ (by k_is), rfl⟩
  have fn27 : FnAt h₀ 27 := ⟨_, _, G.X _ _ (by k_is), rfl⟩
  have gA : Gl h₀ "Agari" (.ref 63) := G.gl (by k_is)
  show Ex p w h₀ A env [(Str.ofString "script", .val (.list (PI sc)))] _ _ _
  have hnl : (sc ++ dflt1.drop sc.length).length ≤ 69 ∧ 6 ≤ (sc ++ dflt1.drop sc.length).length := by simp [dflt1]; lia
  refine ex_cons ?_
  (with_reducible refine' x1_asgN ok.kind ?hx (evN_add ?_) ?hs); (case hx => exact stored_at hn rfl); (case hs => rfl)
  walk_at "mI"
  refine evP_new (evN_from (evP_new (evN_disp ?_)))
  repeat (first | ((with_reducible refine' evS_cons (ev_int (evI_const ?_)) ?he); (case he => rfl)))
  refine evS_nil ⟨by decide, dflt1, rfl, ?_⟩
  (with_reducible refine' evI_len ok ?hx ?hB ?_ ?he ?hd); (case hx => exact kind_at hn rfl); (case hB => exact G.bi (by k_is) (by kernel_rfl) (by decide +kernel)); (case he => rfl); (case hd => decide +kernel)
  (with_reducible refine' ev_nameAny ok.kind ?hx ?_ ?hd); (case hx => exact rfl); (case hd => decide +kernel)
  have hpl : (PI sc).length = sc.length := by simp [PI]
  refine ⟨_, rfl, by rw [hpl]; lia, ?_⟩
  rw [hpl]
  refine ⟨⟨by lia, by decide⟩, _, rfl, ?_⟩
  rw [Int.toNat_natCast]
  rw [List.length_append] at hnl
  refine ⟨Nat.le_trans hnl.1 (by decide), ?_⟩
  rw [← List.length_append] at hnl
  generalize sc ++ dflt1.drop sc.length = nums at hnl
  refine ex_cons ?_
  (with_reducible refine' x1_asgN ok.kind ?hx (evN_mul ?_) ?hs); (case hx => exact stored_at hn rfl); (case hs => rfl)
  refine evP_new (evN_disp ?_)
  (with_reducible refine' evS_cons (ev_int (evI_const ?_)) ?he); (case he => rfl)
  refine evS_nil ⟨by decide, [0], rfl, ?_⟩
  walk_at "mI"
  refine ⟨⟨by decide, by decide, by decide, by decide⟩, ?_⟩
  rw [show (List.replicate (34 : Int).toNat [(0 : Int)]).flatten = List.replicate 34 0 from rfl]
  refine ex_cons ?_
  walk_at "mAsgI"
  have hi63 : (nums.length : Int) < 2 ^ 63 := by lia
  have hiC : ∀ n, n < 6 → n < nums.length ∧ (nums.length : Int) < 2 ^ 63 := fun n h => ⟨by lia, hi63⟩
  repeat (first | walk_at "mI" | refine ⟨hiC _ (by decide), ?_⟩ | refine ⟨by decide, ?_⟩)
  have t34 : ∀ {ts : List Int}, ts.length = 34 → (ts.length : Int) < 2 ^ 63 := fun h => by rw [h]; decide
  refine ex_cons (x1_mono (N' := TI nums) (x1_if ?_) ?_)
  · have h0 : TI nums (st (st (st [(Str.ofString "script", .val (.list (PI sc)))] "numbers" (.own (PI nums))) "tiles" (.own (PI (List.replicate 34 0)))) "way" (.val (.int ((nums.getD 0 0).fmod 6)))) := by
      refine ⟨List.replicate 34 0, by simp, fun i => ?_, rfl, rfl, trivial⟩
      rw [List.getD_eq_getElem?_getD, List.getElem?_replicate]; split <;> simp
    repeat walk_at "mI"
    refine it_cases (fun hc => ?_) (fun hc => ?_)
    · refine ex_cons ?_
      (with_reducible refine' x1_for hh ok.kind ?hx (it_new (evN_disp ?_)) ?hs); (case hx => exact stored_at hn rfl); (case hs => intro _; rfl)
      repeat (first | ((with_reducible refine' evS_cons (ev_int (evI_const ?_)) ?he); (case he => rfl)))
      (with_reducible refine' evS_cons (ev_int ?_) ?he); (case he => rfl)
      repeat (first | walk_at "mI" | refine ⟨hiC _ (by decide), ?_⟩ | refine ⟨by decide, ?_⟩)
      refine evS_nil ⟨Nat.le_of_ble_eq_true rfl, ?_⟩
      have fm := fm34 (nums.getD 1 0)
      generalize (nums.getD 1 0).fmod 34 = z at fm
      refine forw_inv (fun ds l => (∀ d ∈ ds, ∃ i : Int, d = .int i ∧ 0 ≤ i ∧ i < 34) ∧ TI nums l) (fun l h => ex_nil h.2) ?_ _ _ ⟨?_, h0⟩
      · rintro d ds l ⟨hd, ts, h34, hpos, hlo⟩
        obtain ⟨i, rfl, hi0, hi1⟩ := hd d (.head _)
        obtain ⟨g1, g2, _⟩ := hlo
        refine ex_has (m' := [("numbers", .own (PI nums)), ("tiles", .own (PI ts)), ("kind", .val (.int i))]) ⟨by rw [gt_st, if_neg (by decide)]; exact g1, by rw [gt_st, if_neg (by decide)]; exact g2, by rw [gt_st, if_pos rfl], trivial⟩ ?_
        refine ex_cons ?_
        (with_reducible refine' x1_item_add ok.kind ?hg ?hf ?_ ?hi ?hd); (case hg => exact rfl); (case hf => exact t34 h34); (case hi => intros; rfl); (case hd => decide +kernel)
        walk_at "mI"
        refine ⟨by lia, ?_⟩
        walk_at "mI"
        exact ex_nil ⟨fun d hm => hd d (.tail _ hm), _, by simpa using h34, set_nonneg hpos _ (by have := hpos i.toNat; lia), rfl, rfl, trivial⟩
      · simp only [List.forall_mem_cons]
        refine ⟨⟨_, rfl, by lia, by lia⟩, ⟨_, rfl, by lia, by lia⟩, ⟨_, rfl, by lia, by lia⟩, ⟨_, rfl, by lia, by lia⟩, ⟨_, rfl, by lia, by lia⟩, ⟨_, rfl, by lia, by lia⟩, ⟨_, rfl, by lia, by lia⟩, ⟨_, rfl, by lia, by lia⟩, ⟨_, rfl, by lia, by lia⟩, ⟨_, rfl, by lia, by lia⟩, ⟨_, rfl, by lia, by lia⟩, ⟨_, rfl, by lia, by lia⟩, ⟨_, rfl, by lia, by lia⟩, ⟨_, rfl, by lia, by lia⟩, fun _ h => nomatch h⟩
    refine ex_cons (x1_if ?_)
    repeat walk_at "mI"
    refine it_cases (fun hc1 => ?_) (fun hc1 => ?_)
    · refine ex_cons ?_
      walk_at "mRange"
      walk_at "mI"
      refine ⟨by decide, ?_⟩
      refine forw_range 7 (fun _ l => TI nums l) (fun l h => ex_nil (ex_nil h)) ?_ _ h0
      rintro i l hi ⟨ts, h34, hpos, g1, g2, _⟩
      refine ex_has (m' := [("numbers", .own (PI nums)), ("tiles", .own (PI ts)), ("step", .val (.int i))]) ⟨by rw [gt_st, if_neg (by decide)]; exact g1, by rw [gt_st, if_neg (by decide)]; exact g2, by rw [gt_st, if_pos rfl], trivial⟩ ?_
      refine ex_cons ?_
      (with_reducible refine' x1_item_add ok.kind ?hg ?hf ?_ ?hi ?hd); (case hg => exact rfl); (case hf => exact t34 h34); (case hi => intros; rfl); (case hd => decide +kernel)
      repeat (first | walk_at "mI" | refine ⟨hiC _ (by decide), ?_⟩ | refine ⟨IntMulOk.of_left (by decide), ?_⟩ | refine ⟨by decide, ?_⟩)
      have fm := fm34 (nums.getD 1 0 + 5 * (i : Int))
      generalize (nums.getD 1 0 + 5 * (i : Int)).fmod 34 = z at fm
      refine ⟨by lia, ?_⟩
      walk_at "mI"
      exact ex_nil ⟨_, by simpa using h34, set_nonneg hpos _ (by have := hpos z.toNat; lia), rfl, rfl, trivial⟩
    refine ex_cons (x1_mono (N' := TI nums) ?_ ?_)
    · (with_reducible refine' x1_for hh ok.kind ?hx (it_new (evN_run ?_)) ?hs); (case hx => exact stored_at hn rfl); (case hs => intro _; rfl)
      repeat walk_at "mI"
      refine ⟨⟨by decide, by decide, Nat.le_trans hnl.1 (by decide)⟩, ?_⟩
      generalize (nums.drop (1 : Int).toNat).take ((5 : Int).toNat - (1 : Int).toNat) = four
      refine forw_inv (fun ds l => (∀ d ∈ ds, ∃ i : Int, d = .int i) ∧ TI nums l) (fun l h => h.2) ?_ _ _ ⟨fun d hd => by obtain ⟨i, _, rfl⟩ := List.mem_map.mp hd; exact ⟨i, rfl⟩, h0⟩
      rintro d ds l ⟨hd, ts, h34, hpos, g1, g2, _⟩
      obtain ⟨i, rfl⟩ := hd d (.head _)
      have hd' : ∀ d ∈ ds, ∃ i : Int, d = .int i := fun d hm => hd d (.tail _ hm)
      refine ex_has (m' := [("numbers", .own (PI nums)), ("tiles", .own (PI ts)), ("number", .val (.int i))]) ⟨by rw [gt_st, if_neg (by decide)]; exact g1, by rw [gt_st, if_neg (by decide)]; exact g2, by rw [gt_st, if_pos rfl], trivial⟩ ?_
      refine ex_cons (x1_if ?_)
      repeat (first | walk_at "mI" | refine ⟨by decide, ?_⟩)
      refine it_cases (fun hc2 => ?_) (fun hc2 => ?_)
      · refine ex_cons ?_
        (with_reducible refine' x1_item_add ok.kind ?hg ?hf ?_ ?hi ?hd); (case hg => exact rfl); (case hf => exact t34 h34); (case hi => intros; rfl); (case hd => decide +kernel)
        repeat (first | walk_at "mI" | refine ⟨⟨by decide, by decide⟩, ?_⟩ | refine ⟨by decide, ?_⟩)
        have fm := fm34 (i.fdiv 2)
        generalize (i.fdiv 2).fmod 34 = z at fm
        refine ⟨by lia, ?_⟩
        walk_at "mI"
        exact ex_nil (ex_nil ⟨hd', _, by simpa using h34, set_nonneg hpos _ (by have := hpos z.toNat; lia), rfl, rfl, trivial⟩)
      · refine ex_cons ?_
        walk_at "mAsgI"
        repeat (first | walk_at "mI" | refine ⟨⟨by decide, by decide⟩, ?_⟩ | refine ⟨by decide, ?_⟩ | refine ⟨IntMulOk.of_right (by decide), ?_⟩)
        have hz := first_bd (i.fdiv 2)
        generalize (((i.fdiv 2).fmod 21).fdiv 7) * 9 + (i.fdiv 2).fmod 7 = z at hz
        refine ex_cons ?_
        walk_at "mRange"
        walk_at "mI"
        refine ⟨by decide, ?_⟩
        refine forw_range 3 (fun _ l => ∃ ts : List Int, ts.length = 34 ∧ (∀ i, 0 ≤ ts.getD i 0) ∧ Has l [("numbers", .own (PI nums)), ("tiles", .own (PI ts)), ("first", .val (.int z))]) ?_ ?_ _ ⟨ts, h34, hpos, rfl, rfl, rfl, trivial⟩
        · rintro l ⟨ts, h34, hpos, g1, g2, _⟩
          exact ex_nil (ex_nil ⟨hd', ts, h34, hpos, g1, g2, trivial⟩)
        · rintro j l hj ⟨ts, h34, hpos, g1, g2, g3, _⟩
          refine ex_has (m' := [("numbers", .own (PI nums)), ("tiles", .own (PI ts)), ("first", .val (.int z)), ("step", .val (.int j))]) ⟨by rw [gt_st, if_neg (by decide)]; exact g1, by rw [gt_st, if_neg (by decide)]; exact g2, by rw [gt_st, if_neg (by decide)]; exact g3, by rw [gt_st, if_pos rfl], trivial⟩ ?_
          refine ex_cons ?_
          (with_reducible refine' x1_item_add ok.kind ?hg ?hf ?_ ?hi ?hd); (case hg => exact rfl); (case hf => exact t34 h34); (case hi => intros; rfl); (case hd => decide +kernel)
          repeat walk_at "mI"
          refine ⟨by lia, ?_⟩
          walk_at "mI"
          exact ex_nil ⟨_, by simpa using h34, set_nonneg hpos _ (by have := hpos (z + (j : Int)).toNat; lia), rfl, rfl, rfl, trivial⟩
    · rintro l ⟨ts, h34, hpos, hlo⟩
      refine ex_has hlo ?_
      refine ex_cons ?_
      (with_reducible refine' x1_item_add ok.kind ?hg ?hf ?_ ?hi ?hd); (case hg => exact rfl); (case hf => exact t34 h34); (case hi => intros; rfl); (case hd => decide +kernel)
      repeat (first | walk_at "mI" | refine ⟨hiC _ (by decide), ?_⟩ | refine ⟨by decide, ?_⟩)
      have fm := fm34 (nums.getD 5 0)
      generalize (nums.getD 5 0).fmod 34 = z at fm
      refine ⟨by lia, ?_⟩
      walk_at "mI"
      exact ex_nil (ex_nil ⟨_, by simpa using h34, set_nonneg hpos _ (by have := hpos z.toNat; lia), rfl, rfl, trivial⟩)
  rintro l ⟨ts, h34, hpos, hlo⟩
  refine ex_has hlo ?_
  refine ex_cons (x1_mono (N' := TI nums) ?_ ?_)
  · (with_reducible refine' x1_for hh ok.kind ?hx (it_new (evN_run ?_)) ?hs); (case hx => exact stored_at hn rfl); (case hs => intro _; rfl)
    repeat walk_at "mI"
    refine ⟨⟨by decide, by decide, Nat.le_trans hnl.1 (by decide)⟩, ?_⟩
    generalize (nums.drop (6 : Int).toNat).take ((9 : Int).toNat - (6 : Int).toNat) = three
    refine forw_inv (fun ds l => (∀ d ∈ ds, ∃ i : Int, d = .int i) ∧ TI nums l) (fun l h => h.2) ?_ _ _ ⟨fun d hd => by obtain ⟨i, _, rfl⟩ := List.mem_map.mp hd; exact ⟨i, rfl⟩, ts, h34, hpos, rfl, rfl, trivial⟩
    clear hpos h34 ts hlo
    rintro d ds l ⟨hd, ts, h34, hpos, g1, g2, _⟩
    obtain ⟨i, rfl⟩ := hd d (.head _)
    have hd' : ∀ d ∈ ds, ∃ i : Int, d = .int i := fun d hm => hd d (.tail _ hm)
    refine ex_has (m' := [("numbers", .own (PI nums)), ("tiles", .own (PI ts)), ("number", .val (.int i))]) ⟨by rw [gt_st, if_neg (by decide)]; exact g1, by rw [gt_st, if_neg (by decide)]; exact g2, by rw [gt_st, if_pos rfl], trivial⟩ ?_
    have fm := fm34 i
    have fm2 := fm34 (i.fdiv 34)
    refine ex_cons (x1_if ?_)
    repeat (first | walk_at "mI" | refine ⟨by decide, ?_⟩)
    refine ⟨⟨by lia, by lia, t34 h34⟩, ?_⟩
    walk_at "mI"
    refine it_cases (fun hc2 => ?_) (fun hc2 => ?_)
    rotate_left
    · exact ex_nil (ex_nil ⟨hd', ts, h34, hpos, rfl, rfl, trivial⟩)
    simp only [decide_eq_true_eq, gt_iff_lt] at hc2
    refine ex_cons ?_
    (with_reducible refine' x1_item_sub ok.kind ?hg ?hf ?_ ?hi ?hd); (case hg => exact rfl); (case hf => exact t34 h34); (case hi => intros; rfl); (case hd => decide +kernel)
    repeat (first | walk_at "mI" | refine ⟨by decide, ?_⟩)
    refine ⟨by lia, ?_⟩
    walk_at "mI"
    have h34' : (ts.set (i.fmod 34).toNat (ts.getD (i.fmod 34).toNat 0 - 1)).length = 34 := by simpa using h34
    have hpos' := set_nonneg hpos (i.fmod 34).toNat (v := ts.getD (i.fmod 34).toNat 0 - 1) (by lia)
    generalize ts.set (i.fmod 34).toNat (ts.getD (i.fmod 34).toNat 0 - 1) = ts' at h34' hpos'
    refine ex_cons ?_
    (with_reducible refine' x1_item_add ok.kind ?hg ?hf ?_ ?hi ?hd); (case hg => exact rfl); (case hf => exact t34 h34'); (case hi => intros; rfl); (case hd => decide +kernel)
    repeat (first | walk_at "mI" | refine ⟨⟨by decide, by decide⟩, ?_⟩ | refine ⟨by decide, ?_⟩)
    refine ⟨by lia, ?_⟩
    walk_at "mI"
    exact ex_nil (ex_nil ⟨hd', _, by simpa using h34', set_nonneg hpos' _ (by have := hpos' ((i.fdiv 34).fmod 34).toNat; lia), rfl, rfl, trivial⟩)
  clear hpos h34 ts hlo
  rintro l ⟨ts, h34, hpos, hlo⟩
  refine ex_has hlo ?_
  refine ex_cons (x1_mono (N' := fun l => ts.sum = 14 ∧ (∀ i, ts.getD i 0 ≤ 4) ∧ Has l [("tiles", .own (PI ts))]) (x1_if ?_) ?_)
  · refine tst_or ?_
    (with_reducible refine tst_gt ?_ ?hm); (case hm => with_unfolding_all rfl)
    (with_reducible refine' evI_max ok hh ?hx ?hB ?_ ?he ?hd); (case hx => exact kind_at hn rfl); (case hB => exact G.bi (by k_is) (by kernel_rfl) (by decide +kernel)); (case he => rfl); (case hd => decide +kernel)
    walk_at "mI"
    refine ⟨fun e => by (rw [e] at h34; cases h34), fun M hM hmax => ?_⟩
    walk_at "mI"
    refine it_cases (fun hc => ?_) (fun hc => ?_)
    · exact ex_cons (x1_ret (ev_bool (evB_const hk)))
    simp only [decide_eq_false_iff_not, gt_iff_lt, Int.not_lt] at hc
    refine tst_or ?_
    (with_reducible refine tst_ne ?_ ?hm); (case hm => with_unfolding_all rfl)
    (with_reducible refine' evI_sum ok hh ?hx ?hB ?_ ?he ?hd); (case hx => exact kind_at hn rfl); (case hB => exact G.bi (by k_is) (by kernel_rfl) (by decide +kernel)); (case he => rfl); (case hd => decide +kernel)
    repeat walk_at "mI"
    refine it_cases (fun hq => ?_) (fun hq => ?_)
    · exact ex_cons (x1_ret (ev_bool (evB_const hk)))
    · walk_at "mI"
      refine it_f rfl (ex_nil ⟨bne_ff hq, fun i => ?_, rfl, trivial⟩)
      rcases getD_mem' ts i with e | hm
      · lia
      · exact Int.le_trans (hmax _ hm) hc
  rintro l ⟨hsum, h4, hlo⟩
  refine ex_has hlo ?_
  have hb : ∀ i, 0 ≤ ts.getD i 0 ∧ ts.getD i 0 ≤ 4 := fun i => ⟨hpos i, h4 i⟩
  refine ex_cons (x1_ret (ev_bool ?_))
  (with_reducible refine evB_eqBB ?_ ?hm); (case hm => with_unfolding_all rfl)
  refine evB_of ?_
  (with_reducible refine' ev_scall ok hag fn27 hsm hh ?hr ?hu ?hx gA ?_ ?hm ?he ?hp ?hd); (case hr => lia); (case hu => lia); (case hx => exact kind_at hn rfl); (case hm => rfl); (case he => rfl); (case hp => rfl); (case hd => decide +kernel)
  (with_reducible refine' evS_cons ?_ ?he); (case he => rfl)
  (with_reducible refine' ev_nameAny ok.kind ?hx ?_ ?hd); (case hx => exact rfl); (case hd => decide +kernel)
  refine evS_nil ⟨ts, rfl, h34, hb, _, rfl, ?_⟩
  refine evB_of ?_
  (with_reducible refine' ev_call ok hwn fn79 hh ?hr ?hu ?hx ?hg ?_ ?he ?hp ?hd); (case hr => lia); (case hu => lia); (case hx => exact kind_at hn rfl); (case hg => exact G.gl (by k_is)); (case he => rfl); (case hp => rfl); (case hd => decide +kernel)
  (with_reducible refine' evS_cons ?_ ?he); (case he => rfl)
  (with_reducible refine' ev_nameAny ok.kind ?hx ?_ ?hd); (case hx => exact rfl); (case hd => decide +kernel)
  refine evS_nil ⟨ts, rfl, h34, hb, hsum, _, rfl, ?_⟩
  rw [beq_self_eq_true]; exact hk

end Mine
set_option maxRecDepth 100000 in
set_option maxHeartbeats 8000000 in
theorem PySem.Challenge.cw_md0016_01_holds : PySem.Challenge.rw_md0016_01.Holds :=
  Mine.join fun hr G => Mine.law_meets hr G
