import PyProof.Rows.All
import Wide.All
import OpenK.AllK
import Wide.FinOn
import PySem.Challenge.RW_hl0001_01
set_option Elab.async false
set_option linter.unusedVariables false
set_option linter.unusedSectionVars false
set_option linter.unusedSimpArgs false
namespace Mine

section 
open PySem PySem.W PyProof.Rows

/-- an item of a key tuple -/
abbrev Key := List (Int ⊕ Str)

def mixIs : Int ⊕ Str → Value → Bool
  | .inl i, v => Value.isInt i v
  | .inr x, v => Value.isStrOf x v

theorem mixIs_inj : ∀ (v : Value) (a b : Int ⊕ Str), mixIs a v = true → mixIs b v = true → a = b
  | v, .inl i, .inl j, h1, h2 => by rw [Value.isInt_inj v i j h1 h2]
  | v, .inr i, .inr j, h1, h2 => by rw [Value.isStrOf_inj v i j h1 h2]
  | v, .inl i, .inr j, h1, h2 => by
    obtain ⟨t, rfl⟩ := Value.isInt_shape h1
    cases h2
  | v, .inr i, .inl j, h1, h2 => by
    obtain ⟨t, rfl⟩ := Value.isStrOf_shape h1
    cases h2

/-- keys that are whole numbers or strings -/
def mixKind (prog : Program) (w : World) : KeyKind prog w (Int ⊕ Str) where
  is := mixIs
  hash := fun | .inl i => hashInt i | .inr x => hashStr w x
  inj := mixIs_inj
  byValue := fun k v h => match k, h with
    | .inl i, h => by obtain ⟨t, rfl⟩ := Value.isInt_shape h; rfl
    | .inr x, h => by obtain ⟨t, rfl⟩ := Value.isStrOf_shape h; rfl
  pyHash := fun {A E s k v Q} hv h => match k, hv, h with
    | .inl i, hv, h => by obtain ⟨t, rfl⟩ := Value.isInt_shape hv; exact wpAny_pyHash_int h
    | .inr x, hv, h => by obtain ⟨t, rfl⟩ := Value.isStrOf_shape hv; exact wpAny_pyHash_str h
  eqBool := fun {A E s a b u v Q} hu hv h => match a, b, hu, hv, h with
    | .inl i, .inl j, hu, hv, h => by
      obtain ⟨t, rfl⟩ := Value.isInt_shape hu
      obtain ⟨u, rfl⟩ := Value.isInt_shape hv
      refine wpAny_eqBool_int ?_
      have : (i == j) = decide ((Sum.inl i : Int ⊕ Str) = .inl j) := by by_cases e : i = j <;> simp [e]
      rw [this]; exact h
    | .inr i, .inr j, hu, hv, h => by
      obtain ⟨t, rfl⟩ := Value.isStrOf_shape hu
      obtain ⟨u, rfl⟩ := Value.isStrOf_shape hv
      refine wpAny_eqBool_str ?_
      have : decide (i = j) = decide ((Sum.inr i : Int ⊕ Str) = .inr j) := by by_cases e : i = j <;> simp [e]
      rw [this]; exact h
    | .inl i, .inr j, hu, hv, h => by
      obtain ⟨t, rfl⟩ := Value.isInt_shape hu
      obtain ⟨u, rfl⟩ := Value.isStrOf_shape hv
      have e : decide ((Sum.inl i : Int ⊕ Str) = .inr j) = false := decide_eq_false (by simp)
      rw [e] at h
      unfold eqBool
      refine wpAny_holding ?_
      show wpAny _ _ (if (Value.int i t == Value.str j u) = true then _ else _) Q E s
      rw [if_neg (by exact fun x => nomatch x)]
      exact wpAny_bind (EqMixed.eq_int_str (wpAny_truthy_bool h))
    | .inr i, .inl j, hu, hv, h => by
      obtain ⟨t, rfl⟩ := Value.isStrOf_shape hu
      obtain ⟨u, rfl⟩ := Value.isInt_shape hv
      have e : decide ((Sum.inr i : Int ⊕ Str) = .inl j) = false := decide_eq_false (by simp)
      rw [e] at h
      unfold eqBool
      refine wpAny_holding ?_
      show wpAny _ _ (if (Value.str i t == Value.int j u) = true then _ else _) Q E s
      rw [if_neg (by exact fun x => nomatch x)]
      exact wpAny_bind (EqMixed.eq_str_int (wpAny_truthy_bool h))
  «strs» := fun k x t v h => by
    cases k with
    | inl i => simp [mixIs, Value.isInt] at h
    | inr y =>
      obtain ⟨u, hu⟩ := Value.isStrOf_shape (x := y) (v := .str x t) h
      injection hu with hx
      subst hx
      cases v <;> rfl

inductive D where
  | none
  | bool (b : Bool)
  | int (i : Int)
  | str (x : Str)
  | tup (ds : List D)
  | lst (ds : List D)
  | own (a : Addr)
  | dct (H : Key → Int) (kvs : List (Key × Int))

abbrev Kn := Addr → Obj → Prop

def KeyVs : Key → List Value → Prop
  | [], vs => vs = []
  | k :: ks, vs => ∃ v r, vs = v :: r ∧ mixIs k v = true ∧ KeyVs ks r

def KeyAt (g : Kn) (k : Key) (a : Addr) : Prop := ∃ vs n, g a { cls := .type "tuple", data := .seq vs n } ∧ KeyVs k vs.toList

def intOf : Value → Int | .int i _ => i | _ => 0
def kvOf (x : Key × Addr × Value) : Key × Int := (x.1, intOf x.2.2)

/-- a table keyed by tuples, of whole numbers -/
def DctAt (H : Key → Int) (g : Kn) (P : Obj → Prop) (kvs : List (Key × Int)) : Prop :=
  ∃ (o : Obj) (es : Array DictEntry) (ep : Nat) (xs : List (Key × Addr × Value)), P o ∧ o.ExactDict ∧ o.data = .dict es ep ∧ es.toList = xs.map (fun x : Key × Addr × Value => (⟨H x.1, .ref x.2.1, x.2.2⟩ : DictEntry)) ∧ (∀ x ∈ xs, KeyAt g x.1 x.2.1) ∧
    (∀ x ∈ xs, ∃ i t, x.2.2 = .int i t) ∧ kvs = xs.map kvOf ∧ (kvs.map (·.1)).Nodup

theorem DctAt.mono {H : Key → Int} {g g' : Kn} {P P' : Obj → Prop} {kvs : List (Key × Int)} (h : ∀ a o, g a o → g' a o) (hP : ∀ o, P o → P' o) (x : DctAt H g P kvs) : DctAt H g' P' kvs := by
  obtain ⟨o, es, ep, xs, ho, hc, hd, he, hk, hv, hx, hn⟩ := x
  exact ⟨o, es, ep, xs, hP _ ho, hc, hd, he, fun x hx => let ⟨vs, n, ha, hl⟩ := hk x hx; ⟨vs, n, h _ _ ha, hl⟩, hv, hx, hn⟩

mutual
def Den (g : Kn) : D → Value → Prop
  | .none, v => v = .none
  | .bool b, v => v = .bool b
  | .int i, v => ∃ t, v = .int i t
  | .str x, v => ∃ t, v = .str x t
  | .tup ds, v => ∃ a vs n, v = .ref a ∧ g a { cls := .type "tuple", data := .seq vs n } ∧ DenL g ds vs.toList
  | .lst ds, v => ∃ a vs n, v = .ref a ∧ g a { cls := .type "list", data := .seq vs n } ∧ DenL g ds vs.toList
  | .own a, v => v = .ref a
  | .dct H kvs, v => ∃ a, v = .ref a ∧ (a == sysModules) = false ∧ DctAt H g (g a) kvs
def DenL (g : Kn) : List D → List Value → Prop
  | [], vs => vs = []
  | d :: ds, vs => ∃ v r, vs = v :: r ∧ Den g d v ∧ DenL g ds r
end

mutual
theorem Den.mono {g g' : Kn} (h : ∀ a o, g a o → g' a o) : ∀ {d : D} {v : Value}, Den g d v → Den g' d v
  | .none, _, x => by simpa only [Den] using x
  | .bool _, _, x => by simpa only [Den] using x
  | .int _, _, x => by simpa only [Den] using x
  | .str _, _, x => by simpa only [Den] using x
  | .tup ds, _, x => by
    simp only [Den] at x ⊢
    obtain ⟨a, vs, n, e, ho, hl⟩ := x
    exact ⟨a, vs, n, e, h _ _ ho, DenL.mono h hl⟩
  | .lst ds, _, x => by
    simp only [Den] at x ⊢
    obtain ⟨a, vs, n, e, ho, hl⟩ := x
    exact ⟨a, vs, n, e, h _ _ ho, DenL.mono h hl⟩
  | .own _, _, x => by simpa only [Den] using x
  | .dct H kvs, _, x => by
    simp only [Den] at x ⊢
    obtain ⟨a, e, hs, hd⟩ := x
    exact ⟨a, e, hs, hd.mono h (h a)⟩
theorem DenL.mono {g g' : Kn} (h : ∀ a o, g a o → g' a o) : ∀ {ds : List D} {vs : List Value}, DenL g ds vs → DenL g' ds vs
  | [], _, x => by simpa only [DenL] using x
  | d :: ds, _, x => by
    simp only [DenL] at x ⊢
    obtain ⟨v, r, e, h1, h2⟩ := x
    exact ⟨v, r, e, Den.mono h h1, DenL.mono h h2⟩
end
end

section 
open PySem PySem.W PyProof.Rows

/-- what a heap tells apart from the places in M -/
def knM (M : Addr → Prop) (h : Heap) : Kn := fun b o => h.get? b = some o ∧ ¬ M b

theorem knM.mono {M M' : Addr → Prop} {h h' : Heap} (hM : ∀ a, M' a → M a ∨ h.get? a = none) (hk : ∀ b o, ¬ M b → h.get? b = some o → h'.get? b = some o) : ∀ a o, knM M h a o → knM M' h' a o :=
  fun a o x => ⟨hk a o x.2 x.1, fun q => (hM a q).elim x.2 fun e => by rw [x.1] at e; cases e⟩

inductive OD where
  | lst (ds : List D)
  | dct (kvs : List (Key × Int))

def keyDs (k : Key) : List D := k.map fun | .inl i => D.int i | .inr x => D.str x

def Owned (H : Key → Int) (g : Kn) (h : Heap) (a : Addr) : OD → Prop
  | .lst ds => ∃ vs n, h.get? a = some { cls := .type "list", data := .seq vs n } ∧ DenL g ds vs.toList
  | .dct kvs => (a == sysModules) = false ∧ DctAt H g (fun o => h.get? a = some o) kvs

theorem Owned.mono {H : Key → Int} {g g' : Kn} {h h' : Heap} {a : Addr} {od : OD} (x : Owned H g h a od) (hg : ∀ a o, g a o → g' a o) (ha : ∀ o, h.get? a = some o → h'.get? a = some o) : Owned H g' h' a od := by
  cases od with
  | lst ds => obtain ⟨vs, n, ho, hl⟩ := x; exact ⟨vs, n, ha _ ho, hl.mono hg⟩
  | dct kvs => exact ⟨x.1, DctAt.mono hg ha x.2⟩

theorem Owned.alive {H : Key → Int} {g : Kn} {h : Heap} {a : Addr} {od : OD} (x : Owned H g h a od) : ∃ o, h.get? a = some o := by
  cases od with
  | lst ds => obtain ⟨vs, n, ho, _⟩ := x; exact ⟨_, ho⟩
  | dct kvs => obtain ⟨_, o, es, ep, xs, ho, _⟩ := x; exact ⟨o, ho⟩

structure St where
  vars : List (String × D)
  owns : List (Addr × OD) := []

def upd {α : Type} (x : String) (d : α) : List (String × α) → List (String × α)
  | [] => [(x, d)]
  | (y, e) :: r => if x = y then (x, d) :: r else (y, e) :: upd x d r

theorem lookup_upd {α : Type} (x : String) (d : α) (y : String) : ∀ l : List (String × α), (upd x d l).lookup y = if y = x then some d else l.lookup y
  | [] => by
    by_cases h : y = x
    · subst h; simp [upd]
    · have : (y == x) = false := by simpa using h
      simp [upd, List.lookup_cons, this, h]
  | (z, e) :: r => by
    have ih := lookup_upd x d y r
    unfold upd
    by_cases h : x = z
    · subst h
      rw [if_pos rfl, List.lookup_cons, List.lookup_cons]
      by_cases h' : y = x
      · subst h'; simp
      · have : (y == x) = false := by simpa using h'
        simp [this, h']
    · rw [if_neg h, List.lookup_cons, List.lookup_cons, ih]
      by_cases h' : y = z
      · subst h'
        have : ¬ y = x := fun e => h e.symm
        simp [this]
      · have : (y == z) = false := by simpa using h'
        simp [this]

def St.set (ρ : St) (x : String) (d : D) : St := { ρ with vars := upd x d ρ.vars }

structure EnvOk (env : Env) : Prop where
  kind : env.scope.kind = .function
  glob : env.globals = mainGlobals
  blt : env.builtins = builtinsNs
  sep : ∀ x y c, env.cells.lookup x = some c → env.cells.lookup y = some c → x = y
  apart : ∀ x c, env.cells.lookup x = some c → c ≠ env.locals

def Wr (env : Env) (ρ : St) (b : Addr) : Prop := b = env.locals ∨ (∃ x, env.cells.lookup x = some b) ∨ b ∈ ρ.owns.map (·.1)

def MW (M : Addr → Prop) (env : Env) (ρ : St) (b : Addr) : Prop := M b ∨ Wr env ρ b

def kn (M : Addr → Prop) (env : Env) (ρ : St) (h : Heap) : Kn := knM (MW M env ρ) h

def Holds (env : Env) (h : Heap) (x : Str) (v : Value) : Prop :=
  (env.kindOf x = some .local ∧ ∃ m, h.Ns env.locals m ∧ m x = some v) ∨
  ((env.kindOf x = some .cell ∨ env.kindOf x = some .free) ∧ ∃ c, env.cells.lookup x = some c ∧ h.IsCell c (some v))

theorem Holds.keeps {env : Env} {h h' : Heap} {x : Str} {v : Value} (H : Holds env h x v) (hk : ∀ b o, h.get? b = some o → h'.get? b = some o) : Holds env h' x v := by
  rcases H with ⟨a, m, hn, hm⟩ | ⟨a, c, hc, hv⟩
  · exact .inl ⟨a, m, hn.keeps hk, hm⟩
  · exact .inr ⟨a, c, hc, hv.keeps hk⟩

structure Fm (H : Key → Int) (B : Heap) (env : Env) (M : Addr → Prop) (ρ : St) (s : Shared) : Prop where
  ok : EnvOk env
  base : ∀ b o, B.get? b = some o → s.heap.get? b = some o
  newW : ∀ b, Wr env ρ b → B.get? b = none
  live : ∀ a, M a → ∃ o, s.heap.get? a = some o
  ns : ∃ m, s.heap.Ns env.locals m
  cells : ∀ x c, env.cells.lookup x = some c → ∃ v, s.heap.IsCell c v
  vars : ∀ x d, ρ.vars.lookup x = some d → ∃ v, Holds env s.heap (Str.ofString x) v ∧ Den (kn M env ρ s.heap) d v
  owns : ∀ a od, (a, od) ∈ ρ.owns → Owned H (kn M env ρ s.heap) s.heap a od
  ownsN : (ρ.owns.map (·.1)).Nodup
  ownsL : ∀ a, a ∈ ρ.owns.map (·.1) → a ≠ env.locals ∧ ∀ x, env.cells.lookup x ≠ some a
  ownsM : ∀ a, a ∈ ρ.owns.map (·.1) → ¬ M a

theorem kn.keeps {M : Addr → Prop} {env : Env} {ρ : St} {h h' : Heap} (hk : ∀ b o, h.get? b = some o → h'.get? b = some o) : ∀ a o, kn M env ρ h a o → kn M env ρ h' a o :=
  fun a o x => ⟨hk a o x.1, x.2⟩

def Ke (s s' : Shared) : Prop := ∃ h' tk, s' = { s with heap := h', toks := tk } ∧ ∀ b o, s.heap.get? b = some o → h'.get? b = some o

theorem Fm.keeps {H : Key → Int} {B : Heap} {env : Env} {M : Addr → Prop} {ρ : St} {s s' : Shared} (F : Fm H B env M ρ s) (k : Ke s s') : Fm H B env M ρ s' := by
  obtain ⟨h', tk, rfl, hk⟩ := k
  exact {
    ok := F.ok
    base := fun b o e => hk b o (F.base b o e)
    newW := F.newW
    live := fun a q => let ⟨o, e⟩ := F.live a q; ⟨o, hk _ _ e⟩
    ns := let ⟨m, e⟩ := F.ns; ⟨m, e.keeps hk⟩
    cells := fun x c e => let ⟨v, q⟩ := F.cells x c e; ⟨v, q.keeps hk⟩
    vars := fun x d e => let ⟨v, q, r⟩ := F.vars x d e; ⟨v, q.keeps hk, r.mono (kn.keeps hk)⟩
    owns := fun a od e => (F.owns a od e).mono (kn.keeps hk) (fun o e => hk _ _ e)
    ownsN := F.ownsN
    ownsL := F.ownsL
    ownsM := F.ownsM }

theorem Ke.refl (s : Shared) : Ke s s := ⟨s.heap, s.toks, rfl, fun _ _ e => e⟩
theorem Ke.trans {s s' s'' : Shared} (k : Ke s s') (k' : Ke s' s'') : Ke s s'' := by
  obtain ⟨h, t, rfl, a⟩ := k
  obtain ⟨h', t', rfl, b⟩ := k'
  exact ⟨h', t', rfl, fun x o e => b x o (a x o e)⟩
theorem Ke.tok (s : Shared) (t : Nat) : Ke s { s with toks := t } := ⟨s.heap, t, rfl, fun _ _ e => e⟩
theorem Ke.push (s : Shared) (o : Obj) : Ke s { s with heap := s.heap.push o } := ⟨_, _, rfl, fun _ _ e => Heap.get?_push_of_some _ e⟩
theorem Ke.get {s s' : Shared} (k : Ke s s') : ∀ b o, s.heap.get? b = some o → s'.heap.get? b = some o := by
  obtain ⟨h, t, rfl, a⟩ := k; exact a

/-- a place not yet taken is in no M and not written to -/
theorem Fm.fresh {H : Key → Int} {B : Heap} {env : Env} {M : Addr → Prop} {ρ : St} {s : Shared} (F : Fm H B env M ρ s) {a : Addr} (ha : s.heap.get? a = none) : ¬ MW M env ρ a := by
  rintro (q | rfl | ⟨x, q⟩ | q)
  · obtain ⟨o, e⟩ := F.live a q; rw [ha] at e; cases e
  · obtain ⟨m, o, _, _, e, _⟩ := F.ns; rw [ha] at e; cases e
  · obtain ⟨v, o, e, _⟩ := F.cells x a q; rw [ha] at e; cases e
  · obtain ⟨⟨a', od⟩, hm, rfl⟩ := List.mem_map.mp q
    obtain ⟨o, e⟩ := (F.owns _ _ hm).alive; rw [ha] at e; cases e

theorem get?_size_none (h : Heap) : h.get? h.objs.size = none := by
  cases e : h.get? h.objs.size with
  | none => rfl
  | some o => exact absurd (Heap.lt_size e) (Nat.lt_irrefl _)

/-- weaker frame facts -/
theorem Fm.weaken {H : Key → Int} {B : Heap} {env : Env} {M : Addr → Prop} {ρ ρ' : St} {s : Shared} (F : Fm H B env M ρ s) (hv : ∀ x d, ρ'.vars.lookup x = some d → ρ.vars.lookup x = some d) (ho : ρ'.owns.Sublist ρ.owns) : Fm H B env M ρ' s := by
  have hw : ∀ b, Wr env ρ' b → Wr env ρ b := by
    rintro b (q | q | q)
    · exact .inl q
    · exact .inr (.inl q)
    · exact .inr (.inr ((ho.map _).subset q))
  have hg : ∀ a o, kn M env ρ s.heap a o → kn M env ρ' s.heap a o := fun a o x => ⟨x.1, fun q => x.2 (q.imp id (hw a))⟩
  exact {
    ok := F.ok
    base := F.base
    newW := fun b q => F.newW b (hw b q)
    live := F.live
    ns := F.ns
    cells := F.cells
    vars := fun x d e => let ⟨v, q, r⟩ := F.vars x d (hv x d e); ⟨v, q, r.mono hg⟩
    owns := fun a od e => (F.owns a od (ho.subset e)).mono hg (fun _ e => e)
    ownsN := F.ownsN.sublist (ho.map _)
    ownsL := fun a q => F.ownsL a ((ho.map _).subset q)
    ownsM := fun a q => F.ownsM a ((ho.map _).subset q) }

/-- more places may be set aside -/
theorem Fm.lessM {H : Key → Int} {B : Heap} {env : Env} {M M' : Addr → Prop} {ρ : St} {s : Shared} (F : Fm H B env M ρ s) (h : ∀ a, M' a → M a) : Fm H B env M' ρ s :=
  have hg : ∀ a o, kn M env ρ s.heap a o → kn M' env ρ s.heap a o := fun a o x => ⟨x.1, fun q => x.2 (q.imp (h a) id)⟩
  { F with
    live := fun a q => F.live a (h a q)
    vars := fun x d e => let ⟨v, q, r⟩ := F.vars x d e; ⟨v, q, r.mono hg⟩
    owns := fun a od e => (F.owns a od e).mono hg (fun _ e => e)
    ownsM := fun a q m => F.ownsM a q (h a m) }
end

section 
open PySem PySem.W PyProof.Rows
set_option linter.unusedVariables false

structure Cx where
  prog : Program
  w : World
  B : Heap
  A : Around

/-- the hash of a tuple -/
def Cx.H (c : Cx) : Key → Int := tupleKeyHash (mixKind c.prog c.w)

/-- all of M stands -/
def Live (N : Addr → Prop) (s : Shared) : Prop := ∀ a, N a → ∃ o, s.heap.get? a = some o
theorem Live.keeps {N : Addr → Prop} {s s' : Shared} (l : Live N s) (k : Ke s s') : Live N s' := fun a q => let ⟨o, e⟩ := l a q; ⟨o, k.get _ _ e⟩
theorem Live.fresh {N : Addr → Prop} {s : Shared} (l : Live N s) {a : Addr} (h : s.heap.get? a = none) : ¬ N a := fun q => by
  obtain ⟨o, e⟩ := l a q; rw [h] at e; cases e
theorem knM.keeps {N : Addr → Prop} {s s' : Shared} (k : Ke s s') : ∀ a o, knM N s.heap a o → knM N s'.heap a o := fun a o x => ⟨k.get _ _ x.1, x.2⟩
theorem knM.push {N : Addr → Prop} {s : Shared} (l : Live N s) (o : Obj) (ho : o.isFreed = false) : knM N (s.heap.push o) s.heap.objs.size o :=
  ⟨Heap.get?_push_size _ ho, l.fresh (get?_size_none _)⟩

abbrev Cx.Fm (c : Cx) := Mine.Fm c.H c.B

theorem Fm.liveW {H : Key → Int} {B : Heap} {env : Env} {M : Addr → Prop} {ρ : St} {s : Shared} (F : Fm H B env M ρ s) : Live (MW M env ρ) s := by
  rintro a (q | rfl | ⟨x, q⟩ | q)
  · exact F.live a q
  · obtain ⟨m, o, _, _, e, _⟩ := F.ns; exact ⟨o, e⟩
  · obtain ⟨v, o, e, _⟩ := F.cells x a q; exact ⟨o, e⟩
  · obtain ⟨⟨a', od⟩, hm, rfl⟩ := List.mem_map.mp q
    exact (F.owns _ _ hm).alive

/-- a tree over values: from data to a datum, whatever the places set aside -/
def Op (c : Cx) (t : List Value → Sem Value) (ds : List D) (d : D) : Prop :=
  ∀ (N : Addr → Prop) (s : Shared) (Q E) (vs : List Value), (∀ b o, c.B.get? b = some o → s.heap.get? b = some o) → Live N s → DenL (knM N s.heap) ds vs →
    (∀ v s', Ke s s' → Den (knM N s'.heap) d v → Q v s') → wpAny (model c.prog c.w) c.A (t vs) Q E s

/-- an expression gives d in every state with these frame facts, and keeps all objects -/
def Evals (c : Cx) (env : Env) (ρ : St) (e : Expr) (d : D) : Prop :=
  ∀ (M : Addr → Prop) (s : Shared) (Q E), c.Fm env M ρ s → (∀ v s', Ke s s' → Den (kn M env ρ s'.heap) d v → Q v s') → wpAny (model c.prog c.w) c.A (eval e env) Q E s

def EvalsL (c : Cx) (env : Env) (ρ : St) (es : List Expr) (ds : List D) : Prop :=
  ∀ (M : Addr → Prop) (pos : Pos) (s : Shared) (Q E), c.Fm env M ρ s → (∀ vs s', Ke s s' → DenL (kn M env ρ s'.heap) ds vs → Q vs s') →
    wpAny (model c.prog c.w) c.A (spliced (backTo pos (starEach es env))) Q E s

def Tests (c : Cx) (env : Env) (ρ : St) (e : Expr) (b : Bool) : Prop :=
  ∀ (M : Addr → Prop) (s : Shared) (Q E), c.Fm env M ρ s → (∀ s', Ke s s' → Q b s') → wpAny (model c.prog c.w) c.A (PySem.isTrue e env (eval e env)) Q E s

variable {c : Cx} {env : Env} {ρ : St}

theorem op2 {t : Value → Value → Sem Value} {d1 d2 d : D} (h : ∀ (N : Addr → Prop) (s : Shared) (Q E) (v1 v2 : Value), (∀ b o, c.B.get? b = some o → s.heap.get? b = some o) → Live N s → Den (knM N s.heap) d1 v1 → Den (knM N s.heap) d2 v2 →
    (∀ v s', Ke s s' → Den (knM N s'.heap) d v → Q v s') → wpAny (model c.prog c.w) c.A (t v1 v2) Q E s) : Op c (fun vs => match vs with | [a, b] => t a b | _ => unsupported "") [d1, d2] d := by
  intro N s Q E vs hB L D hQ
  simp only [DenL] at D
  obtain ⟨v1, r, rfl, h1, v2, r', rfl, h2, rfl⟩ := D
  exact h N s Q E v1 v2 hB L h1 h2 hQ

abbrev Op2 (c : Cx) (t : Value → Value → Sem Value) (d1 d2 d : D) : Prop :=
  ∀ (N : Addr → Prop) (s : Shared) (Q E) (v1 v2 : Value), (∀ b o, c.B.get? b = some o → s.heap.get? b = some o) → Live N s → Den (knM N s.heap) d1 v1 → Den (knM N s.heap) d2 v2 →
    (∀ v s', Ke s s' → Den (knM N s'.heap) d v → Q v s') → wpAny (model c.prog c.w) c.A (t v1 v2) Q E s

theorem ev_name {x : String} {d : D} {pos : Pos} (h : ρ.vars.lookup x = some d) (hd : (Str.ofString x == ("__debug__" : Str)) = false := by decide)
    (hn : (Str.ofString x == ("__classdict__" : Str)) = false := by decide) : Evals c env ρ (.Name (Str.ofString x) pos) d := by
  intro M s Q E F hQ
  obtain ⟨v, hv, hd'⟩ := F.vars x d h
  rcases hv with ⟨a, m, hns, hm⟩ | ⟨a | a, k, hc, hv⟩
  · exact wpAny_Name (wpAny_loadName_local F.ok.kind a hns hm (hQ v s (.refl s) hd')) hd
  · exact wpAny_Name (wpAny_loadName_cell F.ok.kind a hc hv (hQ v s (.refl s) hd')) hd
  · exact wpAny_Name (wpAny_loadName_free F.ok.kind a hc hv (hQ v s (.refl s) hd') hn) hd

theorem ev_int {i : Int} {k : Nat} {pos : Pos} : Evals c env ρ (.Constant (.int i) k pos) (.int i) := by
  intro M s Q E F hQ
  exact wpAny_Constant_int (hQ _ _ (.tok s _) (by simp [Den]))
theorem ev_str {x : Str} {k : Nat} {pos : Pos} : Evals c env ρ (.Constant (.str x) k pos) (.str x) := by
  intro M s Q E F hQ
  exact wpAny_Constant_str (hQ _ _ (.tok s _) (by simp [Den]))
theorem ev_none {k : Nat} {pos : Pos} : Evals c env ρ (.Constant .none k pos) .none := by
  intro M s Q E F hQ
  exact Constant_none (hQ _ _ (.refl s) (by simp [Den]))
theorem ev_bool {b : Bool} {k : Nat} {pos : Pos} : Evals c env ρ (.Constant (.bool b) k pos) (.bool b) := by
  intro M s Q E F hQ
  exact fun _ _ _ => hQ _ _ (.refl s) (by simp [Den])

theorem ev_bin {l r : Expr} {op : Operator} {pos : Pos} {d1 d2 d : D} (h1 : Evals c env ρ l d1) (h2 : Evals c env ρ r d2) (h : Op2 c (binaryOp op) d1 d2 d) : Evals c env ρ (.BinOp l op r pos) d := by
  intro M s Q E F hQ
  refine wpAny_BinOp (h1 M s _ E F fun v1 s1 k1 D1 => h2 M s1 _ E (F.keeps k1) fun v2 s2 k2 D2 => ?_)
  refine h _ s2 Q E v1 v2 ((F.keeps k1).keeps k2).base ((F.keeps k1).keeps k2).liveW (D1.mono (knM.keeps k2)) D2 fun v s3 k3 D3 => hQ v s3 ((k1.trans k2).trans k3) D3

theorem ev_cmp {l r : Expr} {op : CmpOp} {pos : Pos} {d1 d2 d : D} (h1 : Evals c env ρ l d1) (h2 : Evals c env ρ r d2) (h : Op2 c (compareOp op) d1 d2 d) (hm : behindInMarks op r = false := by with_unfolding_all rfl) :
    Evals c env ρ (.Compare l [op] [r] pos) d := by
  intro M s Q E F hQ
  refine wpAny_Compare1 (h1 M s _ E F fun v1 s1 k1 D1 => h2 M s1 _ E (F.keeps k1) fun v2 s2 k2 D2 => ?_) hm
  refine h _ s2 Q E v1 v2 ((F.keeps k1).keeps k2).base ((F.keeps k1).keeps k2).liveW (D1.mono (knM.keeps k2)) D2 fun v s3 k3 D3 => hQ v s3 ((k1.trans k2).trans k3) D3

theorem t_cmp {l r : Expr} {op : CmpOp} {pos : Pos} {d1 d2 : D} {b : Bool} (h1 : Evals c env ρ l d1) (h2 : Evals c env ρ r d2) (h : Op2 c (compareOp op) d1 d2 (.bool b)) (hm : behindInMarks op r = false := by with_unfolding_all rfl) :
    Tests c env ρ (.Compare l [op] [r] pos) b := by
  intro M s Q E F hQ
  refine wpAny_isTrue_Compare1 (h1 M s _ E F fun v1 s1 k1 D1 => h2 M s1 _ E (F.keeps k1) fun v2 s2 k2 D2 => ?_) hm
  refine h _ s2 _ E v1 v2 ((F.keeps k1).keeps k2).base ((F.keeps k1).keeps k2).liveW (D1.mono (knM.keeps k2)) D2 fun v s3 k3 D3 => ?_
  simp only [Den] at D3
  subst D3
  exact wpAny_truthy_bool (hQ s3 ((k1.trans k2).trans k3))

theorem ev_if {t a b : Expr} {pos : Pos} {bt : Bool} {d : D} (ht : Tests c env ρ t bt) (ha : bt = true → Evals c env ρ a d) (hb : bt = false → Evals c env ρ b d) : Evals c env ρ (.IfExp t a b pos) d := by
  intro M s Q E F hQ
  refine IfExp_ (ht M s _ E F fun s1 k1 => ?_)
  cases bt with
  | true => exact ha rfl M s1 Q E (F.keeps k1) fun v s' k D => hQ v s' (k1.trans k) D
  | false => exact hb rfl M s1 Q E (F.keeps k1) fun v s' k D => hQ v s' (k1.trans k) D

theorem t_or_nil {pos : Pos} : Tests c env ρ (.BoolOp .Or [] pos) false := fun M s Q E F hQ => isTrue_or_nil (hQ s (.refl s))
theorem t_and_nil {pos : Pos} : Tests c env ρ (.BoolOp .And [] pos) true := fun M s Q E F hQ => isTrue_and_nil (hQ s (.refl s))
theorem t_or_cons {e : Expr} {es : List Expr} {pos : Pos} {b b' : Bool} (h : Tests c env ρ e b) (h' : b = false → Tests c env ρ (.BoolOp .Or es pos) b') : Tests c env ρ (.BoolOp .Or (e :: es) pos) (b || b') := by
  intro M s Q E F hQ
  rw [arm_isTrue_BoolOp, arm_allTrue_cons]
  refine wpAny_bind (h M s _ E F fun s1 k1 => ?_)
  cases b with
  | true => exact wpAny_pure (hQ s1 k1)
  | false =>
    have := h' rfl M s1 Q E (F.keeps k1) fun s' k => hQ s' (k1.trans k)
    rw [arm_isTrue_BoolOp] at this
    exact this
theorem t_and_cons {e : Expr} {es : List Expr} {pos : Pos} {b b' : Bool} (h : Tests c env ρ e b) (h' : b = true → Tests c env ρ (.BoolOp .And es pos) b') : Tests c env ρ (.BoolOp .And (e :: es) pos) (b && b') := by
  intro M s Q E F hQ
  rw [arm_isTrue_BoolOp, arm_allTrue_cons]
  refine wpAny_bind (h M s _ E F fun s1 k1 => ?_)
  cases b with
  | false => exact wpAny_pure (hQ s1 k1)
  | true =>
    have := h' rfl M s1 Q E (F.keeps k1) fun s' k => hQ s' (k1.trans k)
    rw [arm_isTrue_BoolOp] at this
    exact this

theorem evl_nil : EvalsL c env ρ [] [] := by
  intro M pos s Q E F hQ
  exact Calls.spliced_nil (hQ [] s (.refl s) rfl)
theorem evl_cons {e : Expr} {es : List Expr} {d : D} {ds : List D} (h : Evals c env ρ e d) (h' : EvalsL c env ρ es ds)
    (hs : starEach (e :: es) env = (false, eval e env) :: starEach es env := by with_unfolding_all rfl) : EvalsL c env ρ (e :: es) (d :: ds) := by
  intro M pos s Q E F hQ
  rw [hs]
  refine Calls.spliced_cons (h M s _ E F fun v s1 k1 D1 => h' M pos s1 _ E (F.keeps k1) fun vs s2 k2 D2 => ?_)
  exact hQ _ s2 (k1.trans k2) ⟨v, vs, rfl, D1.mono (knM.keeps k2), D2⟩

theorem denL_length {g : Kn} : ∀ {ds : List D} {vs : List Value}, DenL g ds vs → vs.length = ds.length
  | [], _, h => by simp only [DenL] at h; subst h; rfl
  | d :: ds, _, h => by
    simp only [DenL] at h
    obtain ⟨v, r, rfl, _, h2⟩ := h
    simp [denL_length h2]

theorem ev_tup {es : List Expr} {k : Nat} {pos : Pos} {ds : List D} (h : EvalsL c env ρ es ds) (hz : ds.length ≤ sizeLine := by (first | (simp only [List.length_cons, List.length_nil]; decide) | (simp [sizeLine]))) : Evals c env ρ (.Tuple es k pos) (.tup ds) := by
  intro M s Q E F hQ
  refine Tuple_ (h M pos s _ E F fun vs s1 k1 D => ?_)
  refine wpAny_newTuple (hQ _ _ (k1.trans (.push s1 _)) ?_) (by rw [denL_length D]; exact hz)
  simp only [Den]
  refine ⟨_, _, _, rfl, knM.push (F.keeps k1).liveW _ rfl, ?_⟩
  exact D.mono (knM.keeps (.push s1 _))
theorem ev_list {es : List Expr} {pos : Pos} {ds : List D} (h : EvalsL c env ρ es ds) (hz : ds.length ≤ sizeLine := by (first | (simp only [List.length_cons, List.length_nil]; decide) | (simp [sizeLine]))) : Evals c env ρ (.List es pos) (.lst ds) := by
  intro M s Q E F hQ
  refine List_ (h M pos s _ E F fun vs s1 k1 D => ?_)
  refine wpAny_newList (hQ _ _ (k1.trans (.push s1 _)) ?_) (by rw [denL_length D]; exact hz)
  simp only [Den]
  refine ⟨_, _, _, rfl, knM.push (F.keeps k1).liveW _ rfl, ?_⟩
  exact D.mono (knM.keeps (.push s1 _))

/-! int operations -/
theorem o_add {a b : Int} : Op2 c (binaryOp .Add) (.int a) (.int b) (.int (a + b)) := by
  rintro N s Q E v1 v2 hB L ⟨t, rfl⟩ ⟨u, rfl⟩ hQ
  exact add_int (hQ _ _ (.tok s _) ⟨_, rfl⟩)
theorem o_sub {a b : Int} : Op2 c (binaryOp .Sub) (.int a) (.int b) (.int (a - b)) := by
  rintro N s Q E v1 v2 hB L ⟨t, rfl⟩ ⟨u, rfl⟩ hQ
  exact sub_int (hQ _ _ (.tok s _) ⟨_, rfl⟩)
theorem o_mod {a b : Int} (hb : b ≠ 0) : Op2 c (binaryOp .Mod) (.int a) (.int b) (.int (a.fmod b)) := by
  rintro N s Q E v1 v2 hB L ⟨t, rfl⟩ ⟨u, rfl⟩ hQ
  exact mod_int' hb (hQ _ _ (.tok s _) ⟨_, rfl⟩)
theorem o_lt {a b : Int} : Op2 c (compareOp .Lt) (.int a) (.int b) (.bool (decide (a < b))) := by
  rintro N s Q E v1 v2 hB L ⟨t, rfl⟩ ⟨u, rfl⟩ hQ
  exact lt_int (hQ _ _ (.refl s) rfl)
theorem o_gt {a b : Int} : Op2 c (compareOp .Gt) (.int a) (.int b) (.bool (decide (b < a))) := by
  rintro N s Q E v1 v2 hB L ⟨t, rfl⟩ ⟨u, rfl⟩ hQ
  exact gt_int (hQ _ _ (.refl s) rfl)
theorem o_eq {a b : Int} : Op2 c (compareOp .Eq) (.int a) (.int b) (.bool (a == b)) := by
  rintro N s Q E v1 v2 hB L ⟨t, rfl⟩ ⟨u, rfl⟩ hQ
  exact eq_int (hQ _ _ (.refl s) rfl)
theorem o_ne {a b : Int} : Op2 c (compareOp .NotEq) (.int a) (.int b) (.bool (a != b)) := by
  rintro N s Q E v1 v2 hB L ⟨t, rfl⟩ ⟨u, rfl⟩ hQ
  exact ne_int (hQ _ _ (.refl s) rfl)
theorem o_neb {a b : Bool} : Op2 c (compareOp .NotEq) (.bool a) (.bool b) (.bool (a != b)) := by
  rintro N s Q E v1 v2 hB L rfl rfl hQ
  exact ne_bool (hQ _ _ (.refl s) rfl)
def D.isNone : D → Bool | .none => true | _ => false
theorem beq_none_of_den {g : Kn} {d : D} {v : Value} (h : Den g d v) : (v == Value.none) = d.isNone := by
  cases d with
  | none => simp only [Den] at h; subst h; rfl
  | bool b => simp only [Den] at h; subst h; rfl
  | int i => obtain ⟨t, rfl⟩ := h; rfl
  | str x => obtain ⟨t, rfl⟩ := h; rfl
  | tup ds => simp only [Den] at h; obtain ⟨a, vs, n, rfl, _⟩ := h; rfl
  | lst ds => simp only [Den] at h; obtain ⟨a, vs, n, rfl, _⟩ := h; rfl
  | own a => simp only [Den] at h; subst h; rfl
  | dct H kvs => simp only [Den] at h; obtain ⟨a, rfl, _⟩ := h; rfl
theorem o_is {d : D} : Op2 c (compareOp .Is) d .none (.bool d.isNone) := by
  rintro N s Q E v1 v2 hB L h rfl hQ
  exact is_none (hQ _ _ (.refl s) (by rw [beq_none_of_den h]; rfl))
theorem o_isnot {d : D} : Op2 c (compareOp .IsNot) d .none (.bool (!d.isNone)) := by
  rintro N s Q E v1 v2 hB L h rfl hQ
  exact isNot_none (hQ _ _ (.refl s) (by rw [beq_none_of_den h]; rfl))
end

section 
open PySem PySem.W PyProof.Rows
set_option linter.unusedVariables false

theorem ofString_inj {x y : String} (h : Str.ofString x = Str.ofString y) : x = y := by
  rw [Str.ofString_eq_toList, Str.ofString_eq_toList] at h
  have h1 : x.toList.map Char.toNat = y.toList.map Char.toNat := by injection h with h; simpa using congrArg Array.toList h
  have inj : ∀ a b : List Char, a.map Char.toNat = b.map Char.toNat → a = b := by
    intro a
    induction a with
    | nil => intro b h; cases b with | nil => rfl | cons _ _ => cases h
    | cons p a ih =>
      intro b h
      cases b with
      | nil => cases h
      | cons q b =>
        simp only [List.map_cons, List.cons.injEq] at h
        have e : p = q := Char.ext (UInt32.toNat_inj.mp h.1)
        rw [e, ih b h.2]
  exact String.toList_inj.mp (inj _ _ h1)

theorem Ns.unique {h : Heap} {a : Addr} {m m' : Str → Option Value} (x : h.Ns a m) (y : h.Ns a m') : m = m' := by
  obtain ⟨o, es, ep, ho, hd, _, e⟩ := x
  obtain ⟨o', es', ep', ho', hd', _, e'⟩ := y
  rw [ho] at ho'; cases ho'
  rw [hd] at hd'; cases hd'
  funext n; rw [← e n, e' n]

/-- from (ρ, h) to (ρ', h'): only what may be written was written, and only fresh places may be written anew -/
def Step (env : Env) (ρ : St) (h : Heap) (ρ' : St) (h' : Heap) : Prop :=
  (∀ b o, ¬ Wr env ρ b → h.get? b = some o → h'.get? b = some o) ∧ (∀ b, Wr env ρ' b → Wr env ρ b ∨ h.get? b = none)

theorem Step.refl (env : Env) (ρ : St) (h : Heap) : Step env ρ h ρ h := ⟨fun _ _ _ e => e, fun _ q => .inl q⟩
theorem Step.ke {env : Env} {ρ : St} {s s' : Shared} (k : Ke s s') : Step env ρ s.heap ρ s'.heap := ⟨fun _ _ _ e => k.get _ _ e, fun _ q => .inl q⟩
theorem Step.trans {env : Env} {ρ ρ' ρ'' : St} {h h' h'' : Heap} (x : Step env ρ h ρ' h') (y : Step env ρ' h' ρ'' h'') : Step env ρ h ρ'' h'' := by
  refine ⟨fun b o hb e => y.1 b o (fun q => ?_) (x.1 b o hb e), fun b q => ?_⟩
  · rcases x.2 b q with q | q
    · exact hb q
    · rw [e] at q; cases q
  · rcases y.2 b q with q | q
    · exact x.2 b q
    · by_cases hb : Wr env ρ b
      · exact .inl hb
      · refine .inr ?_
        cases e : h.get? b with
        | none => rfl
        | some o => rw [x.1 b o hb e] at q; cases q
theorem Step.kn {env : Env} {ρ ρ' : St} {h h' : Heap} (x : Step env ρ h ρ' h') (M : Addr → Prop) : ∀ a o, kn M env ρ h a o → kn M env ρ' h' a o := by
  rintro a o ⟨e, q⟩
  refine ⟨x.1 a o (fun w => q (.inr w)) e, ?_⟩
  rintro (m | w)
  · exact q (.inl m)
  · rcases x.2 a w with w | w
    · exact q (.inr w)
    · rw [e] at w; cases w

def Kind (env : Env) (x : String) : Prop := env.kindOf (Str.ofString x) = some .local ∨ (env.kindOf (Str.ofString x) = some .cell ∧ ∃ c, env.cells.lookup (Str.ofString x) = some c)

def At (s : Shared) (h : Heap) (tk : Nat) : Shared := { s with heap := h, toks := tk }

theorem Fm.setOne {H : Key → Int} {B : Heap} {env : Env} {M : Addr → Prop} {ρ : St} {s : Shared} (F : Fm H B env M ρ s) {h' : Heap} {tk : Nat} {a : Addr} (hs : Heap.SameBut a s.heap h') (ha : a = env.locals ∨ ∃ x, env.cells.lookup x = some a) :
    (∀ b o, B.get? b = some o → h'.get? b = some o) ∧ (∀ q o, kn M env ρ s.heap q o → kn M env ρ h' q o) ∧ (∀ b o, ¬ Wr env ρ b → s.heap.get? b = some o → h'.get? b = some o) ∧
      (∀ a od, (a, od) ∈ ρ.owns → Owned H (kn M env ρ h') h' a od) := by
  have hw : Wr env ρ a := ha.elim .inl fun e => .inr (.inl e)
  have k1 : ∀ b o, ¬ Wr env ρ b → s.heap.get? b = some o → h'.get? b = some o := fun b o hb e => hs.extBut b o (fun q => hb (q ▸ hw)) e
  have k2 : ∀ q o, kn M env ρ s.heap q o → kn M env ρ h' q o := fun q o x => ⟨k1 q o (fun y => x.2 (.inr y)) x.1, x.2⟩
  refine ⟨fun b o e => hs.extBut b o (fun q => ?_) (F.base b o e), k2, k1, fun b od hb => (F.owns b od hb).mono k2 fun o e => hs.extBut b o (fun q => ?_) e⟩
  · have := F.newW a hw; rw [q, this] at e; cases e
  · have := F.ownsL b (List.mem_map_of_mem hb)
    rcases ha with rfl | ⟨x, e⟩
    · exact this.1 q
    · exact this.2 x (q ▸ e)

theorem store_name' {c : Cx} {env : Env} {ρ : St} {M : Addr → Prop} {s : Shared} {x : String} {d : D} {v : Value} {Q : Unit → Shared → Prop} {E : Value → Shared → Prop} (F : c.Fm env M ρ s) (hk : Kind env x) (hd : Den (kn M env ρ s.heap) d v)
    (h : ∀ h' tk, c.Fm env M (ρ.set x d) (At s h' tk) → Step env ρ s.heap (ρ.set x d) h' → (∃ a, Heap.SameBut a s.heap h' ∧ ((env.kindOf (Str.ofString x) = some .local ∧ a = env.locals) ∨ env.cells.lookup (Str.ofString x) = some a)) → Q () (At s h' tk)) : wpAny (model c.prog c.w) c.A (storeName env (Str.ofString x) v) Q E s := by
  have hwr : ∀ b, Wr env (ρ.set x d) b → Wr env ρ b := fun b q => q
  rcases hk with hl | ⟨hl, a, hc⟩
  · obtain ⟨m, hn⟩ := F.ns
    refine wpAny_storeName_local hl hn (fun h' hn' hs => ?_) (by rw [F.ok.kind]; rfl)
    obtain ⟨k0, k2, k1, k3⟩ := F.setOne (tk := s.toks + 1) hs (.inl rfl)
    refine h h' (s.toks + 1) ?_ ⟨k1, fun b q => .inl (hwr b q)⟩ ⟨_, hs, .inl ⟨hl, rfl⟩⟩
    exact {
      ok := F.ok
      base := k0
      newW := F.newW
      live := fun b q => by
        obtain ⟨o, e⟩ := F.live b q
        by_cases hb : b = env.locals
        · subst hb; obtain ⟨o', _, _, e', _⟩ := hn'; exact ⟨o', e'⟩
        · exact ⟨o, hs.extBut b o hb e⟩
      ns := ⟨_, hn'⟩
      cells := fun y k e => let ⟨v, q⟩ := F.cells y k e; ⟨v, q.sameBut hs (F.ok.apart y k e)⟩
      vars := fun y e hy => by
        rw [St.set, lookup_upd] at hy
        by_cases hyx : y = x
        · subst hyx
          rw [if_pos rfl] at hy; cases hy
          exact ⟨v, .inl ⟨hl, _, hn', by simp⟩, hd.mono k2⟩
        · rw [if_neg hyx] at hy
          obtain ⟨v', hv', hd'⟩ := F.vars y e hy
          refine ⟨v', ?_, hd'.mono k2⟩
          rcases hv' with ⟨q, m', hm', e'⟩ | ⟨q, k, hk', hv'⟩
          · have := Ns.unique hm' hn; subst this
            exact .inl ⟨q, _, hn', by rw [if_neg (fun z => hyx (ofString_inj z))]; exact e'⟩
          · exact .inr ⟨q, k, hk', hv'.sameBut hs (F.ok.apart _ k hk')⟩
      owns := k3
      ownsN := F.ownsN
      ownsL := F.ownsL
      ownsM := F.ownsM }
  · obtain ⟨v0, hv0⟩ := F.cells _ a hc
    refine wpAny_storeName_cell F.ok.kind hl hc hv0 fun h' hv' hs => ?_
    obtain ⟨k0, k2, k1, k3⟩ := F.setOne (tk := s.toks) hs (.inr ⟨_, hc⟩)
    have key := h h' s.toks ?_ ⟨k1, fun b q => .inl (hwr b q)⟩ ⟨_, hs, .inr hc⟩
    · exact key
    have hLa : env.locals ≠ a := fun e => F.ok.apart _ a hc e.symm
    exact {
      ok := F.ok
      base := k0
      newW := F.newW
      live := fun b q => by
        obtain ⟨o, e⟩ := F.live b q
        by_cases hb : b = a
        · subst hb; obtain ⟨o', e', _⟩ := hv'; exact ⟨o', e'⟩
        · exact ⟨o, hs.extBut b o hb e⟩
      ns := let ⟨m, hn⟩ := F.ns; ⟨m, hn.sameBut hs hLa⟩
      cells := fun y k e => by
        by_cases hka : k = a
        · subst hka; exact ⟨_, hv'⟩
        · let ⟨v, q⟩ := F.cells y k e; exact ⟨v, q.sameBut hs hka⟩
      vars := fun y e hy => by
        rw [St.set, lookup_upd] at hy
        by_cases hyx : y = x
        · subst hyx
          rw [if_pos rfl] at hy; cases hy
          exact ⟨v, .inr ⟨.inl hl, a, hc, hv'⟩, hd.mono k2⟩
        · rw [if_neg hyx] at hy
          obtain ⟨w', hw', hd'⟩ := F.vars y e hy
          refine ⟨w', ?_, hd'.mono k2⟩
          rcases hw' with ⟨q, m', hm', e'⟩ | ⟨q, k, hk', hv''⟩
          · exact .inl ⟨q, _, hm'.sameBut hs hLa, e'⟩
          · refine .inr ⟨q, k, hk', hv''.sameBut hs fun e => hyx (ofString_inj ?_)⟩
            subst e
            exact F.ok.sep _ _ _ hk' hc
      owns := k3
      ownsN := F.ownsN
      ownsL := F.ownsL
      ownsM := F.ownsM }

theorem store_name {c : Cx} {env : Env} {ρ : St} {M : Addr → Prop} {s : Shared} {x : String} {d : D} {v : Value} {Q : Unit → Shared → Prop} {E : Value → Shared → Prop} (F : c.Fm env M ρ s) (hk : Kind env x) (hd : Den (kn M env ρ s.heap) d v)
    (h : ∀ h' tk, c.Fm env M (ρ.set x d) (At s h' tk) → Step env ρ s.heap (ρ.set x d) h' → Q () (At s h' tk)) : wpAny (model c.prog c.w) c.A (storeName env (Str.ofString x) v) Q E s :=
  store_name' F hk hd fun h' tk F' st _ => h h' tk F' st

inductive Fl where
  | next | brk | cont
  | ret (d : D)

def FlDen (g : Kn) : Fl → Flow → Prop
  | .next, f => f = .next
  | .brk, f => f = .brk
  | .cont, f => f = .cont
  | .ret d, f => ∃ v, f = .ret v ∧ Den g d v

theorem FlDen.mono {g g' : Kn} (h : ∀ a o, g a o → g' a o) {fl : Fl} {f : Flow} (x : FlDen g fl f) : FlDen g' fl f := by
  cases fl with
  | ret d => obtain ⟨v, e, d⟩ := x; exact ⟨v, e, d.mono h⟩
  | _ => exact x

abbrev Post := Fl → St → Prop

def Tree (c : Cx) (env : Env) (ρ : St) (t : Sem Flow) (Φ : Post) : Prop :=
  ∀ (M : Addr → Prop) (s : Shared) (Q : Flow → Shared → Prop) (E), c.Fm env M ρ s →
    (∀ fl f ρ' h' tk, Φ fl ρ' → c.Fm env M ρ' (At s h' tk) → Step env ρ s.heap ρ' h' → FlDen (kn M env ρ' h') fl f → Q f (At s h' tk)) → wpAny (model c.prog c.w) c.A t Q E s

abbrev Exec (c : Cx) (env : Env) (ρ : St) (st : Stmt) (Φ : Post) : Prop := Tree c env ρ (exec st env) Φ
abbrev Runs (c : Cx) (env : Env) (ρ : St) (b : List Stmt) (Φ : Post) : Prop := Tree c env ρ (execs b env) Φ

def Stores (c : Cx) (env : Env) (ρ : St) (t : Value → Sem Unit) (d : D) (ρ' : St) : Prop :=
  ∀ (M : Addr → Prop) (s : Shared) (Q : Unit → Shared → Prop) (E) (v : Value), c.Fm env M ρ s → Den (kn M env ρ s.heap) d v →
    (∀ h' tk, c.Fm env M ρ' (At s h' tk) → Step env ρ s.heap ρ' h' → Q () (At s h' tk)) → wpAny (model c.prog c.w) c.A (t v) Q E s

variable {c : Cx} {env : Env} {ρ : St}

theorem Ke.at {s s' : Shared} (k : Ke s s') : ∃ h' tk, s' = At s h' tk ∧ ∀ b o, s.heap.get? b = some o → h'.get? b = some o := k
theorem at_at (s : Shared) (h h' : Heap) (t t' : Nat) : At (At s h t) h' t' = At s h' t' := rfl
theorem at_self (s : Shared) : At s s.heap s.toks = s := rfl

theorem Tree.mono {t : Sem Flow} {Φ Φ' : Post} (x : Tree c env ρ t Φ) (h : ∀ fl ρ', Φ fl ρ' → Φ' fl ρ') : Tree c env ρ t Φ' :=
  fun M s Q E F hQ => x M s Q E F fun fl f ρ' h' tk p => hQ fl f ρ' h' tk (h _ _ p)

theorem Tree.weaken {t : Sem Flow} {Φ : Post} {ρ' : St} (x : Tree c env ρ' t Φ) (hv : ∀ x d, ρ'.vars.lookup x = some d → ρ.vars.lookup x = some d) (ho : ρ'.owns.Sublist ρ.owns) : Tree c env ρ t Φ := by
  intro M s Q E F hQ
  refine x M s Q E (F.weaken hv ho) fun fl f ρ'' h' tk p F' st fd => hQ fl f ρ'' h' tk p F' ?_ fd
  have hw : ∀ b, Wr env ρ' b → Wr env ρ b := by
    rintro b (q | q | q)
    · exact .inl q
    · exact .inr (.inl q)
    · exact .inr (.inr ((ho.map _).subset q))
  exact ⟨fun b o hb e => st.1 b o (fun q => hb (hw b q)) e, fun b q => (st.2 b q).imp (hw b) id⟩

theorem runs_nil {Φ : Post} (h : Φ .next ρ) : Runs c env ρ [] Φ := fun M s Q E F hQ =>
  wpAny_execs_nil (hQ .next .next ρ s.heap s.toks h F (.refl ..) rfl)

theorem runs_cons {st : Stmt} {rest : List Stmt} {Φ Ψ : Post} (h : Exec c env ρ st Ψ) (hn : ∀ ρ', Ψ .next ρ' → Runs c env ρ' rest Φ)
    (ho : ∀ fl ρ', fl ≠ .next → Ψ fl ρ' → Φ fl ρ') : Runs c env ρ (st :: rest) Φ := by
  intro M s Q E F hQ
  refine wpAny_execs_cons (h M s _ E F fun fl f ρ' h' tk p F' st' fd => ?_)
  cases fl with
  | next =>
    cases fd
    exact hn ρ' p M _ Q E F' fun fl f ρ'' h'' tk' p' F'' st'' fd' => hQ fl f ρ'' h'' tk' p' F'' (st'.trans st'') fd'
  | brk => cases fd; exact hQ .brk .brk ρ' h' tk (ho _ _ (by simp) p) F' st' rfl
  | cont => cases fd; exact hQ .cont .cont ρ' h' tk (ho _ _ (by simp) p) F' st' rfl
  | ret d => obtain ⟨v, rfl, hd⟩ := fd; exact hQ (.ret d) _ ρ' h' tk (ho _ _ (by simp) p) F' st' ⟨v, rfl, hd⟩

/-- a statement that always goes on -/
theorem runs_then {st : Stmt} {rest : List Stmt} {Φ : Post} {R : St → Prop} (h : Exec c env ρ st fun fl ρ' => fl = .next ∧ R ρ') (hn : ∀ ρ', R ρ' → Runs c env ρ' rest Φ) : Runs c env ρ (st :: rest) Φ :=
  runs_cons h (fun ρ' p => hn ρ' p.2) fun fl ρ' hf p => absurd p.1 hf

theorem st_name {x : String} {pos : Pos} {d : D} (hk : Kind env x) : Stores c env ρ (assign (.Name (Str.ofString x) pos) env) d (ρ.set x d) := by
  intro M s Q E v F hd h
  exact assign_Name (store_name F hk hd h)

theorem assign_name {x : String} {pos' pos : Pos} {e : Expr} {d : D} {Φ : Post} (h : Evals c env ρ e d) (hk : Kind env x) (hΦ : Φ .next (ρ.set x d))
    (hs : swapsWith e (some (.Name (Str.ofString x) pos')) pos.line env = pure false := by with_unfolding_all rfl) : Exec c env ρ (.Assign [.Name (Str.ofString x) pos'] e pos) Φ := by
  intro M s Q E F hQ
  refine wpAny_Assign_Name (h M s _ E F fun v s' k D => ?_) hs
  refine store_name (F.keeps k) hk D fun h' tk F' st => ?_
  obtain ⟨h0, t0, rfl, hk0⟩ := k.at
  exact hQ .next .next _ h' tk hΦ F' ((Step.ke k).trans st) rfl

theorem aug_name {x : String} {pos' pos : Pos} {e : Expr} {op : Operator} {d0 d1 d : D} {Φ : Post} (h0 : ρ.vars.lookup x = some d0) (h : Evals c env ρ e d1) (ho : Op2 c (inplaceOp op) d0 d1 d) (hk : Kind env x) (hΦ : Φ .next (ρ.set x d))
    (hn : (Str.ofString x == ("__classdict__" : Str)) = false := by decide) : Exec c env ρ (.AugAssign (.Name (Str.ofString x) pos') op e pos) Φ := by
  intro M s Q E F hQ
  have ld : ∀ (Q' : Value → Shared → Prop), (∀ v, Den (kn M env ρ s.heap) d0 v → Q' v s) → wpAny (model c.prog c.w) c.A (loadName env (Str.ofString x)) Q' E s := by
    intro Q' hQ'
    obtain ⟨v, hv, hd'⟩ := F.vars x d0 h0
    rcases hv with ⟨a, m, hns, hm⟩ | ⟨a | a, k, hc, hv⟩
    · exact wpAny_loadName_local F.ok.kind a hns hm (hQ' v hd')
    · exact wpAny_loadName_cell F.ok.kind a hc hv (hQ' v hd')
    · exact wpAny_loadName_free F.ok.kind a hc hv (hQ' v hd') hn
  refine wpAny_AugAssign_Name (ld _ fun v0 D0 => h M s _ E F fun v1 s1 k1 D1 => ?_)
  refine ho _ s1 _ E v0 v1 (F.keeps k1).base (F.keeps k1).liveW (D0.mono (knM.keeps k1)) D1 fun v s2 k2 D2 => ?_
  have k := k1.trans k2
  refine store_name (F.keeps k) hk D2 fun h' tk F' st => ?_
  obtain ⟨h0, t0, rfl, hk0⟩ := k.at
  exact hQ .next .next _ h' tk hΦ F' ((Step.ke k).trans st) rfl

theorem exec_if {t : Expr} {a b : List Stmt} {pos : Pos} {bt : Bool} {Φ : Post} (ht : Tests c env ρ t bt) (ha : bt = true → Runs c env ρ a Φ) (hb : bt = false → Runs c env ρ b Φ) : Exec c env ρ (.If t a b pos) Φ := by
  intro M s Q E F hQ
  refine wpAny_If (ht M s _ E F fun s1 k1 => ?_)
  have st1 := Step.ke (env := env) (ρ := ρ) k1
  obtain ⟨h0, t0, rfl, hk0⟩ := k1.at
  cases bt with
  | true => exact ha rfl M _ Q E (F.keeps k1) fun fl f ρ' h' tk p F' st fd => hQ fl f ρ' h' tk p F' (st1.trans st) fd
  | false => exact hb rfl M _ Q E (F.keeps k1) fun fl f ρ' h' tk p F' st fd => hQ fl f ρ' h' tk p F' (st1.trans st) fd

theorem exec_ret {e : Expr} {pos : Pos} {d : D} {Φ : Post} (h : Evals c env ρ e d) (hΦ : Φ (.ret d) ρ) : Exec c env ρ (.Return (some e) pos) Φ := by
  intro M s Q E F hQ
  refine wpAny_Return_some (h M s _ E F fun v s1 k1 D1 => ?_)
  have st1 := Step.ke (env := env) (ρ := ρ) k1
  have F1 := F.keeps k1
  obtain ⟨h0, t0, rfl, hk0⟩ := k1.at
  exact hQ (.ret d) _ ρ h0 t0 hΦ F1 st1 ⟨v, rfl, D1⟩

/-- two targets -/
theorem st_tup2 {e1 e2 : Expr} {k : Nat} {pos : Pos} {d1 d2 : D} {ρ1 ρ2 : St} (hh : c.A.handled = none) (h1 : Stores c env ρ (assign e1 env) d1 ρ1) (h2 : Stores c env ρ1 (assign e2 env) d2 ρ2)
    (ha : assignEach [e1, e2] env = [(false, assign e1 env), (false, assign e2 env)] := by with_unfolding_all rfl) : Stores c env ρ (assign (.Tuple [e1, e2] k pos) env) (.tup [d1, d2]) ρ2 := by
  intro M s Q E v F hd h
  simp only [Den, DenL] at hd
  obtain ⟨a, vs, n, rfl, ho, v1, r, hvs, D1, v2, r', rfl, D2, rfl⟩ := hd
  have hsz : vs.size = 2 := by rw [← Array.length_toList, hvs]; rfl
  refine assign_Tuple_tuple hh ⟨_, ho.1, rfl, n, rfl⟩ (by rw [ha, hsz]; rfl) (by rw [ha]; rfl) fun h0 he => ?_
  have k0 : Ke s { s with heap := h0 } := ⟨h0, s.toks, rfl, fun b o e => he b o (Nat.ne_of_lt (Heap.lt_size e)) e⟩
  rw [ha, hvs]
  have F0 := F.keeps k0
  refine assignInOrder_cons (h1 M _ _ E v1 F0 (D1.mono (kn.keeps k0.get)) fun ha' tka Fa sta => ?_)
  refine assignInOrder_cons (h2 M _ _ E v2 Fa (D2.mono fun a o q => sta.kn M a o (kn.keeps k0.get a o q)) fun hb' tkb Fb stb => ?_)
  exact assignInOrder_nil (h hb' tkb Fb (((Step.ke k0).trans sta).trans stb))

theorem assign_tup {elts : List Expr} {k : Nat} {tpos pos : Pos} {e : Expr} {d : D} {ρ' : St} {Φ : Post} (h : Evals c env ρ e d) (hst : Stores c env ρ (assign (.Tuple elts k tpos) env) d ρ') (hΦ : Φ .next ρ')
    (hs : swapsWithSole [.Tuple elts k tpos] e pos.line env = pure false := by with_unfolding_all rfl)
    (hw : swappedStores [.Tuple elts k tpos] e env = pure none := by with_unfolding_all rfl) : Exec c env ρ (.Assign [.Tuple elts k tpos] e pos) Φ := by
  intro M s Q E F hQ
  refine Assign_Tuple (h M s _ E F fun v s' kk D => ?_) hs hw
  have st1 := Step.ke (env := env) (ρ := ρ) kk
  refine hst M s' _ E v (F.keeps kk) D fun h' tk F' st => ?_
  obtain ⟨h0, t0, rfl, hk0⟩ := kk.at
  exact hQ .next .next _ h' tk hΦ F' (st1.trans st) rfl
end

section 
open PySem PySem.W PyProof.Rows
set_option linter.unusedVariables false

variable {c : Cx} {env : Env} {ρ : St}

/-- a name of the module or of the built-ins -/
def GName (B : Heap) (f : Str) (v : Value) : Prop :=
  (∃ mg, B.Ns mainGlobals mg ∧ mg f = some v) ∨ (∃ mg mb, B.Ns mainGlobals mg ∧ mg f = none ∧ B.Ns builtinsNs mb ∧ mb f = some v)

theorem ev_global {f : Str} {v : Value} {pos : Pos} {M : Addr → Prop} {s : Shared} {Q E} (hG : GName c.B f v) (F : c.Fm env M ρ s) (hx : env.kindOf f = some .globalImplicit) (hd : (f == ("__debug__" : Str)) = false) (hQ : Q v s) :
    wpAny (model c.prog c.w) c.A (eval (.Name f pos) env) Q E s := by
  rcases hG with ⟨mg, hn, hm⟩ | ⟨mg, mb, hn, hm, hb, hv⟩
  · exact Calls.Name_function_global F.ok.kind hx (Calls.loadGlobal_global (by rw [F.ok.glob]; exact hn.keeps F.base) hm hQ) hd
  · exact Calls.Name_function_global F.ok.kind hx (Calls.loadGlobal_builtin (by rw [F.ok.glob]; exact hn.keeps F.base) hm (by rw [F.ok.blt]; exact hb.keeps F.base) hv hQ) hd

/-- a call of a def of the module -/
theorem ev_call {f : Str} {a : Addr} {o : Obj} {fd : FuncData} {np pos : Pos} {e : Expr} {es : List Expr} {ds : List D} {d : D} (hG : GName c.B f (.ref a)) (ho : c.B.get? a = some o) (hd : o.data = .func fd)
    (ha : EvalsL c env ρ (e :: es) ds) (hf : Op c (fun vs => call (.ref a) vs) ds d) (hx : env.kindOf f = some .globalImplicit) (hdb : (f == ("__debug__" : Str)) = false := by decide)
    (hs : starEach (e :: es) env = (false, eval e env) :: starEach es env := by with_unfolding_all rfl) : Evals c env ρ (.Call (.Name f np) (e :: es) [] pos) d := by
  intro M s Q E F hQ
  refine Call_ (ev_global hG F hx hdb ?_)
  refine callWith_def hd (ha M pos s _ E F fun vs s1 k1 D1 => ⟨(F.keeps k1).base _ _ ho, ?_⟩) hs
  exact hf _ s1 _ E vs (F.keeps k1).base (F.keeps k1).liveW D1 fun v s2 k2 D2 => hQ v s2 (k1.trans k2) D2

theorem mem_upd_binds {kindOf : Str → Option NameKind} : ∀ (binds : List (Str × Value)) (m : Str → Option Value) (n : Str), n ∉ binds.map (·.1) → bindL kindOf binds m n = m n
  | [], m, n, _ => rfl
  | (y, v) :: r, m, n, h => by
    simp only [List.map_cons, List.mem_cons, not_or] at h
    rw [bindL, mem_upd_binds r _ n h.2]
    split
    · show (if n = y then _ else _) = _
      rw [if_neg h.1]
    · rfl
theorem mem_upd_bindsC {kindOf : Str → Option NameKind} : ∀ (binds : List (Str × Value)) (m : Str → Option Value) (n : Str), n ∉ binds.map (·.1) → bindC kindOf binds m n = m n
  | [], m, n, _ => rfl
  | (y, v) :: r, m, n, h => by
    simp only [List.map_cons, List.mem_cons, not_or] at h
    rw [bindC, mem_upd_bindsC r _ n h.2]
    split
    · rfl
    · show (if n = y then _ else _) = _
      rw [if_neg h.1]
theorem bindL_mem {kindOf : Str → Option NameKind} : ∀ (binds : List (Str × Value)) (m : Str → Option Value) (n : Str) (v : Value), (binds.map (·.1)).Nodup → (n, v) ∈ binds → kindOf n = some .local → bindL kindOf binds m n = some v
  | (y, u) :: r, m, n, v, hn, hm, hk => by
    simp only [List.map_cons, List.nodup_cons] at hn
    rcases List.mem_cons.mp hm with e | hm
    · cases e
      rw [bindL, mem_upd_binds r _ _ hn.1, if_pos hk]
      simp
    · rw [bindL]; exact bindL_mem r _ n v hn.2 hm hk
theorem bindC_mem {kindOf : Str → Option NameKind} : ∀ (binds : List (Str × Value)) (m : Str → Option Value) (n : Str) (v : Value), (binds.map (·.1)).Nodup → (n, v) ∈ binds → kindOf n ≠ some .local → bindC kindOf binds m n = some v
  | (y, u) :: r, m, n, v, hn, hm, hk => by
    simp only [List.map_cons, List.nodup_cons] at hn
    rcases List.mem_cons.mp hm with e | hm
    · cases e
      rw [bindC, mem_upd_bindsC r _ _ hn.1, if_neg hk]
      simp
    · rw [bindC]; exact bindC_mem r _ n v hn.2 hm hk

/-- the names and what they hold, beside the data -/
inductive Binds (g : Kn) : List (String × D) → List (Str × Value) → Prop
  | nil : Binds g [] []
  | cons {x d v r bs} : Den g d v → Binds g r bs → Binds g ((x, d) :: r) ((Str.ofString x, v) :: bs)

theorem Binds.mono {g g' : Kn} (h : ∀ a o, g a o → g' a o) {l bs} (x : Binds g l bs) : Binds g' l bs := by
  induction x with
  | nil => exact .nil
  | cons h1 _ ih => exact .cons (h1.mono h) ih
theorem Binds.names {g : Kn} {l bs} (x : Binds g l bs) : bs.map (·.1) = l.map fun p => Str.ofString p.1 := by
  induction x with
  | nil => rfl
  | cons _ _ ih => simp [ih]
theorem Binds.look {g : Kn} {l bs} (b : Binds g l bs) {x : String} {d : D} (h : l.lookup x = some d) : ∃ v, (Str.ofString x, v) ∈ bs ∧ Den g d v := by
  induction b with
  | nil => cases h
  | @cons y e v r bs hd _ ih =>
    rw [List.lookup_cons] at h
    cases hxy : x == y with
    | true =>
      rw [hxy] at h; cases h
      rw [beq_iff_eq.mp hxy]
      exact ⟨v, List.mem_cons_self, hd⟩
    | false =>
      rw [hxy] at h
      obtain ⟨v', hm, hd'⟩ := ih h
      exact ⟨v', List.mem_cons_of_mem _ hm, hd'⟩

theorem nodup_map_ofString : ∀ (l : List (String × D)), (l.map (·.1)).Nodup → (l.map fun p => Str.ofString p.1).Nodup
  | [], _ => List.nodup_nil
  | (x, d) :: r, h => by
    simp only [List.map_cons, List.nodup_cons] at h ⊢
    refine ⟨fun q => h.1 ?_, nodup_map_ofString r h.2⟩
    obtain ⟨p, hp, e⟩ := List.mem_map.mp q
    rw [← ofString_inj e]; exact List.mem_map_of_mem hp

structure FnOk (B : Heap) (a : Addr) (fd : FuncData) (body : List Stmt) : Prop where
  obj : ∃ o, B.get? a = some o ∧ o.data = .func fd
  body : fd.body = .stmts body
  clo : fd.closure = []
  code : B.CodeRec fd.code fd.qualname
  nolim : B.NoLimit
  glob : fd.globals = mainGlobals
  blt : fd.builtins = builtinsNs
  kind : fd.scope.kind = .function
  nogen : fd.scope.isGenerator = false
  noco : fd.scope.isCoroutine = false

def Cx.deeper (c : Cx) (env : Env) : Cx := { c with A := c.A.deeper env }

theorem InCallC.fm {H : Key → Int} {B : Heap} {N : Addr → Prop} {s s1 : Shared} {fd : FuncData} {a : Addr} {l : List (String × D)} {bs : List (Str × Value)} (hB : ∀ b o, B.get? b = some o → s.heap.get? b = some o) (L : Live N s)
    (hfd : fd.globals = mainGlobals ∧ fd.builtins = builtinsNs ∧ fd.scope.kind = .function) (hb : Binds (knM N s.heap) l bs) (hnd : (l.map (·.1)).Nodup) {env : Env} (he : env = callEnvC fd s.heap.objs.size a)
    (hkind : ∀ x ∈ bs, fd.scope.names.lookup x.1 = some .local ∨ (fd.scope.names.lookup x.1 = some .cell ∧ (env.cells.lookup x.1).isSome = true))
    (x : InCallC s env.locals (bindL env.kindOf bs fun _ => none) env.cells (bindC env.kindOf bs fun _ => none) s1) :
    Fm H B env N ⟨l, []⟩ s1 ∧ Ke s s1 ∧ (∀ b, Wr env ⟨l, []⟩ b → s.heap.get? b = none) := by
  have hloc : env.locals = s.heap.objs.size := by subst he; rfl
  have kk : Ke s s1 := by
    obtain ⟨h', tk, rfl, hk⟩ := x.toInCall.done
    exact ⟨h', tk, rfl, hk⟩
  have fresh : ∀ b, s.heap.objs.size ≤ b → s.heap.get? b = none := fun b hb => by
    cases e : s.heap.get? b with
    | none => rfl
    | some o => exact absurd (Heap.lt_size e) (Nat.not_lt.mpr hb)
  have hw : ∀ b, Wr env ⟨l, []⟩ b → s.heap.get? b = none := by
    rintro b (rfl | ⟨n, q⟩ | q)
    · exact fresh _ (by rw [hloc]; exact Nat.le_refl _)
    · exact fresh _ (Nat.le_of_lt (by have := x.above n b (mem_of_lookup q); rw [hloc] at this; exact this))
    · cases q
  have hg : ∀ q o, knM N s.heap q o → kn N env ⟨l, []⟩ s1.heap q o := by
    rintro q o ⟨e, hn⟩
    refine ⟨kk.get _ _ e, ?_⟩
    rintro (m | w)
    · exact hn m
    · rw [hw q w] at e; cases e
  have hnames := hb.names
  have hnd' : (bs.map (·.1)).Nodup := by rw [hnames]; exact nodup_map_ofString l hnd
  refine ⟨?_, kk, hw⟩
  exact {
    ok := {
      kind := by subst he; exact hfd.2.2
      glob := by subst he; exact hfd.1
      blt := by subst he; exact hfd.2.1
      sep := fun n n' k h h' => name_of_addr x.apart (mem_of_lookup h) (mem_of_lookup h')
      apart := fun n k h e => by have := x.above n k (mem_of_lookup h); rw [e] at this; exact Nat.lt_irrefl _ this }
    base := fun b o e => kk.get _ _ (hB b o e)
    newW := fun b q => by
      cases e : B.get? b with
      | none => rfl
      | some o => have := hB _ _ e; rw [hw b q] at this; cases this
    live := fun b q => let ⟨o, e⟩ := L b q; ⟨o, kk.get _ _ e⟩
    ns := ⟨_, x.toInCall.ns⟩
    cells := fun n k h => ⟨_, x.cell n k h⟩
    vars := fun n d h => by
      obtain ⟨v, hm, hd⟩ := hb.look h
      refine ⟨v, ?_, hd.mono hg⟩
      have hk : ∀ z, env.kindOf z = fd.scope.names.lookup z := fun z => by subst he; rfl
      rcases hkind _ hm with hl | ⟨hl, hc⟩
      · exact .inl ⟨by rw [hk]; exact hl, _, x.toInCall.ns, bindL_mem bs _ _ v hnd' hm (by rw [hk]; exact hl)⟩
      · obtain ⟨k, hc⟩ := Option.isSome_iff_exists.mp hc
        refine .inr ⟨.inl (by rw [hk]; exact hl), k, hc, ?_⟩
        have := x.cell _ k hc
        rwa [bindC_mem bs _ _ v hnd' hm (by rw [hk]; rw [hl]; decide)] at this
    owns := fun b od q => by cases q
    ownsN := List.nodup_nil
    ownsL := fun b q => by cases q
    ownsM := fun b q => by cases q }

/-- a def's contract from its body -/
theorem fn_op {a : Addr} {fd : FuncData} {body : List Stmt} {ds : List D} {r : D} {l : List (String × D)} (G : FnOk c.B a fd body) (hroom : c.A.depth < recursionLimit) (hnd : (l.map (·.1)).Nodup)
    (hkind : ∀ n, ∀ x ∈ l, fd.scope.names.lookup (Str.ofString x.1) = some .local ∨ (fd.scope.names.lookup (Str.ofString x.1) = some .cell ∧ ((cellsFrom n fd.scope.names []).lookup (Str.ofString x.1)).isSome = true))
    (hbind : ∀ (N : Addr → Prop) (s : Shared) (vs : List Value), (∀ b o, c.B.get? b = some o → s.heap.get? b = some o) → DenL (knM N s.heap) ds vs → ∃ bs, BindsTo s fd ⟨vs, []⟩ bs ∧ Binds (knM N s.heap) l bs)
    (hrun : ∀ L, Runs (c.deeper (callEnvC fd L a)) (callEnvC fd L a) ⟨l, []⟩ body (fun fl _ => fl = .ret r ∨ (r = .none ∧ fl = .next))) : Op c (fun vs => call (.ref a) vs) ds r := by
  intro N s Q E vs hB L D hQ
  obtain ⟨o, ho, hd⟩ := G.obj
  obtain ⟨bs, hbs, hb⟩ := hbind N s vs hB D
  have hkind' : ∀ n, ∀ x ∈ bs, fd.scope.names.lookup x.1 = some .local ∨ (fd.scope.names.lookup x.1 = some .cell ∧ ((cellsFrom n fd.scope.names []).lookup x.1).isSome = true) := by
    intro n x hx
    have : x.1 ∈ bs.map (·.1) := List.mem_map_of_mem hx
    rw [hb.names] at this
    obtain ⟨p, hp, e⟩ := List.mem_map.mp this
    rw [← e]; exact hkind n p hp
  refine wpAny_call (codeAny_call_function hroom (hB _ _ ho) hd G.noco G.nogen G.body (G.code.keeps hB) (hbs _ _ _ _ ?_))
  rw [G.clo]
  refine wpAny_newFunctionEnv_cells G.kind (hkind' _) fun env he s1 x => ?_
  have he' : env = callEnvC fd s.heap.objs.size a := he
  obtain ⟨F1, k1, hw⟩ := InCallC.fm (B := c.B) (H := c.H) hB L ⟨G.glob, G.blt, G.kind⟩ hb hnd he' (fun x hx => by rw [he']; exact hkind' _ x hx) x
  refine ⟨(G.nolim.keeps hB).keeps k1.get, codeAny_func ?_⟩
  subst he'
  refine hrun s.heap.objs.size N s1 _ _ F1 fun fl f ρ' h' tk p F' st fd' => ?_
  have kf : Ke s (At s1 h' tk) := by
    obtain ⟨h1, t1, rfl, hk⟩ := k1.at
    refine ⟨h', tk, rfl, fun b o e => st.1 b o (fun w => ?_) (hk b o e)⟩
    rw [hw b w] at e; cases e
  have up : ∀ q o, kn N (callEnvC fd s.heap.objs.size a) ρ' h' q o → knM N h' q o := fun q o x => ⟨x.1, fun m => x.2 (.inl m)⟩
  rcases p with rfl | ⟨rfl, rfl⟩
  · obtain ⟨v, rfl, hv⟩ := fd'
    exact hQ v _ kf (hv.mono up)
  · cases fd'
    exact hQ .none _ kf rfl
end

section 
open PySem PySem.W PyProof.Rows
set_option linter.unusedVariables false

variable {c : Cx} {env : Env} {ρ : St}

/-- one place outside of what may be written has changed (or gone) -/
theorem Fm.but {H : Key → Int} {B : Heap} {env : Env} {M M' : Addr → Prop} {ρ : St} {s : Shared} (F : Fm H B env M' ρ s) {I : Addr} (hI : M' I) (hw : ¬ Wr env ρ I) (hB : B.get? I = none)
    {h' : Heap} {tk : Nat} (hk : ∀ b o, b ≠ I → s.heap.get? b = some o → h'.get? b = some o) (hM : ∀ a, M a → M' a) (hl : M I → ∃ o, h'.get? I = some o) : Fm H B env M ρ (At s h' tk) := by
  have nI : ∀ b, Wr env ρ b → b ≠ I := fun b q e => hw (e ▸ q)
  have hg : ∀ a o, kn M' env ρ s.heap a o → kn M env ρ h' a o := fun a o x =>
    ⟨hk a o (fun e => x.2 (.inl (e ▸ hI))) x.1, fun q => x.2 (q.imp (hM a) id)⟩
  exact {
    ok := F.ok
    base := fun b o e => hk b o (fun q => by rw [q, hB] at e; cases e) (F.base b o e)
    newW := F.newW
    live := fun a q => by
      by_cases ha : a = I
      · subst ha; exact hl q
      · obtain ⟨o, e⟩ := F.live a (hM a q); exact ⟨o, hk _ _ ha e⟩
    ns := let ⟨m, hn⟩ := F.ns; ⟨m, hn.at' fun o e => hk _ o (nI _ (.inl rfl)) e⟩
    cells := fun x k e => by
      obtain ⟨v, o, ho, hd⟩ := F.cells x k e
      exact ⟨v, o, hk _ _ (nI _ (.inr (.inl ⟨x, e⟩))) ho, hd⟩
    vars := fun x d e => by
      obtain ⟨v, hv, hd⟩ := F.vars x d e
      refine ⟨v, ?_, hd.mono hg⟩
      rcases hv with ⟨q, m, hn, hm⟩ | ⟨q, k, hc, o, ho, hdd⟩
      · exact .inl ⟨q, m, hn.at' fun o e => hk _ o (nI _ (.inl rfl)) e, hm⟩
      · exact .inr ⟨q, k, hc, o, hk _ _ (nI _ (.inr (.inl ⟨_, hc⟩))) ho, hdd⟩
    owns := fun a od e => (F.owns a od e).mono hg fun o e' => hk _ o (nI _ (.inr (.inr (List.mem_map_of_mem e)))) e'
    ownsN := F.ownsN
    ownsL := F.ownsL
    ownsM := fun a q m => F.ownsM a q (hM a m) }

/-- more places set aside: fresh ones -/
theorem Fm.moreM {H : Key → Int} {B : Heap} {env : Env} {M M' : Addr → Prop} {ρ : St} {s s' : Shared} (F : Fm H B env M ρ s) (k : Ke s s') (hM : ∀ a, M' a → M a ∨ (s.heap.get? a = none ∧ ∃ o, s'.heap.get? a = some o)) : Fm H B env M' ρ s' := by
  have hg : ∀ a o, kn M env ρ s.heap a o → kn M' env ρ s'.heap a o := fun a o x => ⟨k.get _ _ x.1, fun q => by
    rcases q with q | q
    · rcases hM a q with q | q
      · exact x.2 (.inl q)
      · rw [x.1] at q; cases q.1
    · exact x.2 (.inr q)⟩
  have F' := F.keeps k
  exact {
    ok := F.ok
    base := F'.base
    newW := F.newW
    live := fun a q => (hM a q).elim (fun q => F'.live a q) fun q => q.2
    ns := F'.ns
    cells := F'.cells
    vars := fun x d e => by
      obtain ⟨v, hv, hd⟩ := F.vars x d e
      exact ⟨v, hv.keeps k.get, hd.mono hg⟩
    owns := fun a od e => (F.owns a od e).mono hg fun o e' => k.get _ _ e'
    ownsN := F.ownsN
    ownsL := F.ownsL
    ownsM := fun a q m => (hM a m).elim (F.ownsM a q) fun x => by
      obtain ⟨⟨a', od⟩, hm, rfl⟩ := List.mem_map.mp q
      obtain ⟨o, e⟩ := (F.owns _ _ hm).alive
      rw [x.1] at e; cases e }

/-- an iterator's place, what is to come, and how far it is -/
def IterAt (c : Cx) (I : Addr) (ds : List D) (N : Addr → Prop) (i : Nat) (h : Heap) : Prop :=
  ∃ fp n P St, Walks c.prog c.w c.A I fp [I] n P St ∧ n = ds.length ∧ n ≤ sizeLine ∧ St i h ∧ (∀ b ∈ fp, b = I ∨ ¬ N b) ∧ (∀ b ∈ fp, ∃ o, h.get? b = some o) ∧
    (∀ j h, St j h → ∃ o, h.get? I = some o) ∧ (∀ j v d, P j v → ds[j]? = some d → Den (knM N h) d v)

theorem IterAt.move {I : Addr} {ds : List D} {N N' : Addr → Prop} {i : Nat} {h h' : Heap} (x : IterAt c I ds N i h) (hk : ∀ b o, b = I ∨ ¬ N b → h.get? b = some o → h'.get? b = some o) (hN : ∀ b, N' b → N b ∨ h.get? b = none) : IterAt c I ds N' i h' := by
  obtain ⟨fp, n, P, St, W, hn, hz, hst, hfp, hal, hI, hD⟩ := x
  refine ⟨fp, n, P, St, W, hn, hz, W.frame i h h' hst fun b hb o e => hk b o (hfp b hb) e, fun b hb => ?_, fun b hb => ?_, hI, fun j v d hP hd => (hD j v d hP hd).mono ?_⟩
  · rcases hfp b hb with e | e
    · exact .inl e
    · refine .inr fun q => ?_
      rcases hN b q with q | q
      · exact e q
      · obtain ⟨o, ho⟩ := hal b hb; rw [ho] at q; cases q
  · obtain ⟨o, ho⟩ := hal b hb; exact ⟨o, hk b o (hfp b hb) ho⟩
  · exact knM.mono (fun a q => (hN a q)) fun b o hb e => hk b o (.inr hb) e

theorem IterAt.item {I : Addr} {ds : List D} {N : Addr → Prop} {i : Nat} {s : Shared} {d : D} {Q : Option Value → Shared → Prop} {E} (x : IterAt c I ds N i s.heap) (hNI : N I) (hd : ds[i]? = some d)
    (hQ : ∀ v h' tk, Den (knM N h') d v → IterAt c I ds N (i + 1) h' → (∀ b o, b ≠ I → s.heap.get? b = some o → h'.get? b = some o) → (∃ o, h'.get? I = some o) → Q (some v) (At s h' tk)) : wpAny (model c.prog c.w) c.A (pyNext (.ref I)) Q E s := by
  obtain ⟨fp, n, P, St, W, hn, hz, hst, hfp, hal, hI, hD⟩ := x
  have hlt : i < n := by rw [hn]; exact (List.getElem?_eq_some_iff.mp hd).1
  refine W.item i s Q E hlt hst fun v h' tk hP hst' hk => ?_
  have hk' : ∀ b o, b ≠ I → s.heap.get? b = some o → h'.get? b = some o := fun b o hb e => hk b o (by simpa using hb) e
  have hg : ∀ a o, knM N s.heap a o → knM N h' a o := fun a o x => ⟨hk' a o (fun e => x.2 (e ▸ hNI)) x.1, x.2⟩
  refine hQ v h' tk ((hD i v d hP hd).mono hg) ⟨fp, n, P, St, W, hn, hz, hst', hfp, fun b hb => ?_, hI, fun j v d hP hd => (hD j v d hP hd).mono hg⟩ hk' (hI _ _ hst')
  by_cases e : b = I
  · subst e; exact hI _ _ hst'
  · obtain ⟨o, ho⟩ := hal b hb; exact ⟨o, hk' b o e ho⟩

theorem IterAt.done {I : Addr} {ds : List D} {N : Addr → Prop} {s : Shared} {Q : Option Value → Shared → Prop} {E} (x : IterAt c I ds N ds.length s.heap)
    (hQ : ∀ h' tk, (∀ b o, b ≠ I → s.heap.get? b = some o → h'.get? b = some o) → Q none (At s h' tk)) : wpAny (model c.prog c.w) c.A (pyNext (.ref I)) Q E s := by
  obtain ⟨fp, n, P, St, W, hn, hz, hst, hfp, hal, hI, hD⟩ := x
  subst hn
  exact W.done s Q E hst fun h' tk hk => hQ h' tk fun b o hb e => hk b o (by simpa using hb) e

theorem IterAt.self {I : Addr} {ds : List D} {N : Addr → Prop} {i : Nat} {s : Shared} {Q : Value → Shared → Prop} {E} (x : IterAt c I ds N i s.heap) (hQ : Q (.ref I) s) : wpAny (model c.prog c.w) c.A (pyIter (.ref I)) Q E s := by
  obtain ⟨fp, n, P, St, W, hn, hz, hst, hfp, hal, hI, hD⟩ := x
  exact W.self i s Q E hst hQ

def IterOf (c : Cx) (env : Env) (ρ : St) (iter : Expr) (ds : List D) : Prop :=
  ∀ (M : Addr → Prop) (s : Shared) (Q : Value → Shared → Prop) (E), c.Fm env M ρ s →
    (∀ I s', Ke s s' → s.heap.get? I = none → (∃ o, s'.heap.get? I = some o) → IterAt c I ds (MW (fun a => a = I ∨ M a) env ρ) 0 s'.heap → Q (.ref I) s') →
    wpAny (model c.prog c.w) c.A (eval iter env) (fun x s₁ => wpAny (model c.prog c.w) c.A (pyIter x) Q E s₁) E s

theorem denL_get {g : Kn} : ∀ {ds : List D} {vs : List Value}, DenL g ds vs → ∀ {j : Nat} {v : Value} {d : D}, vs[j]? = some v → ds[j]? = some d → Den g d v
  | [], _, _, j, v, d, _, hd => by simp at hd
  | e :: es, _, h, j, v, d, hv, hd => by
    simp only [DenL] at h
    obtain ⟨u, r, rfl, h1, h2⟩ := h
    cases j with
    | zero =>
      simp only [List.getElem?_cons_zero, Option.some.injEq] at hv hd
      subst hv; subst hd; exact h1
    | succ j =>
      simp only [List.getElem?_cons_succ] at hv hd
      exact denL_get h2 hv hd

theorem it_list {iter : Expr} {ds : List D} (hh : c.A.handled = none) (h : Evals c env ρ iter (.lst ds)) (hz : ds.length ≤ sizeLine) : IterOf c env ρ iter ds := by
  intro M s Q E F hQ
  refine h M s _ E F fun v s1 k1 D1 => ?_
  simp only [Den] at D1
  obtain ⟨a, vs, n, rfl, ⟨ho, hno⟩, hl⟩ := D1
  have hlen : vs.size = ds.length := by rw [← Array.length_toList]; exact denL_length hl
  have F1 := F.keeps k1
  refine wpAny_pyIter_list ⟨_, ho, rfl, n, rfl⟩ ?_
  have hne : a ≠ s1.heap.objs.size := Nat.ne_of_lt (Heap.lt_size ho)
  have k2 : Ke s1 { s1 with heap := s1.heap.push { cls := .type "list_iterator", data := .fields #[.ref a, .int 0 0] } } := .push s1 _
  have fresh : s.heap.get? s1.heap.objs.size = none := by
    cases e : s.heap.get? s1.heap.objs.size with
    | none => rfl
    | some o => exact absurd (Heap.lt_size (k1.get _ _ e)) (Nat.lt_irrefl _)
  have pushed : (s1.heap.push { cls := .type "list_iterator", data := .fields #[.ref a, .int 0 0] }).get? s1.heap.objs.size = some { cls := .type "list_iterator", data := .fields #[.ref a, .int 0 0] } := Heap.get?_push_size _ rfl
  refine hQ _ _ (k1.trans k2) fresh ⟨_, pushed⟩ ?_
  refine ⟨_, _, _, _, Walks.list hh s1.heap.objs.size a hne vs, hlen, by rw [hlen]; exact hz, ⟨⟨_, pushed, rfl, rfl⟩, _, Heap.get?_push_of_some _ ho, rfl, n, rfl⟩, fun b hb => ?_, fun b hb => ?_, fun j h st => ?_, fun j v d hv hd' => ?_⟩
  · rcases List.mem_cons.mp hb with rfl | hb
    · exact .inl rfl
    · rcases List.mem_cons.mp hb with rfl | hb
      · refine .inr ?_
        rintro ((q | q) | q)
        · exact hne q
        · exact hno (.inl q)
        · exact hno (.inr q)
      · cases hb
  · rcases List.mem_cons.mp hb with rfl | hb
    · exact ⟨_, pushed⟩
    · rcases List.mem_cons.mp hb with rfl | hb
      · exact ⟨_, Heap.get?_push_of_some _ ho⟩
      · cases hb
  · obtain ⟨⟨oi, hoi, _⟩, _⟩ := st; exact ⟨oi, hoi⟩
  · refine (denL_get hl (by simpa using hv) hd').mono ?_
    rintro q o' ⟨e, hn⟩
    refine ⟨k2.get _ _ e, ?_⟩
    rintro ((w | w) | w)
    · have := Heap.lt_size e; rw [w] at this; exact Nat.lt_irrefl _ this
    · exact hn (.inl w)
    · exact hn (.inr w)

/-- 0 .. n - 1 -/
def rangeD (n : Nat) : List D := (List.range n).map fun i : Nat => D.int (Int.ofNat i)

theorem it_range {e : Expr} {np pos : Pos} {k : Int} (hh : c.A.handled = none) (hG : GName c.B ("range" : Str) (.type "range")) (h : Evals c env ρ e (.int k)) (hk0 : 0 ≤ k) (hk : k ≤ 2 ^ 20)
    (hx : env.kindOf ("range" : Str) = some .globalImplicit) (hs : backTo pos (starEach [e] env) = [(false, eval e env)] := by with_unfolding_all rfl) :
    IterOf c env ρ (.Call (.Name ("range" : Str) np) [e] [] pos) (rangeD k.toNat) := by
  intro M s Q E F hQ
  refine wpAny_Call_NameR (ev_global hG F hx (by decide) ?_)
  rw [hs]
  refine PySem.callWith_type rfl (Calls.evalArgs_plain (Calls.spliced_cons (h M s _ E F fun v s1 k1 D1 => Calls.spliced_nil ?_)))
  obtain ⟨t, rfl⟩ := D1
  refine call_range_1 ?_
  refine wpAny_pyIter_range (IsRange.new ..) (small_one (by decide) (by decide) (by omega) (by omega)) ?_
  have hsz : Builtin.Range.rangeSize 0 k 1 = (k.toNat : Int) := by rw [rangeSize_one]; split <;> omega
  have kk : ∀ (o o' : Obj) (t : Nat), Ke s1 { s1 with heap := (s1.heap.push o).push o', toks := t } := fun o o' t => ⟨_, _, rfl, fun b x e => Heap.get?_push_of_some _ (Heap.get?_push_of_some _ e)⟩
  refine hQ _ _ (k1.trans (kk _ _ _)) ?_ ⟨_, Heap.get?_push_size _ rfl⟩ ?_
  · cases e : s.heap.get? (s1.heap.push _).objs.size with
    | none => rfl
    | some o => have := Heap.lt_size (k1.get _ _ e); rw [Heap.size_push] at this; exact absurd this (Nat.not_lt.mpr (Nat.le_succ _))
  · refine ⟨_, _, _, _, Walks.range hh _ 0 1 k.toNat, by simp [rangeD], ?_, ?_, fun b hb => ?_, fun b hb => ?_, fun j h st => ?_, fun j v d hv hd' => ?_⟩
    · have : k.toNat ≤ 2 ^ 20 := by omega
      exact Nat.le_trans this (by decide)
    · have e1 : (0 + ((0 : Nat) : Int) * 1) = 0 := by simp
      have e2 : ((k.toNat : Int) - ((0 : Nat) : Int)) = Builtin.Range.rangeSize 0 k 1 := by rw [hsz]; simp
      rw [e1, e2]
      exact Heap.get?_push_size _ rfl
    · rcases List.mem_cons.mp hb with rfl | hb
      · exact .inl rfl
      · cases hb
    · rcases List.mem_cons.mp hb with rfl | hb
      · exact ⟨_, Heap.get?_push_size _ rfl⟩
      · cases hb
    · exact ⟨_, st⟩
    · obtain ⟨t', rfl⟩ := hv
      rw [rangeD, List.getElem?_map] at hd'
      cases hj : (List.range k.toNat)[j]? with
      | none => rw [hj] at hd'; cases hd'
      | some i =>
        rw [hj] at hd'; cases hd'
        have : i = j := by
          have := List.getElem?_eq_some_iff.mp hj
          obtain ⟨h1, h2⟩ := this
          rw [List.getElem_range] at h2; exact h2.symm
        subst this
        exact ⟨t', by simp⟩

theorem exec_for {x : String} {px pos : Pos} {iter : Expr} {body : List Stmt} {ds : List D} {Inv : Nat → St → Prop} {Φ : Post} (hit : IterOf c env ρ iter ds) (hkd : Kind env x) (h0 : Inv 0 ρ)
    (hbody : ∀ i d ρ', ds[i]? = some d → Inv i ρ' → Runs c env (ρ'.set x d) body (fun fl ρ'' => match fl with | .next | .cont => Inv (i + 1) ρ'' | .brk => Φ .next ρ'' | .ret r => Φ (.ret r) ρ''))
    (hend : ∀ ρ', Inv ds.length ρ' → Φ .next ρ') (hs : ∀ x, foldedSetIterable iter env x = pure x := by intro _; with_unfolding_all rfl) : Exec c env ρ (.For (.Name (Str.ofString x) px) iter body [] pos) Φ := by
  intro M s Q E F hQ
  refine wpAny_For (hit M s _ E F fun I s2 k2 hfI hlI x2 => ?_) hs
  have F2 : c.Fm env (fun a => a = I ∨ M a) ρ s2 := F.moreM k2 fun a q => by
    rcases q with rfl | q
    · exact .inr ⟨hfI, hlI⟩
    · exact .inl q
  have hBI : c.B.get? I = none := by
    cases e : c.B.get? I with
    | none => rfl
    | some o => have := F.base _ _ e; rw [hfI] at this; cases this
  have hMI : ¬ M I := fun q => by obtain ⟨o, e⟩ := F.live I q; rw [hfI] at e; cases e
  have hWI : ¬ Wr env ρ I := fun q => F.fresh hfI (.inr q)
  have st2 := Step.ke (env := env) (ρ := ρ) k2
  obtain ⟨h2, t2, rfl, hk2⟩ := k2.at
  refine codeAny_forLoop_any (fun k s' => ∃ i ρ' h' tk, k + i = ds.length + 1 ∧ i ≤ ds.length ∧ s' = At s h' tk ∧ Inv i ρ' ∧ c.Fm env (fun a => a = I ∨ M a) ρ' (At s h' tk) ∧ Step env ρ s.heap ρ' h' ∧
    IterAt c I ds (MW (fun a => a = I ∨ M a) env ρ') i h' ∧ ¬ Wr env ρ' I) ?_ (ds.length + 1) ⟨0, ρ, h2, t2, rfl, Nat.zero_le _, rfl, h0, F2, st2, x2, hWI⟩
  rintro k s' ⟨i, ρ', h', tk, hki, hi, rfl, hInv, F', st', x', hW'⟩
  by_cases hlt : i < ds.length
  · have hd : ds[i]? = some ds[i] := List.getElem?_eq_getElem hlt
    refine IterAt.item x' (.inl (.inl rfl)) hd fun v h3 t3 D3 x3 hk3 hl3 => ?_
    have F3 : c.Fm env (fun a => a = I ∨ M a) ρ' (At (At s h' tk) h3 t3) := F'.but (I := I) (.inl rfl) hW' hBI hk3 (fun a q => q) fun _ => hl3
    have st3 : Step env ρ s.heap ρ' h3 := by
      refine ⟨fun b o hb e => hk3 b o (fun q => ?_) (st'.1 b o hb e), fun b q => st'.2 b q⟩
      rw [q, hfI] at e; cases e
    refine wpAny_pure (assign_Name (store_name F3 hkd D3 fun h4 t4 F4 st4 => ?_))
    have hb := hbody i _ ρ' hd hInv
    refine hb _ _ _ _ F4 fun fl f ρ5 h5 t5 p F5 st5 fd5 => ?_
    have st35 : Step env ρ' h3 ρ5 h5 := st4.trans st5
    have stA : Step env ρ s.heap ρ5 h5 := st3.trans st35
    have back : c.Fm env M ρ5 (At s h5 t5) := F5.lessM fun a q => .inr q
    have kn5 : ∀ a o, kn (fun a => a = I ∨ M a) env ρ5 h5 a o → kn M env ρ5 h5 a o := fun a o x => ⟨x.1, fun q => x.2 (q.imp .inr id)⟩
    have again : Inv (i + 1) ρ5 → ∃ m, m < k ∧ ∃ i ρ' h' tk, m + i = ds.length + 1 ∧ i ≤ ds.length ∧ At (At s h' tk) h5 t5 = At s h' tk ∧ Inv i ρ' ∧ c.Fm env (fun a => a = I ∨ M a) ρ' (At s h' tk) ∧ Step env ρ s.heap ρ' h' ∧
        IterAt c I ds (MW (fun a => a = I ∨ M a) env ρ') i h' ∧ ¬ Wr env ρ' I := fun hI5 => by
      refine ⟨k - 1, by omega, i + 1, ρ5, h5, t5, by omega, hlt, rfl, hI5, F5, stA, ?_, ?_⟩
      · refine x3.move (fun b o hb e => st35.1 b o (fun q => ?_) e) fun b q => ?_
        · rcases hb with rfl | hb
          · exact hW' q
          · exact hb (.inr q)
        · rcases q with q | q
          · exact .inl (.inl q)
          · exact (st35.2 b q).imp .inr id
      · intro q
        rcases st35.2 I q with q | q
        · exact hW' q
        · obtain ⟨o, e⟩ := hl3; rw [e] at q; cases q
    cases fl with
    | next => cases fd5; exact again p
    | cont => cases fd5; exact again p
    | brk => cases fd5; exact hQ .next .next ρ5 h5 t5 p back stA rfl
    | ret d => obtain ⟨v', rfl, hv'⟩ := fd5; exact hQ (.ret d) _ ρ5 h5 t5 p back stA ⟨v', rfl, hv'.mono kn5⟩
  · have he : i = ds.length := by omega
    subst he
    refine IterAt.done x' fun h3 t3 hk3 => ?_
    have F3 : c.Fm env M ρ' (At (At s h' tk) h3 t3) := F'.but (I := I) (.inl rfl) hW' hBI hk3 (fun a q => .inr q) fun q => absurd q hMI
    have st3 : Step env ρ s.heap ρ' h3 := by
      refine ⟨fun b o hb e => hk3 b o (fun q => ?_) (st'.1 b o hb e), fun b q => st'.2 b q⟩
      rw [q, hfI] at e; cases e
    exact wpAny_execs_nil (hQ .next .next ρ' h3 t3 (hend ρ' hInv) F3 st3 rfl)
end

section 
open PySem PySem.W PyProof.Rows
set_option linter.unusedVariables false

variable {c : Cx} {env : Env} {ρ : St}

theorem cellsFrom_app : ∀ (names : List (Str × NameKind)) (n : Nat) (acc : List (Str × Addr)), cellsFrom n names acc = cellsFrom n names [] ++ acc
  | [], n, acc => by simp [cellsFrom]
  | (x, k) :: r, n, acc => by
    unfold cellsFrom
    split
    · rw [cellsFrom_app r (n + 1) ((x, n) :: acc), cellsFrom_app r (n + 1) [(x, n)]]; simp
    · exact cellsFrom_app r n acc

theorem lookup_app {α : Type} (x : Str) : ∀ (l r : List (Str × α)), (l ++ r).lookup x = (l.lookup x).or (r.lookup x)
  | [], r => by simp
  | (y, v) :: l, r => by
    rw [List.cons_append, List.lookup_cons, List.lookup_cons]
    cases x == y with
    | true => simp
    | false => exact lookup_app x l r

def compEnvG (scope : Scope) (cl : List (Str × Addr)) (C : Addr) (env : Env) : Env :=
  { scope := relabel scope env, locals := C, globals := env.globals, cells := cellsFrom (C + 1) scope.names cl, qual := env.qual, func := none, code := env.code, frame := env.frame, builtins := env.builtins }

theorem newComp {scope : Scope} {globals : Addr} {cl : List (Str × Addr)} {qual : Str} {s : Shared} {Q : Env → Shared → Prop} {E : Value → Shared → Prop} {M : Model} {A : Around}
    (hQ : Q { scope, locals := s.heap.objs.size, globals, cells := cellsFrom (s.heap.objs.size + 1) scope.names cl, qual, func := none, code := env.code, frame := env.frame, builtins := env.builtins }
      { s with heap := pushCells (s.heap.push { cls := .type "dict", data := .dict #[] }) scope.names }) :
    wpAny M A (newFunctionEnv scope globals cl [] qual none .none (some env)) Q E s := by
  simp only [newFunctionEnv, Option.isSome_some, if_true]
  refine wpAny_bind (wpAny_alloc ?_)
  refine wpAny_bind (wpAny_layCells _ (fun name kind cells => by cases hkc : kind == NameKind.cell <;> simp [hkc]) _ _ _ _ ?_)
  rw [show ({ s with heap := s.heap.push { cls := .type "dict", data := .dict #[] } } : Shared).heap.objs.size = s.heap.objs.size + 1 from Heap.size_push ..]
  exact wpAny_bind (wpAny_pure (wpAny_pure hQ))

def TestsAll (c : Cx) (env : Env) (ρ : St) (ifs : List Expr) (b : Bool) : Prop :=
  ∀ (M : Addr → Prop) (s : Shared) (Q : Bool → Shared → Prop) (E), c.Fm env M ρ s → (∀ s', Ke s s' → Q b s') →
    wpAny (model c.prog c.w) c.A (forIn ifs true fun t r => if r = true then do let ok ← PySem.isTrue t env (eval t env); pure (ForInStep.yield ok) else pure (ForInStep.yield r)) Q E s

theorem ta_nil : TestsAll c env ρ [] true := fun M s Q E F hQ => by
  rw [List.forIn_nil]; exact wpAny_pure (hQ s (.refl s))
theorem ta_one {t : Expr} {b : Bool} (h : Tests c env ρ t b) : TestsAll c env ρ [t] b := fun M s Q E F hQ => by
  rw [List.forIn_cons]
  refine wpAny_bind ?_
  rw [if_pos rfl]
  refine wpAny_bind (h M s _ E F fun s' k => wpAny_pure ?_)
  show wpAny _ _ (forIn [] b _) _ _ _
  rw [List.forIn_nil]
  exact wpAny_pure (hQ s' k)

/-- what a comprehension's block sees -/
structure CompOk (env : Env) (ρ : St) (scope : Scope) (cl : List (Str × Addr)) (x : String) (ρc : List (String × D)) : Prop where
  clos : closureFor scope env = pure cl
  kind : scope.kind = .function
  names : ∀ y ∈ scope.names, y.2 = .local → scope.names.lookup y.1 = some .local
  sub : ∀ n k, cl.lookup n = some k → env.cells.lookup n = some k
  own : cl.lookup (Str.ofString x) = none
  tgt : scope.names.lookup (Str.ofString x) = some .local ∨ (scope.names.lookup (Str.ofString x) = some .cell ∧ ((cellsFrom 0 scope.names []).lookup (Str.ofString x)).isSome = true)
  vars : ∀ y d, ρc.lookup y = some d → y ≠ x ∧ ρ.vars.lookup y = some d ∧ env.kindOf (Str.ofString y) ≠ some .local ∧ (cl.lookup (Str.ofString y)).isSome = true ∧
    (cellsFrom 0 scope.names []).lookup (Str.ofString y) = none ∧ ((relabel scope env).names.lookup (Str.ofString y) = some .cell ∨ (relabel scope env).names.lookup (Str.ofString y) = some .free)

theorem relabel_cell {env : Env} : ∀ {names : List (Str × NameKind)} {x : Str}, names.lookup x = some .cell →
    (names.map fun (n, k) => if (k == NameKind.free && env.scope.kind == .function && env.kindOf n == some .cell) then (n, NameKind.cell) else (n, k)).lookup x = some .cell
  | [], _, h => by simp at h
  | (n, k) :: r, x, h => by
    have ih := @relabel_cell env r x
    show List.lookup x ((if (k == NameKind.free && env.scope.kind == .function && env.kindOf n == some .cell) = true then (n, NameKind.cell) else (n, k)) :: _) = _
    cases hx : x == n with
    | true =>
      simp only [List.lookup_cons, hx] at h
      cases h
      simp [List.lookup_cons, hx]
    | false =>
      simp only [List.lookup_cons, hx] at h
      by_cases hc : (k == NameKind.free && env.scope.kind == .function && env.kindOf n == some .cell) = true
      · rw [if_pos hc]; simp only [List.lookup_cons, hx]; exact ih h
      · rw [if_neg hc]; simp only [List.lookup_cons, hx]; exact ih h

theorem cellsFrom_isSome (x : Str) : ∀ (names : List (Str × NameKind)) (n m : Nat) (acc acc' : List (Str × Addr)), (acc.lookup x).isSome = (acc'.lookup x).isSome → ((cellsFrom n names acc).lookup x).isSome = ((cellsFrom m names acc').lookup x).isSome
  | [], _, _, _, _, h => h
  | (y, k) :: r, n, m, acc, acc', h => by
    unfold cellsFrom
    split
    · refine cellsFrom_isSome x r (n + 1) (m + 1) _ _ ?_
      rw [List.lookup_cons, List.lookup_cons]
      cases x == y <;> simp [h]
    · exact cellsFrom_isSome x r n m acc acc' h

theorem pushCells_size : ∀ (names : List (Str × NameKind)) (h : Heap), h.objs.size ≤ (pushCells h names).objs.size
  | [], _ => Nat.le_refl _
  | (_, k) :: r, h => by
    unfold pushCells
    split
    · exact Nat.le_trans (by rw [Heap.size_push]; exact Nat.le_succ _) (pushCells_size r _)
    · exact pushCells_size r h

theorem comp_core {elt iter : Expr} {x : String} {px : Pos} {ifs : List Expr} {scope : Scope} {cl : List (Str × Addr)} {pos : Pos} {ds : List D} {p : D → Bool} {f : D → D} {ρc : List (String × D)} {M : Addr → Prop} {s : Shared} {E}
    {RR : Value → Addr → Result → Shared → Prop}
    (hit : IterOf c env ρ iter ds) (ok : CompOk env ρ scope cl x ρc) (hz : ds.length ≤ sizeLine)
    (htest : ∀ C d, d ∈ ds → TestsAll c (compEnvG scope cl C env) ⟨upd x d ρc, []⟩ ifs (p d))
    (helt : ∀ C d, d ∈ ds → p d = true → Evals c (compEnvG scope cl C env) ⟨upd x d ρc, []⟩ elt (f d))
    (F : c.Fm env M ρ s)
    (hRR : ∀ a C s', Ke s s' → s.heap.get? C = none → (∃ m, s'.heap.Ns C m) → c.Fm env (fun b => b = C ∨ M b) ρ s' → Den (kn (fun b => b = C ∨ M b) env ρ s'.heap) (.lst ((ds.filter p).map f)) (.ref a) → RR (.ref a) C (.ok .next) s') :
    wpAny (model c.prog c.w) c.A (eval iter env) (fun v s₁ => wpAny (model c.prog c.w) c.A (pyIter v) (fun it s₂ => wpAny (model c.prog c.w) c.A (newList []) (fun acc s₃ =>
      wpAny (model c.prog c.w) c.A (newFunctionEnv scope env.globals cl [] env.qual none .none (some env)) (fun cenv s₄ =>
        codeAny (model c.prog c.w) c.A (.compStart (.ListComp elt [⟨.Name (Str.ofString x) px, iter, ifs, 0⟩] scope pos) 0 it acc { cenv with scope := relabel scope env }) (RR acc cenv.locals) s₄) E s₃) E s₂) E s₁) E s := by
  refine hit M s _ E F fun I s2 k2 hfI hlI x2 => ?_
  refine wpAny_newList (newComp ?_)
  have F2 : c.Fm env (fun a => a = I ∨ M a) ρ s2 := F.moreM k2 fun a q => by
    rcases q with rfl | q
    · exact .inr ⟨hfI, hlI⟩
    · exact .inl q
  have hBI : c.B.get? I = none := by
    cases e : c.B.get? I with
    | none => rfl
    | some o => have := F.base _ _ e; rw [hfI] at this; cases this
  dsimp only
  generalize hs3 : s2.heap.push { cls := .type "list", dict := none, data := .seq ([] : List Value).toArray } = h3
  have k3 : ∀ b o, s2.heap.get? b = some o → h3.get? b = some o := fun b o e => hs3 ▸ Heap.get?_push_of_some _ e
  have hD3 : h3.PlainList s2.heap.objs.size #[] := ⟨_, hs3 ▸ Heap.get?_push_size _ rfl⟩
  have hsz3 : h3.objs.size = s2.heap.objs.size + 1 := by rw [← hs3, Heap.size_push]
  generalize hDa : s2.heap.objs.size = Da at *
  generalize hC : h3.objs.size = C at *
  have noneOf : ∀ (h : Heap) b, h.objs.size ≤ b → h.get? b = none := fun h b hb => by
    cases e : h.get? b with
    | none => rfl
    | some o => exact absurd (Heap.lt_size e) (Nat.not_lt.mpr hb)
  have hs2D : s2.heap.get? Da = none := noneOf _ _ (by omega)
  have h3C : ∀ b, C ≤ b → h3.get? b = none := fun b hb => noneOf _ _ (by omega)
  have hsD : s.heap.get? Da = none := by
    cases e : s.heap.get? Da with
    | none => rfl
    | some o => rw [k2.get _ _ e] at hs2D; cases hs2D
  have hs_of : ∀ b o, s.heap.get? b = some o → h3.get? b = some o := fun b o e => k3 b o (k2.get _ _ e)
  have hsC : ∀ b, C ≤ b → s.heap.get? b = none := fun b hb => by
    cases e : s.heap.get? b with
    | none => rfl
    | some o => have := h3C b hb; rw [hs_of _ _ e] at this; cases this
  -- the block's places
  have okc := cellsFrom_ok scope.names (h3.push { cls := .type "dict", data := .dict #[] }) (C + 1) [] ⟨fun _ _ hm => (nomatch hm), List.Pairwise.nil⟩ (by rw [Heap.size_push, hC]; exact Nat.le_refl _)
  rw [Heap.size_push, hC] at okc
  generalize hh4 : pushCells (h3.push { cls := .type "dict", data := .dict #[] }) scope.names = h4 at *
  have k4 : ∀ b o, h3.get? b = some o → h4.get? b = some o := fun b o e => hh4 ▸ pushCells_keeps _ _ b o (Heap.get?_push_of_some _ e)
  have hNs4 : h4.Ns C fun _ => none := by
    rw [← hh4, ← hC]; exact (Heap.Ns.new h3 (.type "dict")).keeps (pushCells_keeps _ _)
  have look : ∀ n k, (cellsFrom (C + 1) scope.names cl).lookup n = some k → ((cellsFrom (C + 1) scope.names []).lookup n = some k ∧ C + 1 ≤ k) ∨ cl.lookup n = some k := by
    intro n k e
    rw [cellsFrom_app, lookup_app] at e
    cases e' : (cellsFrom (C + 1) scope.names []).lookup n with
    | some k' => rw [e'] at e; cases e; exact .inl ⟨rfl, (okc.empty n _ (mem_of_lookup e')).2⟩
    | none => rw [e'] at e; exact .inr e
  have hcl : ∀ n k, cl.lookup n = some k → ∃ o, s.heap.get? k = some o := fun n k e => by
    obtain ⟨v, o, ho, _⟩ := F.cells n k (ok.sub n k e); exact ⟨o, ho⟩
  have notIn : ∀ k, (∃ o, s.heap.get? k = some o) → k ≠ I ∧ k ≠ Da ∧ ¬ C ≤ k := fun k ⟨o, e⟩ =>
    And.intro (fun q => by rw [q] at e; rw [hfI] at e; cases e) (And.intro (fun q => by rw [q] at e; rw [hsD] at e; cases e) (fun q => by have h := hsC k q; rw [e] at h; cases h))
  have hIC : ¬ C ≤ I := fun q => by obtain ⟨o, e⟩ := hlI; have := k3 _ _ e; rw [h3C I q] at this; cases this
  have hID : I ≠ Da := fun q => by obtain ⟨o, e⟩ := hlI; rw [q, hs2D] at e; cases e
  have hDC : ¬ C ≤ Da := by omega
  -- the frame facts of the block
  let cenv := compEnvG scope cl C env
  let M' : Addr → Prop := fun a => a = I ∨ a = Da ∨ MW M env ρ a
  have mk : ∀ (h : Heap) (tk : Nat), (∀ b o, b ≠ I → b ≠ Da → h3.get? b = some o → h.get? b = some o) → (∃ o, h.get? I = some o) → (∃ o, h.get? Da = some o) → (∃ m, h.Ns C m) →
      (∀ n k, (cellsFrom (C + 1) scope.names []).lookup n = some k → ∃ v, h.IsCell k v) → c.Fm cenv M' ⟨ρc, []⟩ (At s h tk) := by
    intro h tk hk hI hD hn hcell
    have ks : ∀ b o, s.heap.get? b = some o → h.get? b = some o := fun b o e => hk b o (notIn b ⟨o, e⟩).1 (notIn b ⟨o, e⟩).2.1 (hs_of b o e)
    have wr : ∀ b, Wr cenv ⟨ρc, []⟩ b → C ≤ b ∨ (∃ x, env.cells.lookup x = some b) := by
      rintro b (rfl | ⟨n, q⟩ | q)
      · exact .inl (Nat.le_refl _)
      · rcases look n b q with q | q
        · exact .inl (Nat.le_of_succ_le q.2)
        · exact .inr ⟨n, ok.sub n b q⟩
      · cases q
    have hg : ∀ a o, kn M env ρ s.heap a o → kn M' cenv ⟨ρc, []⟩ h a o := by
      rintro a o ⟨e, hno⟩
      have := notIn a ⟨o, e⟩
      refine ⟨ks a o e, ?_⟩
      rintro ((q | q | q) | q)
      · exact this.1 q
      · exact this.2.1 q
      · exact hno q
      · rcases wr a q with q | q
        · exact this.2.2 q
        · exact hno (.inr (.inr (.inl q)))
    exact {
      ok := {
        kind := ok.kind
        glob := F.ok.glob
        blt := F.ok.blt
        sep := fun n n' k h1 h2 => by
          rcases look n k h1 with q | q <;> rcases look n' k h2 with q' | q'
          · exact name_of_addr okc.apart (mem_of_lookup q.1) (mem_of_lookup q'.1)
          · exact absurd (Nat.le_of_succ_le q.2) (notIn k (hcl n' k q')).2.2
          · exact absurd (Nat.le_of_succ_le q'.2) (notIn k (hcl n k q)).2.2
          · exact F.ok.sep n n' k (ok.sub n k q) (ok.sub n' k q')
        apart := fun n k h1 e => by
          have e' : k = C := e
          rcases look n k h1 with q | q
          · have := q.2; rw [e'] at this; exact absurd this (Nat.not_succ_le_self _)
          · exact (notIn k (hcl n k q)).2.2 (by rw [e']; exact Nat.le_refl _) }
      base := fun b o e => ks b o (F.base b o e)
      newW := fun b q => by
        rcases wr b q with q | q
        · cases e : c.B.get? b with
          | none => rfl
          | some o => have := F.base _ _ e; rw [hsC b q] at this; cases this
        · exact F.newW b (.inr (.inl q))
      live := fun a q => by
        rcases q with rfl | rfl | q
        · exact hI
        · exact hD
        · obtain ⟨o, e⟩ := F.liveW a q; exact ⟨o, ks _ _ e⟩
      ns := hn
      cells := fun n k e => by
        rcases look n k e with q | q
        · exact hcell n k q.1
        · obtain ⟨v, o, ho, hd⟩ := F.cells n k (ok.sub n k q); exact ⟨v, o, ks _ _ ho, hd⟩
      vars := fun y d e => by
        obtain ⟨_, hy2, hy3, hy4, hy5, hy6⟩ := ok.vars y d e
        obtain ⟨v, hv, hd⟩ := F.vars y d hy2
        refine ⟨v, ?_, hd.mono hg⟩
        rcases hv with ⟨q, _⟩ | ⟨q, k, hc, o, ho, hdd⟩
        · exact absurd q hy3
        · obtain ⟨k', hk'⟩ := Option.isSome_iff_exists.mp hy4
          have hkk : k' = k := by have := ok.sub _ _ hk'; rw [hc] at this; cases this; rfl
          subst hkk
          refine .inr ⟨hy6, k', ?_, o, ks _ _ ho, hdd⟩
          show (cellsFrom (C + 1) scope.names cl).lookup _ = _
          rw [cellsFrom_app, lookup_app]
          have : (cellsFrom (C + 1) scope.names []).lookup (Str.ofString y) = none := by
            have := cellsFrom_isSome (Str.ofString y) scope.names (C + 1) 0 [] [] rfl
            rw [hy5] at this
            cases e' : (cellsFrom (C + 1) scope.names []).lookup (Str.ofString y) with
            | none => rfl
            | some z => rw [e'] at this; cases this
          rw [this]; exact hk'
      owns := fun b od q => by cases q
      ownsN := List.nodup_nil
      ownsL := fun b q => by cases q
      ownsM := fun b q => by cases q }
  have hkx : Kind cenv x := by
    rcases ok.tgt with q | ⟨q, q'⟩
    · exact .inl (lookup_relabel_local q)
    · refine .inr ⟨relabel_cell q, ?_⟩
      show ∃ k, (cellsFrom (C + 1) scope.names cl).lookup _ = some k
      have h1 := cellsFrom_isSome (Str.ofString x) scope.names (C + 1) 0 [] [] rfl
      rw [q'] at h1
      obtain ⟨k, hk⟩ := Option.isSome_iff_exists.mp h1
      exact ⟨k, by rw [cellsFrom_app, lookup_app, hk]; rfl⟩
  obtain ⟨hs2, t2, rfl, hks2⟩ := k2.at
  have start : ∀ (R : Result → Shared → Prop), (∀ s', Ke s s' → (∃ m, s'.heap.Ns C m) → c.Fm env (fun b => b = C ∨ M b) ρ s' → Den (kn (fun b => b = C ∨ M b) env ρ s'.heap) (.lst ((ds.filter p).map f)) (.ref Da) → R (.ok .next) s') →
      codeAny (model c.prog c.w) c.A (.compLoop (.ListComp elt [⟨.Name (Str.ofString x) px, iter, ifs, 0⟩] scope pos) 0 (.ref I) (.ref Da) cenv) R (At s h4 t2) := by
    intro R hR
    let N := MW M' cenv ⟨ρc, []⟩
    have hNI : N I := .inl (.inl rfl)
    have hND : N Da := .inl (.inr (.inl rfl))
    have hsn : ∀ ρ' : List (String × D), MW M' cenv ⟨ρ', []⟩ = N := fun _ => rfl
    have x4 : IterAt c I ds N 0 h4 := x2.move (fun b o hb e => k4 b o (k3 b o e)) fun b q => by
      rcases q with (q | q | q) | q
      · exact .inl (.inl (.inl q))
      · exact .inr (by rw [q]; exact hs2D)
      · rcases q with q | q
        · exact .inl (.inl (.inr q))
        · exact .inl (.inr q)
      · rcases q with q | ⟨n, q⟩ | q
        · refine .inr ?_
          cases e : hs2.get? b with
          | none => exact e
          | some o => have := k3 _ _ e; rw [h3C b (by rw [show b = C from q]; exact Nat.le_refl _)] at this; cases this
        · rcases look n b q with q | q
          · refine .inr ?_
            cases e : hs2.get? b with
            | none => exact e
            | some o => have := k3 _ _ e; rw [h3C b (Nat.le_of_succ_le q.2)] at this; cases this
          · exact .inl (.inr (.inr (.inl ⟨n, ok.sub n b q⟩)))
        · cases q
    refine codeAny_compLoop_tests (fun k s' => ∃ i h tk ys, k + i = ds.length + 1 ∧ i ≤ ds.length ∧ s' = At s h tk ∧ (∀ b o, b ≠ I → b ≠ Da → h3.get? b = some o → h.get? b = some o) ∧
        IterAt c I ds N i h ∧ h.PlainList Da ys ∧ ys.size ≤ i ∧ DenL (knM N h) (((ds.take i).filter p).map f) ys.toList ∧ (∃ o, h.get? I = some o) ∧ (∃ m, h.Ns C m) ∧
        (∀ n k, (cellsFrom (C + 1) scope.names []).lookup n = some k → ∃ v, h.IsCell k v)) ?_ (ds.length + 1)
      ⟨0, h4, t2, #[], by omega, Nat.zero_le _, rfl, fun b o _ _ e => k4 b o e, x4, (let ⟨n, ho⟩ := hD3; ⟨n, k4 _ _ ho⟩), Nat.le_refl _, by simp [DenL], (let ⟨o, e⟩ := hlI; ⟨o, k4 _ _ (k3 _ _ e)⟩), ⟨_, hNs4⟩,
        fun n k e => ⟨_, (okc.empty n k (mem_of_lookup e)).1⟩⟩
    rintro k s' ⟨i, h, tk, ys, hki, hi, rfl, hk, hx, hl, hyi, hD, hIl, hNs, hcell⟩
    have hDl : ∃ o, h.get? Da = some o := let ⟨n, e⟩ := hl; ⟨_, e⟩
    by_cases hlt : i < ds.length
    · have hd : ds[i]? = some ds[i] := List.getElem?_eq_getElem hlt
      have hmem : ds[i] ∈ ds := List.getElem_mem hlt
      refine IterAt.item (s := At s h tk) hx hNI hd fun v h5 t5 D5 x5 hk5 hl5 => ?_
      have hne : ∀ b, C ≤ b → b ≠ I := fun b hb e => hIC (e ▸ hb)
      have F5 : c.Fm cenv M' ⟨ρc, []⟩ (At s h5 t5) := mk h5 t5 (fun b o h1 h2 e => hk5 b o h1 (hk b o h1 h2 e)) hl5 (let ⟨o, e⟩ := hDl; ⟨o, hk5 _ _ (Ne.symm hID) e⟩)
        (let ⟨m, hn⟩ := hNs; ⟨m, hn.at' fun o e => hk5 _ o (hne _ (Nat.le_refl _)) e⟩)
        (fun n k e => let ⟨v, o, ho, hd⟩ := hcell n k e; ⟨v, o, hk5 _ _ (hne _ (Nat.le_of_succ_le (okc.empty n k (mem_of_lookup e)).2)) ho, hd⟩)
      refine assign_Name (store_name' F5 hkx D5 fun h6 t6 F6 st6 hone => ?_)
      obtain ⟨a6, hs6, ha6⟩ := hone
      have ha6C : C ≤ a6 := by
        rcases ha6 with ⟨_, rfl⟩ | e
        · exact Nat.le_refl _
        · rcases look _ _ e with q | q
          · exact Nat.le_of_succ_le q.2
          · rw [ok.own] at q; cases q
      have k6 : ∀ b o, ¬ C ≤ b → h5.get? b = some o → h6.get? b = some o := fun b o hb e => hs6.extBut b o (fun q => hb (q ▸ ha6C)) e
      have fitN : ∀ a o, knM N h5 a o → knM N h6 a o := st6.kn M'
      refine htest C _ hmem M' _ _ _ F6 fun s7 k7 => ?_
      have F7 := F6.keeps k7
      obtain ⟨h7, t7, rfl, hk7⟩ := k7.at
      have chain : ∀ b o, b ≠ I → b ≠ Da → h3.get? b = some o → h7.get? b = some o := fun b o h1 h2 e => hk7 b o (k6 b o (fun q => by rw [h3C b q] at e; cases e) (hk5 b o h1 (hk b o h1 h2 e)))
      have x7 : IterAt c I ds N (i + 1) h7 := x5.move (fun b o hb e => hk7 b o (by
        rcases hb with rfl | hb
        · exact k6 _ o hIC e
        · exact hs6.extBut b o (fun q => hb (by
            subst q
            rcases ha6 with ⟨_, e⟩ | e
            · exact .inr (.inl e)
            · exact .inr (.inr (.inl ⟨_, e⟩)))) e)) fun b q => .inl q
      have hl7 : h7.PlainList Da ys := by
        obtain ⟨n, ho⟩ := hl
        exact ⟨n, hk7 _ _ (k6 _ _ hDC (hk5 _ _ (Ne.symm hID) ho))⟩
      have D7 : DenL (knM N h7) (((ds.take i).filter p).map f) ys.toList := hD.mono fun a o x => by
        have e1 : knM N h5 a o := ⟨hk5 a o (fun e => x.2 (e ▸ hNI)) x.1, x.2⟩
        have e2 := fitN a o e1
        exact ⟨hk7 a o e2.1, e2.2⟩
      have hI7 : ∃ o, h7.get? I = some o := let ⟨o, e⟩ := hl5; ⟨o, hk7 _ _ (k6 _ _ hIC e)⟩
      have hN7 : ∃ m, h7.Ns C m := F7.ns
      have hc7 : ∀ n k, (cellsFrom (C + 1) scope.names []).lookup n = some k → ∃ v, h7.IsCell k v := fun n k e => F7.cells n k (by
        show (cellsFrom (C + 1) scope.names cl).lookup n = some k
        rw [cellsFrom_app, lookup_app, e]; rfl)
      have tk1 : ds.take (i + 1) = ds.take i ++ [ds[i]] := by rw [List.take_add_one, hd]; rfl
      cases hp : p ds[i] with
      | false =>
        simp only [Bool.false_eq_true, if_false]
        refine ⟨k - 1, by omega, i + 1, h7, t7, ys, by omega, hlt, rfl, chain, x7, hl7, Nat.le_succ_of_le hyi, ?_, hI7, hN7, hc7⟩
        rw [tk1, List.filter_append]
        simpa [hp] using D7
      | true =>
        simp only [if_true]
        refine helt C _ hmem hp M' _ _ _ F7 fun v8 s8 k8 D8 => ?_
        have F8 := F7.keeps k8
        obtain ⟨h8, t8, rfl, hk8⟩ := k8.at
        have hl8 : h8.PlainList Da ys := let ⟨n, ho⟩ := hl7; ⟨n, hk8 _ _ ho⟩
        have hyz : ys.size ≤ sizeLine := Nat.le_trans hyi (Nat.le_trans hi hz)
        refine wpAny_list_append_plain (hsz := hyz) hl8 fun h9 hl9 hs9 => ?_
        have D9 : DenL (knM N h9) (((ds.take (i + 1)).filter p).map f) (ys.push v8).toList := by
          have up : ∀ a o, knM N h8 a o → knM N h9 a o := fun a o x => ⟨hs9.extBut a o (fun e => x.2 (e ▸ hND)) x.1, x.2⟩
          have dl : ∀ (l : List D) (vs : List Value) (d : D) (v : Value), DenL (knM N h9) l vs → Den (knM N h9) d v → DenL (knM N h9) (l ++ [d]) (vs ++ [v]) := by
            intro l
            induction l with
            | nil => intro vs d v h1 h2; simp only [DenL] at h1; subst h1; exact ⟨v, [], rfl, h2, rfl⟩
            | cons e l ih =>
              intro vs d v h1 h2
              simp only [DenL] at h1
              obtain ⟨u, r, rfl, h3, h4⟩ := h1
              exact ⟨u, r ++ [v], rfl, h3, ih r d v h4 h2⟩
          rw [tk1, List.filter_append, List.map_append, Array.toList_push]
          have : ([ds[i]].filter p).map f = [f ds[i]] := by simp [hp]
          rw [this]
          exact dl _ _ _ _ (D7.mono fun a o x => up a o ⟨hk8 a o x.1, x.2⟩) (D8.mono up)
        refine ⟨k - 1, by omega, i + 1, h9, t8, ys.push v8, by omega, hlt, rfl, fun b o h1 h2 e => hs9.extBut b o h2 (hk8 b o (chain b o h1 h2 e)), ?_, hl9, by rw [Array.size_push]; omega, D9, ?_, ?_, ?_⟩
        · exact x7.move (fun b o hb e => hs9.extBut b o (fun q => by
            rcases hb with rfl | hb
            · exact hID q
            · exact hb (q ▸ hND)) (hk8 b o e)) fun b q => .inl q
        · obtain ⟨o, e⟩ := hI7; exact ⟨o, hs9.extBut _ _ hID (hk8 _ _ e)⟩
        · obtain ⟨m, hn⟩ := hN7; exact ⟨m, hn.at' fun o e => hs9.extBut _ _ (fun q => hDC (q ▸ Nat.le_refl _)) (hk8 _ _ e)⟩
        · intro n k' e
          obtain ⟨v, o, ho, hdd⟩ := hc7 n k' e
          exact ⟨v, o, hs9.extBut _ _ (fun q => hDC (q ▸ Nat.le_of_succ_le (okc.empty n k' (mem_of_lookup e)).2)) (hk8 _ _ ho), hdd⟩
    · have he : i = ds.length := by omega
      subst he
      refine IterAt.done (s := At s h tk) hx fun h5 t5 hk5 => ?_
      have kf : Ke s (At s h5 t5) := ⟨h5, t5, rfl, fun b o e => by
        have := notIn b ⟨o, e⟩
        exact hk5 b o this.1 (hk b o this.1 this.2.1 (hs_of b o e))⟩
      have hN5 : ∃ m, h5.Ns C m := let ⟨m, hn⟩ := hNs; ⟨m, hn.at' fun o e => hk5 _ o (fun e => hIC (e ▸ Nat.le_refl _)) e⟩
      have F5 : c.Fm env (fun b => b = C ∨ M b) ρ (At s h5 t5) := F.moreM kf fun a q => by
        rcases q with rfl | q
        · exact .inr ⟨hsC _ (Nat.le_refl _), let ⟨m, o, _, _, e, _⟩ := hN5; ⟨o, e⟩⟩
        · exact .inl q
      refine hR _ kf hN5 F5 ?_
      simp only [Den]
      obtain ⟨n, ho⟩ := hl
      have hDa' := hk5 _ _ (Ne.symm hID) ho
      refine ⟨Da, ys, n, rfl, ⟨hDa', ?_⟩, ?_⟩
      · rintro ((q | q) | q)
        · exact hDC (by rw [show Da = C from q]; exact Nat.le_refl _)
        · exact F.fresh hsD (.inl q)
        · exact F.fresh hsD (.inr q)
      · rw [List.take_length] at hD
        refine hD.mono ?_
        rintro a o' ⟨e, hno⟩
        refine ⟨hk5 a o' (fun q => hno (q ▸ hNI)) e, ?_⟩
        rintro ((q | q) | q)
        · exact hno (.inr (.inl q))
        · exact hno (.inl (.inr (.inr (.inl q))))
        · exact hno (.inl (.inr (.inr (.inr q))))
  refine codeAny_compStart_list (start _ fun s' k hn F' hd => hRR Da C s' k (hsC C (Nat.le_refl _)) hn F' hd) ?_
  have x4 : IterAt c I ds (MW (fun a => a = I ∨ M a) env ρ) 0 h4 := x2.move (fun b o hb e => k4 b o (k3 b o e)) fun b q => .inl q
  exact IterAt.self (s := At s h4 t2) x4 (start _ fun s' k hn F' hd => hRR Da C s' k (hsC C (Nat.le_refl _)) hn F' hd)
variable {c : Cx} {env : Env} {ρ : St}

theorem ev_listcomp {elt iter : Expr} {x : String} {px : Pos} {ifs : List Expr} {scope : Scope} {cl : List (Str × Addr)} {pos : Pos} {ds : List D} {p : D → Bool} {f : D → D} {ρc : List (String × D)}
    (hit : IterOf c env ρ iter ds) (ok : CompOk env ρ scope cl x ρc) (hz : ds.length ≤ sizeLine)
    (htest : ∀ C d, d ∈ ds → TestsAll c (compEnvG scope cl C env) ⟨upd x d ρc, []⟩ ifs (p d))
    (helt : ∀ C d, d ∈ ds → p d = true → Evals c (compEnvG scope cl C env) ⟨upd x d ρc, []⟩ elt (f d))
    (hs : ∀ x, foldedSetIterable iter env x = pure x := by intro _; with_unfolding_all rfl) :
    Evals c env ρ (.ListComp elt [⟨.Name (Str.ofString x) px, iter, ifs, 0⟩] scope pos) (.lst ((ds.filter p).map f)) := by
  intro M s Q E F hQ
  rw [eval_ListComp]
  refine wpAny_comprehension_free (use := none) rfl hs ok.clos ok.kind ok.names ?_
  refine comp_core (RR := fun acc C => compPost (model c.prog c.w) c.A E none Q acc C) hit ok hz htest helt F fun a C s' k hC hn F' hd => ?_
  obtain ⟨m, hn⟩ := hn
  refine ⟨m, hn, fun h' hs' => ?_⟩
  have hne : ∀ b, b ≠ C → ∀ o, s'.heap.get? b = some o → h'.get? b = some o := fun b hb o e => hs'.extBut b o hb e
  obtain ⟨h1, t1, rfl, hk1⟩ := k.at
  refine hQ (.ref a) _ ⟨h', t1, rfl, fun b o e => hne b (fun q => by rw [q, hC] at e; cases e) o (hk1 b o e)⟩ (hd.mono ?_)
  rintro b o ⟨e, hno⟩
  exact ⟨hne b (fun q => hno (.inl (.inl q))) o e, fun q => hno (q.imp .inr id)⟩

theorem assign_listcomp {elt iter : Expr} {x y : String} {px py : Pos} {ifs : List Expr} {scope : Scope} {cl : List (Str × Addr)} {pos spos : Pos} {ds : List D} {p : D → Bool} {f : D → D} {ρc : List (String × D)} {Φ : Post}
    (hit : IterOf c env ρ iter ds) (ok : CompOk env ρ scope cl x ρc) (hz : ds.length ≤ sizeLine)
    (htest : ∀ C d, d ∈ ds → TestsAll c (compEnvG scope cl C env) ⟨upd x d ρc, []⟩ ifs (p d))
    (helt : ∀ C d, d ∈ ds → p d = true → Evals c (compEnvG scope cl C env) ⟨upd x d ρc, []⟩ elt (f d))
    (hk : Kind env y) (hΦ : Φ .next (ρ.set y (.lst ((ds.filter p).map f))))
    (hsw : swapsWith (.ListComp elt [⟨.Name (Str.ofString x) px, iter, ifs, 0⟩] scope pos) (some (.Name (Str.ofString y) py)) spos.line env = pure true := by with_unfolding_all rfl)
    (hs : ∀ x, foldedSetIterable iter env x = pure x := by intro _; with_unfolding_all rfl) :
    Exec c env ρ (.Assign [.Name (Str.ofString y) py] (.ListComp elt [⟨.Name (Str.ofString x) px, iter, ifs, 0⟩] scope pos) spos) Φ := by
  intro M s Q E F hQ
  rw [exec_Assign_Name_used _ _ _ _ hsw]
  refine wpAny_bind (wpAny_standAt (wpAny_bind ?_))
  show wpAny _ _ (do let _ ← comprehension (.ListComp elt [⟨.Name (Str.ofString x) px, iter, ifs, 0⟩] scope pos) scope env _ (newList []) false (eval iter env) (some (assign (.Name (Str.ofString y) py) env))) _ _ s
  refine wpAny_bind (wpAny_mono (wpAny_comprehension_free (use := some (assign (.Name (Str.ofString y) py) env)) (Q := fun _ s' => Q .next s') rfl hs ok.clos ok.kind ok.names
    ?_) (fun _ s' hq => wpAny_pure (wpAny_pure hq)) fun _ _ e => e)
  refine comp_core (RR := fun acc C => compPost (model c.prog c.w) c.A E (some (assign (.Name (Str.ofString y) py) env)) (fun _ s' => Q .next s') acc C) hit ok hz htest helt F fun a C s' k hC hn F' hd => ?_
  show wpAny _ _ (assign (.Name (Str.ofString y) py) env (.ref a)) _ _ _
  refine assign_Name (store_name' F' hk hd fun h1 t1 F1 st1 hone => ?_)
  obtain ⟨m, hn⟩ := hn
  obtain ⟨a1, hs1, ha1⟩ := hone
  have hWC : ∀ b, Wr env ρ b → b ≠ C := fun b q e => F.fresh hC (.inr (e ▸ q))
  have ha1C : a1 ≠ C := by
    rcases ha1 with ⟨_, rfl⟩ | e
    · exact hWC _ (.inl rfl)
    · exact hWC _ (.inr (.inl ⟨_, e⟩))
  have hn1 : h1.Ns C m := hn.sameBut hs1 (Ne.symm ha1C)
  refine ⟨m, hn1, fun h2 hs2 => ?_⟩
  have stk := Step.ke (env := env) (ρ := ρ) k
  obtain ⟨h0, t0, rfl, hk0⟩ := k.at
  have hne : ∀ b o, b ≠ C → h1.get? b = some o → h2.get? b = some o := fun b o hb e => hs2.extBut b o hb e
  have hBC : c.B.get? C = none := by
    cases e : c.B.get? C with
    | none => rfl
    | some o => have := F.base _ _ e; rw [hC] at this; cases this
  have hMC : ¬ M C := fun q => F.fresh hC (.inl q)
  have F2 : c.Fm env M (ρ.set y (.lst ((ds.filter p).map f))) (At s h2 t1) :=
    F1.but (I := C) (h' := h2) (tk := t1) (.inl rfl) (fun q => hWC _ q rfl) hBC (fun b o hb e => hne b o hb e) (fun a q => .inr q) fun q => absurd q hMC
  refine hQ .next .next _ h2 t1 hΦ F2 ?_ rfl
  have stA := stk.trans st1
  exact ⟨fun b o hb e => hne b o (fun q => by rw [q, hC] at e; cases e) (stA.1 b o hb e), stA.2⟩
end

section 
open PySem PySem.W PyProof.Rows
set_option linter.unusedVariables false

variable {c : Cx} {env : Env} {ρ : St}

structure AOk (n : Nat) (A : Around) : Prop where
  handled : A.handled = none
  depth : A.depth + n < recursionLimit
  units : A.units + 10 * n + 100 < cLine

theorem AOk.deeper {n : Nat} {A : Around} (h : AOk (n + 1) A) (env : Env) : AOk n (A.deeper env) :=
  ⟨h.handled, by show A.depth + 1 + n < _; have := h.depth; omega, by show A.units + 3 + 10 * n + 100 < _; have := h.units; omega⟩

mutual
def D.py : D → PyData
  | .none => .none
  | .bool b => .bool b
  | .int i => .int i
  | .str x => .str x
  | .tup ds => .tuple (D.pys ds)
  | .lst ds => .list (D.pys ds)
  | .own _ => .none
  | .dct _ _ => .none
def D.pys : List D → List PyData
  | [] => []
  | d :: ds => D.py d :: D.pys ds
end

/-- nested at most n deep; no strs, no references -/
def lvl : Nat → D → Bool
  | _, .none => true
  | _, .bool _ => true
  | _, .int _ => true
  | _, .str _ => false
  | _, .own _ => false
  | _, .dct _ _ => false
  | 0, .tup _ => false
  | 0, .lst _ => false
  | n + 1, .tup ds => ds.all (lvl n)
  | n + 1, .lst ds => ds.all (lvl n)

def eqb (d e : D) : Bool := PyData.eqv d.py e.py

theorem lvl_reads {g : Kn} {h : Heap} (hg : ∀ a o, g a o → h.get? a = some o) : ∀ (n : Nat) (d : D) (v : Value), lvl n d = true → Den g d v → ∃ as, Reads h v d.py as := by
  intro n
  induction n with
  | zero =>
    intro d v hl hd
    cases d with
    | none => simp only [Den] at hd; subst hd; exact ⟨_, .none⟩
    | bool b => simp only [Den] at hd; subst hd; exact ⟨_, .bool b⟩
    | int i => obtain ⟨t, rfl⟩ := hd; exact ⟨_, .int i t⟩
    | str x => cases hl
    | own a => cases hl
    | dct H kvs => cases hl
    | tup ds => cases hl
    | lst ds => cases hl
  | succ n ih =>
    have all : ∀ (ds : List D) (vs : List Value), ds.all (lvl n) = true → DenL g ds vs → ∃ as, ReadsAll h vs (D.pys ds) as := by
      intro ds
      induction ds with
      | nil => intro vs _ hd; simp only [DenL] at hd; subst hd; exact ⟨_, .nil⟩
      | cons d ds ihd =>
        intro vs hl hd
        simp only [DenL] at hd
        obtain ⟨v, r, rfl, h1, h2⟩ := hd
        simp only [List.all_cons, Bool.and_eq_true] at hl
        obtain ⟨a1, r1⟩ := ih d v hl.1 h1
        obtain ⟨a2, r2⟩ := ihd r hl.2 h2
        exact ⟨_, .cons r1 r2⟩
    intro d v hl hd
    cases d with
    | none => simp only [Den] at hd; subst hd; exact ⟨_, .none⟩
    | bool b => simp only [Den] at hd; subst hd; exact ⟨_, .bool b⟩
    | int i => obtain ⟨t, rfl⟩ := hd; exact ⟨_, .int i t⟩
    | str x => cases hl
    | own a => cases hl
    | dct H kvs => cases hl
    | tup ds =>
      simp only [Den] at hd
      obtain ⟨a, vs, k, rfl, ho, hv⟩ := hd
      obtain ⟨as, hr⟩ := all ds vs.toList hl hv
      exact ⟨_, .tuple (hg _ _ ho) rfl rfl hr⟩
    | lst ds =>
      simp only [Den] at hd
      obtain ⟨a, vs, k, rfl, ho, hv⟩ := hd
      obtain ⟨as, hr⟩ := all ds vs.toList hl hv
      exact ⟨_, .list (hg _ _ ho) rfl rfl hr⟩

theorem lvl_can : ∀ (n : Nat) (d : D), lvl n d = true → d.py.canLay0 = true ∧ d.py.depth ≤ n := by
  intro n
  induction n with
  | zero =>
    intro d hl
    cases d with
    | none => simp [D.py, PyData.canLay0, PyData.depth]
    | bool b => simp [D.py, PyData.canLay0, PyData.depth]
    | int i => simp [D.py, PyData.canLay0, PyData.depth]
    | str x => cases hl
    | own a => cases hl
    | dct H kvs => cases hl
    | tup ds => cases hl
    | lst ds => cases hl
  | succ n ih =>
    have all : ∀ ds : List D, ds.all (lvl n) = true → PyData.canLayAll0 (D.pys ds) = true ∧ PyData.depthAll (D.pys ds) ≤ n := by
      intro ds
      induction ds with
      | nil => intro _; simp [D.pys, PyData.canLayAll0, PyData.depthAll]
      | cons d ds ihd =>
        intro hl
        simp only [List.all_cons, Bool.and_eq_true] at hl
        have h1 := ih d hl.1
        have h2 := ihd hl.2
        simp only [D.pys, PyData.canLayAll0, PyData.depthAll, h1.1, h2.1, Bool.and_self, true_and]
        exact Nat.max_le.mpr ⟨h1.2, h2.2⟩
    intro d hl
    cases d with
    | tup ds => have := all ds hl; exact ⟨by simpa [D.py, PyData.canLay0] using this.1, by simp only [D.py, PyData.depth]; omega⟩
    | lst ds => have := all ds hl; exact ⟨by simpa [D.py, PyData.canLay0] using this.1, by simp only [D.py, PyData.depth]; omega⟩
    | none => simp [D.py, PyData.canLay0, PyData.depth]
    | bool b => simp [D.py, PyData.canLay0, PyData.depth]
    | int i => simp [D.py, PyData.canLay0, PyData.depth]
    | str x => cases hl
    | own a => cases hl
    | dct H kvs => cases hl

theorem pys_eq_map (ds : List D) : D.pys ds = ds.map D.py := by
  induction ds with
  | nil => rfl
  | cons d ds ih => rw [D.pys, ih, List.map_cons]

theorem o_eqd {d e : D} (n : Nat) (hd : lvl n d = true) (he : lvl n e = true) (hn : n ≤ 20) (hA : c.A.units + 100 < cLine) : Op2 c (compareOp .Eq) d e (.bool (eqb d e)) := by
  intro N s Q E v1 v2 hB L h1 h2 hQ
  obtain ⟨as, r1⟩ := lvl_reads (h := s.heap) (fun a o x => x.1) n d v1 hd h1
  obtain ⟨bs, r2⟩ := lvl_reads (h := s.heap) (fun a o x => x.1) n e v2 he h2
  have c1 := lvl_can n d hd
  have c2 := lvl_can n e he
  refine SeqAt.compareEq_reads r1 r2 c1.1 c2.1 ?_ (hQ _ _ (.refl s) rfl)
  have := Nat.min_le_left d.py.depth e.py.depth
  omega
theorem o_ned {d e : D} (n : Nat) (hd : lvl n d = true) (he : lvl n e = true) (hn : n ≤ 20) (hA : c.A.units + 100 < cLine) : Op2 c (compareOp .NotEq) d e (.bool (!eqb d e)) := by
  intro N s Q E v1 v2 hB L h1 h2 hQ
  obtain ⟨as, r1⟩ := lvl_reads (h := s.heap) (fun a o x => x.1) n d v1 hd h1
  obtain ⟨bs, r2⟩ := lvl_reads (h := s.heap) (fun a o x => x.1) n e v2 he h2
  have c1 := lvl_can n d hd
  have c2 := lvl_can n e he
  refine SeqAt.compareNe_reads r1 r2 c1.1 c2.1 ?_ (hQ _ _ (.refl s) rfl)
  have := Nat.min_le_left d.py.depth e.py.depth
  omega
theorem o_notin {d : D} {ds : List D} (n : Nat) (hd : lvl n d = true) (he : lvl n (.lst ds) = true) (hn : n ≤ 20) (hA : c.A.units + 100 < cLine) : Op2 c (compareOp .NotIn) d (.lst ds) (.bool (!ds.any fun y => eqb y d)) := by
  intro N s Q E v1 v2 hB L h1 h2 hQ
  obtain ⟨as, r1⟩ := lvl_reads (h := s.heap) (fun a o x => x.1) n d v1 hd h1
  obtain ⟨bs, r2⟩ := lvl_reads (h := s.heap) (fun a o x => x.1) n _ v2 he h2
  have c1 := lvl_can n d hd
  have c2 := lvl_can n _ he
  simp only [D.py] at r2 c2
  refine SeqAt.notIn_list_reads r2 r1 (by simpa [PyData.canLay0] using c2.1) c1.1 ?_ (hQ _ _ (.refl s) ?_)
  · have := Nat.min_le_right (PyData.depthAll (D.pys ds)) d.py.depth
    omega
  · simp only [Den]
    rw [pys_eq_map, List.any_map]
    rfl

/-! calls of built-ins by name -/
theorem ev_bcall1 {f : Str} {id : String} {np pos : Pos} {e : Expr} {d r : D} (hG : GName c.B f (.builtin id)) (h : Evals c env ρ e d)
    (hf : ∀ (N : Addr → Prop) (s : Shared) (Q E) (v : Value), Live N s → Den (knM N s.heap) d v → (∀ u s', Ke s s' → Den (knM N s'.heap) r u → Q u s') → wpAny (model c.prog c.w) c.A (call (.builtin id) [v]) Q E s)
    (hx : env.kindOf f = some .globalImplicit) (hdb : (f == ("__debug__" : Str)) = false := by decide)
    (hs : starEach [e] env = [(false, eval e env)] := by with_unfolding_all rfl) : Evals c env ρ (.Call (.Name f np) [e] [] pos) r := by
  intro M s Q E F hQ
  refine Call_ (ev_global hG F hx hdb ?_)
  rw [hs]
  exact PySem.callWith_builtin1 (h M s _ E F fun v s1 k1 D1 => hf _ s1 _ E v (F.keeps k1).liveW D1 fun u s2 k2 D2 => hQ u s2 (k1.trans k2) D2)

theorem ev_tcall1 {f : Str} {T : String} {np pos : Pos} {e : Expr} {d r : D} (hG : GName c.B f (.type T)) (h : Evals c env ρ e d)
    (hf : ∀ (N : Addr → Prop) (s : Shared) (Q E) (v : Value), Live N s → Den (knM N s.heap) d v → (∀ u s', Ke s s' → Den (knM N s'.heap) r u → Q u s') → wpAny (model c.prog c.w) c.A (call (.type T) [v]) Q E s)
    (hx : env.kindOf f = some .globalImplicit) (hdb : (f == ("__debug__" : Str)) = false := by decide)
    (hs : starEach [e] env = [(false, eval e env)] := by with_unfolding_all rfl) : Evals c env ρ (.Call (.Name f np) [e] [] pos) r := by
  intro M s Q E F hQ
  refine Call_ (ev_global hG F hx hdb ?_)
  rw [hs]
  exact PySem.callWith_type1 (h M s _ E F fun v s1 k1 D1 => hf _ s1 _ E v (F.keeps k1).liveW D1 fun u s2 k2 D2 => hQ u s2 (k1.trans k2) D2)

theorem ev_len {np pos : Pos} {e : Expr} {ds : List D} (hG : GName c.B ("len" : Str) (.builtin "len")) (h : Evals c env ρ e (.lst ds)) (hz : ds.length ≤ 2 ^ 20) (hx : env.kindOf ("len" : Str) = some .globalImplicit)
    (hs : starEach [e] env = [(false, eval e env)] := by with_unfolding_all rfl) : Evals c env ρ (.Call (.Name ("len" : Str) np) [e] [] pos) (.int ds.length) := by
  refine ev_bcall1 hG h (fun N s Q E v L D hQ => ?_) hx (hs := hs)
  simp only [Den] at D
  obtain ⟨a, vs, n, rfl, ho, hl⟩ := D
  have hlen : vs.size = ds.length := by rw [← Array.length_toList]; exact denL_length hl
  refine len_list ⟨_, ho.1, rfl, n, rfl⟩ (by rw [hlen]; omega) (hQ _ _ (.tok s _) ?_)
  simp only [Den]
  exact ⟨_, by rw [hlen]⟩

theorem ev_listof {np pos : Pos} {e : Expr} {ds : List D} (hG : GName c.B ("list" : Str) (.type "list")) (h : Evals c env ρ e (.lst ds)) (hz : ds.length ≤ 2 ^ 20) (hx : env.kindOf ("list" : Str) = some .globalImplicit)
    (hs : starEach [e] env = [(false, eval e env)] := by with_unfolding_all rfl) : Evals c env ρ (.Call (.Name ("list" : Str) np) [e] [] pos) (.lst ds) := by
  refine ev_tcall1 hG h (fun N s Q E v L D hQ => ?_) hx (hs := hs)
  simp only [Den] at D
  obtain ⟨a, vs, n, rfl, ho, hl⟩ := D
  have hlen : vs.size = ds.length := by rw [← Array.length_toList]; exact denL_length hl
  refine call_list_seq (hsz := by rw [hlen]; exact Nat.le_trans hz (by decide)) a (.inl rfl) ho.1 rfl rfl fun h' c' hk hn => ?_
  have k : Ke s { s with heap := h' } := ⟨h', s.toks, rfl, hk⟩
  refine hQ _ _ k ?_
  simp only [Den]
  exact ⟨_, _, _, rfl, ⟨hn, L.fresh (get?_size_none _)⟩, hl.mono (knM.keeps k)⟩

theorem denL_ints {g : Kn} : ∀ {ns : List Int} {vs : List Value}, DenL g (ns.map .int) vs → IntsAre vs ns
  | [], vs, h => by simp only [List.map_nil, DenL] at h; subst h; exact .nil
  | n :: ns, vs, h => by
    simp only [List.map_cons, DenL] at h
    obtain ⟨v, r, rfl, ⟨t, rfl⟩, h2⟩ := h
    exact .cons _ _ (denL_ints h2)
theorem ints_denL {g : Kn} {ns : List Int} {vs : List Value} (h : IntsAre vs ns) : DenL g (ns.map .int) vs := by
  induction h with
  | nil => rfl
  | cons _ _ _ ih => exact ⟨_, _, rfl, ⟨_, rfl⟩, ih⟩

theorem perm_sorted_unique : ∀ {l l' : List Int}, l.Perm l' → l.Pairwise (· ≤ ·) → l'.Pairwise (· ≤ ·) → l = l' := by
  intro l l' hp h1 h2
  exact List.Perm.eq_of_pairwise (fun a b _ _ h h' => Int.le_antisymm h h') h1 h2 hp

/-- sorted(x) of ints already in order -/
theorem ev_sorted {np pos : Pos} {e : Expr} {ns : List Int} (hG : GName c.B ("sorted" : Str) (.builtin "sorted")) (h : Evals c env ρ e (.lst (ns.map .int))) (hz : ns.length < 64) (hord : ns.Pairwise (· ≤ ·)) (hx : env.kindOf ("sorted" : Str) = some .globalImplicit)
    (hs : starEach [e] env = [(false, eval e env)] := by with_unfolding_all rfl) : Evals c env ρ (.Call (.Name ("sorted" : Str) np) [e] [] pos) (.lst (ns.map .int)) := by
  refine ev_bcall1 hG h (fun N s Q E v L D hQ => ?_) hx (hs := hs)
  simp only [Den] at D
  obtain ⟨a, vs, n, rfl, ho, hl⟩ := D
  have hi := denL_ints hl
  have hlen : vs.toList.length = ns.length := by rw [denL_length hl, List.length_map]
  refine sorted_ints (vs := vs.toList) ⟨_, ho.1, rfl, n, rfl⟩ hi (by rw [hlen]; exact hz) fun out ns' h1 h2 h3 => ?_
  have e : ns' = ns := perm_sorted_unique h2 h3 hord
  subst e
  have k : Ke s { s with heap := sortedAll s.heap vs.toList out } := ⟨_, s.toks, rfl, fun _ _ => sortedAll_old⟩
  obtain ⟨ep, he⟩ := sortedAll_at s.heap vs.toList out
  refine hQ _ _ k ?_
  simp only [Den]
  refine ⟨_, _, _, rfl, ⟨he, L.fresh ?_⟩, ints_denL h1⟩
  cases e : s.heap.get? (s.heap.objs.size + 1) with
  | none => rfl
  | some o => exact absurd (Heap.lt_size e) (Nat.not_lt.mpr (Nat.le_succ _))

/-! list operations -/
theorem denL_append {g : Kn} : ∀ {ds es : List D} {vs ws : List Value}, DenL g ds vs → DenL g es ws → DenL g (ds ++ es) (vs ++ ws)
  | [], es, vs, ws, h1, h2 => by simp only [DenL] at h1; subst h1; exact h2
  | d :: ds, es, vs, ws, h1, h2 => by
    simp only [DenL] at h1
    obtain ⟨v, r, rfl, h3, h4⟩ := h1
    exact ⟨v, r ++ ws, rfl, h3, denL_append h4 h2⟩

theorem o_addl {ds es : List D} (hz : ds.length + es.length ≤ 2 ^ 20) : Op2 c (binaryOp .Add) (.lst ds) (.lst es) (.lst (ds ++ es)) := by
  intro N s Q E v1 v2 hB L h1 h2 hQ
  simp only [Den] at h1 h2
  obtain ⟨a, vs, n, rfl, ho, hl⟩ := h1
  obtain ⟨b, ws, n2, rfl, ho2, hl2⟩ := h2
  have e1 := denL_length hl
  have e2 := denL_length hl2
  rw [Array.length_toList] at e1 e2
  refine concat_meets ⟨_, ho.1, rfl⟩ ⟨_, ho2.1, rfl⟩ noFill_list_add seq_list_add PySem.F.slot_list_add PySem.F.entry_list_add (PySem.F.args_list_add_2 _ _)
    (list_addW a b vs ws n n2 none none #[] #[] (by rw [e1, e2]; exact Nat.le_trans hz (by decide))) ⟨ho.1, ho2.1, ?_⟩
  refine hQ _ _ (.push s _) ?_
  simp only [Den]
  refine ⟨_, _, _, rfl, knM.push L _ rfl, ?_⟩
  rw [Array.toList_append]
  exact denL_append (hl.mono (knM.keeps (.push s _))) (hl2.mono (knM.keeps (.push s _)))

theorem foldl_append_arrays {α : Type} : ∀ (l : List (Array α)) (a : Array α), (List.foldl (fun x y => x ++ y) a l).toList = a.toList ++ (l.map (·.toList)).flatten
  | [], a => by simp
  | b :: l, a => by rw [List.foldl_cons, foldl_append_arrays l, Array.toList_append]; simp
theorem denL_rep {g : Kn} {ds : List D} {vs : List Value} (h : DenL g ds vs) : ∀ k : Nat, DenL g (List.replicate k ds).flatten (List.replicate k vs).flatten
  | 0 => rfl
  | k + 1 => by
    rw [List.replicate_succ, List.replicate_succ, List.flatten_cons, List.flatten_cons]
    exact denL_append h (denL_rep h k)

theorem o_mull {ds : List D} {x : Int} (h0 : 0 ≤ x) (hx : x < 2 ^ 20) (hne : ds ≠ []) (hz : ds.length * x.toNat ≤ 2 ^ 20) : Op2 c (binaryOp .Mult) (.lst ds) (.int x) (.lst (List.replicate x.toNat ds).flatten) := by
  intro N s Q E v1 v2 hB L h1 h2 hQ
  simp only [Den] at h1 h2
  obtain ⟨l, items, k, rfl, ho, hl⟩ := h1
  obtain ⟨u, rfl⟩ := h2
  have e1 := denL_length hl
  rw [Array.length_toList] at e1
  have hem : items.isEmpty = false := by
    rw [Array.isEmpty_eq_false_iff]
    intro e
    rw [e] at e1
    exact hne (List.eq_nil_of_length_eq_zero e1.symm)
  have hz' : items.size * x.toNat ≤ 2 ^ 20 := by rw [e1]; exact hz
  refine wpAny_binaryOp_repeat_ref (T := "list") (U := "int") (by decide) ⟨_, ho.1, rfl⟩ (fun s' => typeIs_int s' x u) noFill_list_mul F.fills_int_mul F.slot_int_rmul repeat_list F.slot_int_index.lookup
    (call_meets F.slot_int_rmul (typeIs_int s x u) F.entry_int_rmul (F.args_int_rmul_2 _ _) (int___rmul___int_list x u l items k)
      ⟨ho.1, rfl, ⟨_, ho.1, rfl⟩, call_meets F.slot_list_mul ⟨_, ho.1, rfl⟩ F.entry_list_mul (F.args_list_mul_2 _ _)
        (AutoListH.list___mul___list_int_3 l items k x u (by simp [Builtin.List.listFitsIndex]; omega) (by omega) (by simp [Builtin.List.listTooLong, sizeLine]; omega))
        ⟨ho.1, ?_⟩⟩)
  refine hQ _ _ (.push s _) ?_
  simp only [Den]
  refine ⟨_, _, _, rfl, knM.push L _ rfl, ?_⟩
  rw [foldl_append_arrays, hem]
  simp only [Bool.false_eq_true, if_false, List.map_replicate]
  exact denL_rep (hl.mono (knM.keeps (.push s _))) _
end

section 
open PySem PySem.W PyProof.Rows
set_option linter.unusedVariables false

variable {c : Cx} {env : Env} {ρ : St}

theorem denL_at {g : Kn} : ∀ {ds : List D} {vs : List Value}, DenL g ds vs → ∀ {j : Nat} {d : D}, ds[j]? = some d → ∃ v, vs[j]? = some v ∧ Den g d v
  | [], _, _, j, d, hd => by simp at hd
  | e :: es, _, h, j, d, hd => by
    simp only [DenL] at h
    obtain ⟨u, r, rfl, h1, h2⟩ := h
    cases j with
    | zero => simp only [List.getElem?_cons_zero, Option.some.injEq] at hd; subst hd; exact ⟨u, rfl, h1⟩
    | succ j => simp only [List.getElem?_cons_succ] at hd ⊢; exact denL_at h2 hd

theorem ev_item {value slice : Expr} {pos : Pos} {ds : List D} {k : Int} {d : D} (h1 : Evals c env ρ value (.lst ds)) (h2 : Evals c env ρ slice (.int k)) (h0 : 0 ≤ k) (hk : k < 2 ^ 20) (hd : ds[k.toNat]? = some d)
    (hs : ∀ o i, subscripted slice false o i = operate [o, i] (getItem o i) := by intro _ _; with_unfolding_all rfl) : Evals c env ρ (.Subscript value slice pos) d := by
  intro M s Q E F hQ
  refine Subscript_ (h1 M s _ E F fun v1 s1 k1 D1 => h2 M s1 _ E (F.keeps k1) fun v2 s2 k2 D2 => ?_)
  have D1' := D1.mono (knM.keeps k2)
  simp only [Den] at D1' D2
  obtain ⟨a, vs, n, rfl, ho, hl⟩ := D1'
  obtain ⟨t, rfl⟩ := D2
  obtain ⟨v, hv, hdv⟩ := denL_at hl hd
  have hL : s2.heap.IsList a vs := ⟨_, ho.1, rfl, n, rfl⟩
  exact tail_any hL.typeIs slot_list_getitem.lookup (wpAny_getItem_list hL h0 (by omega) (by simpa using hv) (hQ v s2 (k1.trans k2) hdv)) (hs _ _)

theorem ev_titem {value slice : Expr} {pos : Pos} {ds : List D} {k : Int} {d : D} (h1 : Evals c env ρ value (.tup ds)) (h2 : Evals c env ρ slice (.int k)) (h0 : 0 ≤ k) (hk : k < 2 ^ 20) (hd : ds[k.toNat]? = some d)
    (hs : ∀ o i, subscripted slice false o i = operate [o, i] (getItem o i) := by intro _ _; with_unfolding_all rfl) : Evals c env ρ (.Subscript value slice pos) d := by
  intro M s Q E F hQ
  refine Subscript_ (h1 M s _ E F fun v1 s1 k1 D1 => h2 M s1 _ E (F.keeps k1) fun v2 s2 k2 D2 => ?_)
  have D1' := D1.mono (knM.keeps k2)
  simp only [Den] at D1' D2
  obtain ⟨a, vs, n, rfl, ho, hl⟩ := D1'
  obtain ⟨t, rfl⟩ := D2
  obtain ⟨v, hv, hdv⟩ := denL_at hl hd
  have hT : IsTup s2.heap a vs := ⟨_, ho.1, rfl, n, rfl⟩
  have hlt : k.toNat < vs.size := by
    have := (List.getElem?_eq_some_iff.mp hv).1
    simpa using this
  exact tail_any hT.typeIs slot_tuple_getitem.lookup (getItem_tuple hT (by omega) (by omega) (seqIndex_of h0 (by omega)) (by simpa using hv) (hQ v s2 (k1.trans k2) hdv)) (hs _ _)

def EvPart (c : Cx) (env : Env) (ρ : St) (e : Option Expr) (k : Option Int) : Prop :=
  ∀ (M : Addr → Prop) (s : Shared) (Q E), c.Fm env M ρ s → (∀ v s', Ke s s' → IsPart v k → Q v s') → wpAny (model c.prog c.w) c.A (evalPart e env) Q E s
theorem ep_none : EvPart c env ρ none none := fun M s Q E F hQ => wpAny_pure (hQ _ s (.refl s) .none)
theorem ep_some {e : Expr} {k : Int} (h : Evals c env ρ e (.int k)) : EvPart c env ρ (some e) (some k) := fun M s Q E F hQ => by
  refine wpAny_evalPart_some (h M s _ E F fun v s' k D => ?_)
  simp only [Den] at D
  obtain ⟨t, rfl⟩ := D
  exact hQ _ s' k (.int _ t)

def cut {α : Type} (ds : List α) (lo hi : Option Int) : List α := (ds.drop (lo.elim 0 (clipAt ds.length))).take (hi.elim ds.length (clipAt ds.length) - lo.elim 0 (clipAt ds.length))

theorem denL_drop {g : Kn} : ∀ {ds : List D} {vs : List Value}, DenL g ds vs → ∀ k, DenL g (ds.drop k) (vs.drop k)
  | _, _, h, 0 => h
  | [], _, h, k + 1 => by simp only [DenL] at h; subst h; rfl
  | d :: ds, _, h, k + 1 => by
    simp only [DenL] at h
    obtain ⟨v, r, rfl, _, h2⟩ := h
    exact denL_drop h2 k
theorem denL_take {g : Kn} : ∀ {ds : List D} {vs : List Value}, DenL g ds vs → ∀ k, DenL g (ds.take k) (vs.take k)
  | _, _, h, 0 => by simp only [List.take_zero]; rfl
  | [], _, h, k + 1 => by simp only [DenL] at h; subst h; rfl
  | d :: ds, _, h, k + 1 => by
    simp only [DenL] at h
    obtain ⟨v, r, rfl, h1, h2⟩ := h
    exact ⟨v, r.take k, rfl, h1, denL_take h2 k⟩

theorem ev_slice {value : Expr} {lower upper : Option Expr} {p pos : Pos} {ds : List D} {lo hi : Option Int} (h1 : Evals c env ρ value (.lst ds)) (hl : EvPart c env ρ lower lo) (hu : EvPart c env ρ upper hi) (hz : ds.length ≤ 2 ^ 20) :
    Evals c env ρ (.Subscript value (.Slice lower upper none p) pos) (.lst (cut ds lo hi)) := by
  intro M s Q E F hQ
  refine Subscript_ (h1 M s _ E F fun v1 s1 k1 D1 => wpAny_Slice (hl M s1 _ E (F.keeps k1) fun v2 s2 k2 p2 => hu M s2 _ E ((F.keeps k1).keeps k2) fun v3 s3 k3 p3 => ?_))
  rw [evalPart_none]
  refine wpAny_pure ?_
  have D1' := D1.mono (knM.keeps (k2.trans k3))
  simp only [Den] at D1'
  obtain ⟨a, vs, n, rfl, ho, hlv⟩ := D1'
  have e1 := denL_length hlv
  rw [Array.length_toList] at e1
  have hL : s3.heap.IsList a vs := ⟨_, ho.1, rfl, n, rfl⟩
  refine tail_any (Heap.IsList.typeIs (s := { s3 with heap := s3.heap.push { cls := .type "slice", data := .fields #[v2, v3, .none] } }) (hL.push _)) slot_list_getitem.lookup
    (wpAny_getItem_list_slice (hL.push _) (Heap.IsSliceOf.new ..) p2 p3 .none (by simp) ?_ (by rw [e1]; exact Nat.le_trans hz (by decide))) (ops := [.ref s3.heap.objs.size, .ref a]) (by with_unfolding_all rfl)
  have kk : Ke s3 { s3 with heap := (s3.heap.push { cls := .type "slice", data := .fields #[v2, v3, .none] }).push { cls := .type "list", data := .seq (slicePick vs lo hi none) } } :=
    ⟨_, s3.toks, rfl, fun b o e => Heap.get?_push_of_some _ (Heap.get?_push_of_some _ e)⟩
  refine hQ _ _ (k1.trans (k2.trans (k3.trans kk))) ?_
  simp only [Den]
  refine ⟨_, _, _, rfl, ⟨Heap.get?_push_size _ rfl, ?_⟩, ?_⟩
  · refine (((F.keeps k1).keeps k2).keeps k3).fresh ?_
    cases e : s3.heap.get? (s3.heap.push { cls := .type "slice", data := .fields #[v2, v3, .none] }).objs.size with
    | none => rfl
    | some o => have := Heap.lt_size e; rw [Heap.size_push] at this; exact absurd this (Nat.not_lt.mpr (Nat.le_succ _))
  · have e2 : (slicePick vs lo hi none).toList = (vs.toList.drop (lo.elim 0 (clipAt ds.length))).take (hi.elim ds.length (clipAt ds.length) - lo.elim 0 (clipAt ds.length)) := by
      rw [slicePick_plain]
      have : vs.size = ds.length := e1
      rw [this]
    rw [e2]
    exact denL_take (denL_drop (hlv.mono (knM.keeps kk)) _) _

/-- the first place of d in ds -/
def idx (d : D) (ds : List D) : Nat := ds.findIdx fun y => eqb y d

theorem ev_index {o e : Expr} {apos pos : Pos} {ds : List D} {d : D} (n : Nat) (h1 : Evals c env ρ o (.lst ds)) (h2 : Evals c env ρ e d) (hd : lvl n d = true) (he : lvl n (.lst ds) = true) (hn : n ≤ 20) (hA : c.A.units + 100 < cLine)
    (hin : idx d ds < ds.length) (hz : ds.length ≤ 2 ^ 20)
    (hbase : attributeBase o ("index" : Str) env (eval o env) = eval o env := by with_unfolding_all rfl) (hline : (apos.endLine == pos.line) = true := by with_unfolding_all rfl)
    (htrees : backTo pos (starEach [e] env) = [(false, eval e env)] := by with_unfolding_all rfl) :
    Evals c env ρ (.Call (.Attribute o ("index" : Str) apos) [e] [] pos) (.int (idx d ds)) := by
  intro M s Q E F hQ
  refine wpAny_Call_method1_late hbase hline htrees (h1 M s _ E F fun v1 s1 k1 D1 => ?_)
  have D1' := D1
  simp only [Den] at D1'
  obtain ⟨a, vs, k, rfl, ho, hl⟩ := D1'
  refine ⟨"list", "list.index", PySem.F.plainAttrs_list, PySem.F.slot_list_index, PySem.F.type_list_index, ⟨_, ho.1, rfl⟩, fun a' e => by cases e; exact ⟨_, ho.1, rfl⟩, ?_⟩
  refine Calls.callWith_builtin rfl (Calls.evalArgs_plain (Calls.spliced_cons (h2 M s1 _ E (F.keeps k1) fun v2 s2 k2 D2 => Calls.spliced_nil ?_)))
  have ho2 := k2.get _ _ ho.1
  have hl2 := hl.mono (knM.keeps k2)
  obtain ⟨as, r2⟩ := lvl_reads (h := s2.heap) (fun a o x => x.1) n d v2 hd D2
  have c2 := lvl_can n d hd
  have e1 := denL_length hl2
  rw [Array.length_toList] at e1
  have lvlAll : ∀ y ∈ ds, lvl n y = true := by
    cases n with
    | zero => cases he
    | succ n =>
      intro y hy
      have := List.all_eq_true.mp he y hy
      have up : ∀ (m : Nat) (d : D), lvl m d = true → lvl (m + 1) d = true := by
        intro m
        induction m with
        | zero =>
          intro d h
          cases d with
          | none => rfl
          | bool b => rfl
          | int i => rfl
          | str x => cases h
          | own a => cases h
          | dct H kvs => cases h
          | tup ds => cases h
          | lst ds => cases h
        | succ m ih =>
          intro d h
          cases d with
          | tup ds => exact List.all_eq_true.mpr fun y hy => ih y (List.all_eq_true.mp h y hy)
          | lst ds => exact List.all_eq_true.mpr fun y hy => ih y (List.all_eq_true.mp h y hy)
          | none => rfl
          | bool b => rfl
          | int i => rfl
          | str x => cases h
          | own a => cases h
          | dct H kvs => cases h
      exact up n y this
  let ev : Value → Bool := fun y => PyData.eqv (PySem.SeqAt.readOf s2.heap y) d.py
  have hrd : ∀ (j : Nat) (v : Value) (y : D), vs[j]? = some v → ds[j]? = some y → ev v = eqb y d ∧ SeqAt.EqAt c.A.in1 s2 v v2 (ev v) := by
    intro j v y hv hy
    have hD := denL_get hl2 (by simpa using hv) hy
    have ly := lvlAll y (List.mem_of_getElem? hy)
    obtain ⟨bs, r1⟩ := lvl_reads (h := s2.heap) (fun a o x => x.1) n y v ly hD
    have c1 := lvl_can n y ly
    have er : PySem.SeqAt.readOf s2.heap v = y.py := SeqAt.readOf_eq c1.1 r1
    have e' : ev v = eqb y d := by show PyData.eqv _ _ = _; rw [er]; rfl
    refine ⟨e', ?_⟩
    rw [e']
    refine SeqAt.eqAt_reads _ _ c.A.in1 s2 v v2 _ _ r1 r2 c1.1 c2.1 ?_
    have := Nat.min_le_left y.py.depth d.py.depth
    show c.A.units + 1 + _ < _
    omega
  have hlt : idx d ds < vs.size := by rw [e1]; exact hin
  have hcur : ∀ j (hj : j < vs.size), ∃ y, ds[j]? = some y ∧ ev vs[j] = eqb y d ∧ SeqAt.EqAt c.A.in1 s2 vs[j] v2 (ev vs[j]) := by
    intro j hj
    have hj' : j < ds.length := by rw [← e1]; exact hj
    have hy : ds[j]? = some ds[j] := List.getElem?_eq_getElem hj'
    exact ⟨_, hy, hrd j _ _ (Array.getElem?_eq_getElem hj) hy⟩
  refine call_meets PySem.F.slot_list_index ⟨_, ho2, rfl⟩ PySem.F.entry_list_index (PySem.F.args_list_index_2 _ _)
    (SeqAt.list_indexAt a vs k none #[] v2 ev (idx d ds) hlt (by omega) ?_ ?_) ⟨ho2, fun y hy => ?_, ?_⟩
  · obtain ⟨y, hy, e', _⟩ := hcur _ hlt
    rw [e']
    have := List.findIdx_getElem (xs := ds) (p := fun y => eqb y d) (w := hin)
    rw [List.getElem?_eq_getElem hin] at hy
    cases hy
    exact this
  · intro m hm hlt'
    obtain ⟨y, hy, e', _⟩ := hcur m hm
    rw [e']
    have hm' : m < ds.length := by rw [← e1]; exact hm
    have := List.not_of_lt_findIdx (xs := ds) (p := fun y => eqb y d) hlt'
    rw [List.getElem?_eq_getElem hm'] at hy
    cases hy
    simpa using this
  · obtain ⟨j, hj, rfl⟩ := Array.mem_iff_getElem.mp hy
    exact (hcur j hj).choose_spec.2.2
  · exact hQ _ _ (k1.trans (k2.trans (.tok s2 _))) (by simp only [Den]; exact ⟨_, rfl⟩)
end

section 
open PySem PySem.W PyProof.Rows
set_option linter.unusedVariables false
set_option maxRecDepth 100000

theorem list_no_keys : typeLookup (.type "list") ("keys" : Str) = pure none := am_miss_of_fast (by kernel_rfl)

theorem keys_miss {prog : Program} {w : World} {A : Around} {E : Value → Shared → Prop} {s : Shared} {a : Addr} {xs : Array Value} {k : Nat} {Q : Option Value → Shared → Prop}
    (hx : s.heap.get? a = some { cls := .type "list", data := .seq xs k }) (hA : A.handled = none)
    (h : ∀ h' tk, (∀ b o, s.heap.get? b = some o → h'.get? b = some o) → Q none { s with heap := h', toks := tk }) : wpAny (model prog w) A (getAttr? (.ref a) ("keys" : Str)) Q E s := by
  obtain ⟨hp, g, d, tk, os⟩ := s
  have hT : ∀ tk', (⟨hp, g, d, tk', os⟩ : Shared).TypeIs (.ref a) "list" := fun _ => ⟨_, hx, rfl⟩
  have f1 := sub_AttributeError
  have f3 := F.slot_list_getattribute.lookup
  have f4 := F.slot_list_getattribute.bind (.ref a)
  have f5 := am_list_getattr_none
  unfold getAttr? getAttrBy? getAttrBy
  repeat (any_goals (first | assumption | exact hT _ | ((with_reducible show wpAny _ _ (call (Value.builtin "list.__getattribute__") _ _) _ _ _); refine call_meets F.slot_list_getattribute (hT _) am_entry_list_getattribute (F.args_list_getattribute_2 _ _) (meets_getattribute_miss_list a xs k #[] _ _ list_no_keys (by decide +kernel)) ⟨hx, hA, fun h' tk' e hx' => ?_⟩) | wp_step))
  obtain ⟨t', u', he⟩ := hx'.there
  show wpAny _ _ (getattributeRaised _ _ _ _ _ _ _) _ _ _
  unfold getattributeRaised
  repeat (any_goals (first | assumption | wp_step))
  exact h h' tk' hx'.keeps

/-- the keys in the order in which they came first -/
def firsts (ks : List Int) : List Int := ks.foldl (fun acc k => if k ∈ acc then acc else acc ++ [k]) []

theorem stored_keys (kvs : List (Int × Value)) (k : Int) (v : Value) : (stored kvs k v).map (·.1) = if k ∈ kvs.map (·.1) then kvs.map (·.1) else kvs.map (·.1) ++ [k] := by
  unfold stored
  by_cases h : k ∈ kvs.map (·.1)
  · have h' : kvs.any (fun kv => kv.1 = k) = true := by
      obtain ⟨p, hp, e⟩ := List.mem_map.mp h
      exact List.any_eq_true.mpr ⟨p, hp, by simpa using e⟩
    rw [if_pos h', if_pos h, List.map_map]
    apply List.map_congr_left
    intro p _
    simp only [Function.comp]
    split <;> rfl
  · have h' : ¬ kvs.any (fun kv => kv.1 = k) = true := fun q => by
      obtain ⟨p, hp, e⟩ := List.any_eq_true.mp q
      exact h (List.mem_map.mpr ⟨p, hp, by simpa using e⟩)
    rw [if_neg h', if_neg h, List.map_append]; rfl

def pairsD (ks : List Int) : List D := ks.map fun k => D.tup [.int k, .int 1]

theorem entry_update_loop : entryFor table "dict.update.loop" = some Builtin.«dict.update.loop» := entryFor_of_fast (by kernel_rfl)
theorem plain_update_loop : plainId "dict.update.loop" = true := by decide +kernel

/-- the loop that fills a new dict from a list of pairs -/
theorem update_loop {prog : Program} {w : World} {A : Around} {R : Result → Shared → Prop} {d it l : Addr} {vs : Array Value} {n : Nat} (ks : List Int) (hh : A.handled = none) (hdi : d ≠ it) (hlen : vs.size = ks.length) (hz : ks.length ≤ sizeLine) :
    ∀ (m i : Nat) (s : Shared) (kvs : List (Int × Value)), ks.length - i = m → i ≤ ks.length → s.heap.IsListIter it l i → s.heap.get? l = some { cls := .type "list", data := .seq vs n } → s.heap.DictOf (intKind prog w) d kvs → kvs.length ≤ i →
      (∀ (j : Nat) (v : Value) (k : Int), vs[j]? = some v → ks[j]? = some k → ∃ a t t' n', v = Value.ref a ∧ s.heap.get? a = some { cls := .type "tuple", data := .seq #[.int k t, .int 1 t'] n' }) → l ≠ it → l ≠ d →
      (∀ h' tk kvs', h'.DictOf (intKind prog w) d kvs' → kvs'.map (·.1) = (ks.drop i).foldl (fun acc k => if k ∈ acc then acc else acc ++ [k]) (kvs.map (·.1)) → kvs'.length ≤ ks.length → (∀ b o, b ≠ d → b ≠ it → s.heap.get? b = some o → h'.get? b = some o) → R (.ok (.ret .none)) (At s h' tk)) →
      codeAny (model prog w) A (.builtin "dict.update.loop" ⟨[.ref d, .ref it, rawInt i, .none], []⟩) R s := by
  intro m
  induction m with
  | zero =>
    intro i s kvs hm hi hit hl hd hk hp hli hld hR
    have he : i = ks.length := by omega
    subst he
    refine codeAny_builtin entry_update_loop ?_
    rw [Around.under_plainId plain_update_loop]
    unfold Builtin.«dict.update.loop»
    refine wpAny_bind (wpAny_pyNext_list_end (A := A.in1) hh hit ⟨_, hl, rfl, n, rfl⟩ (by simp [hlen]) fun h' he' => ?_)
    show wpAny _ _ (Builtin.Dict.addKeywords d [] >>= _) _ _ _
    refine wpAny_bind (wpAny_pure (wpAny_pure ?_))
    have hd' : h'.DictOf (intKind prog w) d kvs := by
      obtain ⟨o, es, ep, ho, r⟩ := hd
      exact ⟨o, es, ep, he' _ _ hdi ho, r⟩
    exact hR h' s.toks kvs hd' (by rw [List.drop_length]; rfl) (by omega) fun b o _ hb e => he' b o hb e
  | succ m ih =>
    intro i s kvs hm hi hit hl hd hk hp hli hld hR
    have hlt : i < ks.length := by omega
    have hv : vs[i]? = some vs[i] := Array.getElem?_eq_getElem (by omega)
    have hki : ks[i]? = some ks[i] := List.getElem?_eq_getElem hlt
    obtain ⟨a, t, t', n', hva, ha⟩ := hp i _ _ hv hki
    refine codeAny_builtin entry_update_loop ?_
    rw [Around.under_plainId plain_update_loop]
    unfold Builtin.«dict.update.loop»
    refine wpAny_bind (wpAny_pyNext_list_item (A := A.in1) hit ⟨_, hl, rfl, n, rfl⟩ hv fun h' hit' hs => ?_)
    have keepI : ∀ b o, b ≠ it → s.heap.get? b = some o → h'.get? b = some o := fun b o hb e => hs.extBut b o hb e
    have hai : a ≠ it := by
      rintro rfl
      obtain ⟨o, ho, hc, _⟩ := hit
      rw [ho] at ha; cases ha
      exact absurd (show Value.type "tuple" = Value.type "list_iterator" from hc) (by decide)
    have ha' := keepI _ _ hai ha
    rw [hva]
    dsimp only
    refine wpAny_bind (wpAny_holding ?_)
    refine wpAny_bind (wpAny_tryCatch ?_)
    unfold Builtin.Dict.pairItems
    refine wpAny_bind (wpAny_typeOf ⟨_, ha', rfl⟩ ?_)
    rw [if_pos (by decide)]
    refine wpAny_bind (wpAny_seqItems ha' rfl (wpAny_pure ?_))
    dsimp only [Option.getD]
    have hd' : h'.DictOf (intKind prog w) d kvs := by
      obtain ⟨o, es, ep, ho, r⟩ := hd
      exact ⟨o, es, ep, keepI _ _ hdi ho, r⟩
    show wpAny _ _ (holding _ (dictSet d _ _)) _ _ _
    refine wpAny_holding (wpAny_dictSet_pairs (knd := intKind prog w) (k := ks[i]) (intKind_is prog w _ _) hd' (fun h2 hd2 hs2 => ?_) (by omega))
    have keep2 : ∀ b o, b ≠ d → b ≠ it → s.heap.get? b = some o → h2.get? b = some o := fun b o h1 h3 e => hs2.extBut b o h1 (keepI b o h3 e)
    have e1 : (rawInt i : Value) = .int i 0 := rfl
    show wpAny _ _ (again (.builtin "dict.update.loop" ⟨[.ref d, .ref it, rawInt ((i : Int) + 1), .none], []⟩)) _ _ _
    have e2 : ((i : Int) + 1) = ((i + 1 : Nat) : Int) := by push_cast; rfl
    rw [e2]
    refine wpAny_pure ⟨plainId_quiet plain_update_loop _, ih (i + 1) (At s h2 (s.toks + 1)) (stored kvs ks[i] (.int 1 t')) (by omega) hlt ?_ ?_ hd2 ?_ ?_ hli hld ?_⟩
    · exact hit'.at fun o e => hs2.extBut _ _ (Ne.symm hdi) e
    · exact keep2 _ _ hld hli hl
    · have := congrArg List.length (stored_keys kvs ks[i] (.int 1 t'))
      rw [List.length_map] at this
      rw [this]
      split <;> simp <;> omega
    · intro j v k hv hk
      obtain ⟨a, t, t', n', e, ho⟩ := hp j v k hv hk
      refine ⟨a, t, t', n', e, keep2 _ _ ?_ ?_ ho⟩
      · rintro rfl
        obtain ⟨o, es, ep, ho', hx, _⟩ := hd
        rw [ho'] at ho; cases ho
        exact absurd (show Value.type "tuple" = Value.type "dict" from hx.1) (by decide)
      · rintro rfl
        obtain ⟨o, ho', hc, _⟩ := hit
        rw [ho'] at ho; cases ho
        exact absurd (show Value.type "tuple" = Value.type "list_iterator" from hc) (by decide)
    · intro h3 tk kvs' hd3 hk3 hl3 keep3
      refine hR h3 tk kvs' hd3 ?_ hl3 fun b o h1 h4 e => keep3 b o h1 h4 (keep2 b o h1 h4 e)
      rw [hk3, stored_keys]
      have : ks.drop i = ks[i] :: ks.drop (i + 1) := List.drop_eq_getElem_cons hlt
      rw [this, List.foldl_cons]

variable {c : Cx} {env : Env} {ρ : St}

/-- len(dict(e)) of a list of pairs (k, 1) -/
theorem ev_lendict {np np2 pos pos2 : Pos} {e : Expr} {ks : List Int} (hG : GName c.B ("len" : Str) (.builtin "len")) (hG2 : GName c.B ("dict" : Str) (.type "dict")) (hh : c.A.handled = none) (hst : ∃ o, c.B.get? cStatics = some o)
    (h : Evals c env ρ e (.lst (pairsD ks))) (hz : ks.length ≤ 2 ^ 20)
    (hx : env.kindOf ("len" : Str) = some .globalImplicit) (hx2 : env.kindOf ("dict" : Str) = some .globalImplicit)
    (hs : starEach [Expr.Call (.Name ("dict" : Str) np2) [e] [] pos2] env = [(false, eval (Expr.Call (.Name ("dict" : Str) np2) [e] [] pos2) env)] := by with_unfolding_all rfl)
    (hs2 : starEach [e] env = [(false, eval e env)] := by with_unfolding_all rfl) :
    Evals c env ρ (.Call (.Name ("len" : Str) np) [.Call (.Name ("dict" : Str) np2) [e] [] pos2] [] pos) (.int (firsts ks).length) := by
  intro M s Q E F hQ
  refine Call_ (ev_global hG F hx (by decide) ?_)
  rw [hs]
  refine PySem.callWith_builtin1 ?_
  refine Call_ (ev_global hG2 F hx2 (by decide) ?_)
  rw [hs2]
  refine PySem.callWith_type1 (h M s _ E F fun v s1 k1 D1 => ?_)
  simp only [Den] at D1
  obtain ⟨l, vs, n, rfl, ho, hl⟩ := D1
  have hlen : vs.size = ks.length := by
    have := denL_length hl
    rw [Array.length_toList, pairsD, List.length_map] at this
    exact this
  have F1 := F.keeps k1
  have hbig : sysModules < s1.heap.objs.size := by
    obtain ⟨o, ho⟩ := hst
    exact Nat.lt_trans (by decide) (Heap.lt_size (F1.base _ _ ho))
  refine callType_codes (Q₁ := fun obj s₁ => obj = .ref s1.heap.objs.size ∧ s₁ = { s1 with heap := s1.heap.push { cls := .type "dict", data := .dict #[] } }) PySem.F.kt_called_dict (PySem.F.kt_typeCall_dict_1 _) PySem.F.entry_dict_init (kt_code_dict_new _ ⟨rfl, rfl⟩) ?_
  rintro obj s₁ ⟨rfl, rfl⟩
  have hnew : (s1.heap.push { cls := .type "dict", data := .dict #[] }).DictOf (intKind c.prog c.w) s1.heap.objs.size [] := Heap.DictOf.new s1.heap
  refine ⟨hnew.typeIs, PySem.F.args_dict_init_2 _ _, ?_⟩
  unfold Builtin.«dict.__init__»
  refine wpAny_bind ?_
  unfold Builtin.Dict.selfAndRest
  refine wpAny_bind (wpAny_notOrdered_dict hnew.typeIs ?_)
  show wpAny _ _ (pure (s1.heap.objs.size, [Value.ref l])) _ _ _
  refine wpAny_pure ?_
  show wpAny _ _ (Builtin.Dict.updateFrom "dict.__init__" s1.heap.objs.size (.ref l) [] .none) _ _ _
  unfold Builtin.Dict.updateFrom
  have hl1 : (s1.heap.push { cls := .type "dict", data := .dict #[] }).get? l = some { cls := .type "list", data := .seq vs n } := Heap.get?_push_of_some _ ho.1
  refine wpAny_bind (wpAny_typeOf ⟨_, hl1, rfl⟩ ?_)
  rw [if_pos (by decide)]
  refine wpAny_bind (keys_miss hl1 hh fun h2 t2 hk2 => ?_)
  simp only [Option.isNone_none, if_true]
  refine wpAny_bind (wpAny_rule ?_)
  have hl2 := hk2 _ _ hl1
  refine wpAny_bind (wpAny_pyIter_list ⟨_, hl2, rfl, n, rfl⟩ ?_)
  have hd2 : h2.DictOf (intKind c.prog c.w) s1.heap.objs.size [] := by
    obtain ⟨o, es, ep, hod, r⟩ := hnew
    exact ⟨o, es, ep, hk2 _ _ hod, r⟩
  have hne1 : s1.heap.objs.size ≠ h2.objs.size := by
    obtain ⟨o, es, ep, hod, _⟩ := hd2
    exact Nat.ne_of_lt (Heap.lt_size hod)
  have hlI : l ≠ h2.objs.size := Nat.ne_of_lt (Heap.lt_size hl2)
  have hlD : l ≠ s1.heap.objs.size := Nat.ne_of_lt (Heap.lt_size ho.1)
  have kp : ∀ b o, h2.get? b = some o → (h2.push { cls := .type "list_iterator", data := .fields #[.ref l, .int 0 0] }).get? b = some o := fun b o e => Heap.get?_push_of_some _ e
  refine wpAny_pure ⟨plainId_quiet plain_update_loop _, ?_⟩
  refine update_loop (A := c.A.in1) (l := l) (vs := vs) (n := n) ks hh hne1 hlen (Nat.le_trans hz (by decide)) ks.length 0 (At s1 (h2.push { cls := .type "list_iterator", data := .fields #[.ref l, .int 0 0] }) t2) [] rfl (Nat.zero_le _) ⟨_, Heap.get?_push_size _ rfl, rfl, rfl⟩ (kp _ _ hl2) ?_ (Nat.le_refl _) ?_ hlI hlD ?_
  · obtain ⟨o, es, ep, hod, r⟩ := hd2
    exact ⟨o, es, ep, kp _ _ hod, r⟩
  · intro j v k hv hk
    have hD := denL_get hl (j := j) (v := v) (d := .tup [.int k, .int 1]) (by simpa using hv) (by rw [pairsD, List.getElem?_map, hk]; rfl)
    simp only [Den, DenL] at hD
    obtain ⟨a, us, n', rfl, hoa, u1, r1, hus, ⟨t, rfl⟩, u2, r2, rfl, ⟨t', rfl⟩, rfl⟩ := hD
    refine ⟨a, t, t', n', rfl, kp _ _ (hk2 _ _ (Heap.get?_push_of_some _ ?_))⟩
    have : us = #[.int k t, .int 1 t'] := by
      apply Array.toList_inj.mp
      rw [hus]
    rw [← this]; exact hoa.1
  · intro h' tk kvs' hd' hk' hl' keep'
    rw [List.drop_zero, List.map_nil] at hk'
    refine ⟨rfl, ?_⟩
    have hfl : kvs'.length = (firsts ks).length := by
      have := congrArg List.length hk'
      rw [List.length_map] at this
      exact this
    have kf : Ke s1 (At s1 h' tk) := by
      refine ⟨h', tk, rfl, fun b o e => keep' b o ?_ ?_ (kp _ _ (hk2 _ _ (Heap.get?_push_of_some _ e)))⟩
      · rintro rfl; rw [get?_size_none] at e; cases e
      · rintro rfl
        have := Heap.lt_size (hk2 _ _ (Heap.get?_push_of_some { cls := .type "dict", data := .dict #[] } e))
        exact Nat.lt_irrefl _ this
    have hne : (s1.heap.objs.size == sysModules) = false := by
      simpa using Nat.ne_of_gt hbig
    refine call_len_dict (s := At s1 h' tk) (knd := intKind c.prog c.w) hne hd' (by omega) ?_
    refine hQ _ _ (k1.trans (kf.trans (.tok _ _))) ?_
    simp only [Den]
    exact ⟨_, by rw [hfl]⟩
end

section 
open PySem PySem.W PyProof.Rows
set_option linter.unusedVariables false
set_option maxRecDepth 100000

/-- the text's defs, out of the given program -/
def stm (i : Nat) : Stmt := PySem.Challenge.pw_hl0001_01.main.body.getD i (.Pass ⟨0, 0, 0, 0⟩)
def bodyOf : Stmt → List Stmt
  | .FunctionDef _ _ body .. => body
  | _ => []
def scopeOf : Stmt → Scope
  | .FunctionDef _ _ _ _ _ _ scope .. => scope
  | _ => { kind := .function, names := [], isGenerator := false, isCoroutine := false }
def argsOf : Stmt → Arguments
  | .FunctionDef _ args .. => args
  | _ => ⟨[], [], none, [], [], none, []⟩
def nameOf : Stmt → Str
  | .FunctionDef name .. => name
  | _ => ""
def fdAt (i : Nat) (dV kV pm : Value) (cd : Addr) : FuncData :=
  { name := nameOf (stm i), qualname := nameOf (stm i), params := argsOf (stm i), body := .stmts (bodyOf (stm i)), scope := scopeOf (stm i), globals := mainGlobals, closure := [],
    defaults := dV, kwdefaults := kV, pyModule := pm, code := .ref cd, builtins := builtinsNs }

def fdLots : FuncData := fdAt 7 .none .none (.str ("law_hl0001_01" : Str) 238) 50
def envLots (L : Addr) : Env := callEnvC fdLots L 51

end

section 
open PySem PySem.W PyProof.Rows
set_option linter.unusedVariables false
set_option maxRecDepth 100000

variable {c : Cx} {env : Env} {ρ : St}

/-- ρ tells l, and nothing is written to in place -/
def Sub (l : List (String × D)) (ρ : St) : Prop := (∀ p ∈ l, ρ.vars.lookup p.1 = some p.2) ∧ ρ.owns = []
theorem Sub.nil {v : List (String × D)} : Sub [] ⟨v, []⟩ := And.intro (fun _ h => by cases h) rfl
theorem Sub.cons {x : String} {d : D} {l : List (String × D)} (h : ρ.vars.lookup x = some d) (s : Sub l ρ) : Sub ((x, d) :: l) ρ :=
  And.intro (fun p hp => (List.mem_cons.mp hp).elim (fun e => e ▸ h) (fun hp => s.1 p hp)) s.2
theorem memOfLookup {α : Type} : ∀ {l : List (String × α)} {n : String} {c : α}, l.lookup n = some c → (n, c) ∈ l
  | (k, v) :: r, n, c, h => by
    rw [List.lookup_cons] at h
    cases hb : n == k with
    | true => rw [hb] at h; cases h; rw [beq_iff_eq.mp hb]; exact List.mem_cons_self
    | false => rw [hb] at h; exact List.mem_cons_of_mem _ (memOfLookup h)
theorem Tree.from {t : Sem Flow} {Φ : Post} {l : List (String × D)} (hs : Sub l ρ) (h : Tree c env ⟨l, []⟩ t Φ) : Tree c env ρ t Φ :=
  h.weaken (fun x d e => hs.1 _ (memOfLookup e)) (List.nil_sublist _)
theorem Sub.set {l : List (String × D)} {x : String} {d : D} (hs : Sub l ρ) (hx : ∀ p ∈ l, p.1 ≠ x) : Sub l (ρ.set x d) :=
  ⟨fun p hp => by rw [St.set, lookup_upd, if_neg (hx p hp)]; exact hs.1 p hp, hs.2⟩

def ClOf (env : Env) (cl : List (Str × Addr)) : Prop := ∀ p ∈ cl, env.cells.lookup p.1 = some p.2
theorem ClOf.nil : ClOf env [] := fun _ h => nomatch h
theorem ClOf.cons {n : Str} {k : Addr} {cl : List (Str × Addr)} (h : env.cells.lookup n = some k) (r : ClOf env cl) : ClOf env ((n, k) :: cl) :=
  fun p hp => by rcases List.mem_cons.mp hp with rfl | hp; exact h; exact r p hp

def VarsOf (env : Env) (ρ : St) (scope : Scope) (cl : List (Str × Addr)) (x : String) (ρc : List (String × D)) : Prop :=
  ∀ p ∈ ρc, p.1 ≠ x ∧ ρ.vars.lookup p.1 = some p.2 ∧ env.kindOf (Str.ofString p.1) ≠ some .local ∧ (cl.lookup (Str.ofString p.1)).isSome = true ∧
    (cellsFrom 0 scope.names []).lookup (Str.ofString p.1) = none ∧ ((relabel scope env).names.lookup (Str.ofString p.1) = some .cell ∨ (relabel scope env).names.lookup (Str.ofString p.1) = some .free)
theorem VarsOf.nil {scope : Scope} {cl : List (Str × Addr)} {x : String} : VarsOf env ρ scope cl x [] := fun _ h => nomatch h
theorem VarsOf.cons {scope : Scope} {cl : List (Str × Addr)} {x y : String} {d : D} {ρc : List (String × D)} (h1 : y ≠ x) (h2 : ρ.vars.lookup y = some d) (h3 : env.kindOf (Str.ofString y) = some .cell ∨ env.kindOf (Str.ofString y) = some .free) (h4 : (cl.lookup (Str.ofString y)).isSome = true)
    (h5 : (cellsFrom 0 scope.names []).lookup (Str.ofString y) = none) (h6 : (relabel scope env).names.lookup (Str.ofString y) = some .cell ∨ (relabel scope env).names.lookup (Str.ofString y) = some .free)
    (r : VarsOf env ρ scope cl x ρc) : VarsOf env ρ scope cl x ((y, d) :: ρc) :=
  fun p hp => by rcases List.mem_cons.mp hp with rfl | hp; exact ⟨h1, h2, (fun e => by rcases h3 with h3 | h3 <;> (rw [h3] at e; cases e)), h4, h5, h6⟩; exact r p hp

theorem CompOk.make {scope : Scope} {cl : List (Str × Addr)} {x : String} {ρc : List (String × D)} (clos : closureFor scope env = pure cl) (kind : scope.kind = .function)
    (names : ∀ y ∈ scope.names, y.2 = .local → scope.names.lookup y.1 = some .local) (sub : ClOf env cl) (own : cl.lookup (Str.ofString x) = none)
    (tgt : scope.names.lookup (Str.ofString x) = some .local ∨ (scope.names.lookup (Str.ofString x) = some .cell ∧ ((cellsFrom 0 scope.names []).lookup (Str.ofString x)).isSome = true))
    (vars : VarsOf env ρ scope cl x ρc) : CompOk env ρ scope cl x ρc :=
  ⟨clos, kind, names, fun n k h => sub _ (mem_of_lookup h), own, tgt, fun y d h => vars _ (memOfLookup h)⟩

theorem Tests.to {e : Expr} {b b' : Bool} (h : Tests c env ρ e b) (q : b = b') : Tests c env ρ e b' := q ▸ h
theorem Evals.to {e : Expr} {d d' : D} (h : Evals c env ρ e d) (q : d = d') : Evals c env ρ e d' := q ▸ h

/-! the plain functions -/
def atI (l : List Int) (i : Int) : Int := l.getD i.toNat 0
abbrev Row := Int × Int × Int
def rowAt (d0 d1 lots : List Int) (p : Int) : Row := (atI lots p, atI lots (atI d0 p), atI lots (atI d1 p))
def rowsOf (n : Nat) (d0 d1 lots : List Int) : List Row := (List.range n).map fun p : Nat => rowAt d0 d1 lots (Int.ofNat p)
def firstsG {α : Type} [DecidableEq α] (l : List α) : List α := l.foldl (fun acc r => if r ∈ acc then acc else acc ++ [r]) []
def afterOf (rows : List Row) : List Int := rows.map fun r => Int.ofNat ((firstsG rows).idxOf r)
def lotsRun (n : Nat) (d0 d1 : List Int) : Nat → List Int → Int → List Int × Int
  | 0, lots, steps => (lots, steps)
  | k + 1, lots, steps =>
    if (firstsG (rowsOf n d0 d1 lots)).length = (firstsG lots).length then (afterOf (rowsOf n d0 d1 lots), steps)
    else lotsRun n d0 d1 k (afterOf (rowsOf n d0 d1 lots)) (steps + 1)

def intsD (l : List Int) : D := .lst (l.map .int)
def rowD (r : Row) : D := .tup [.int r.1, .int r.2.1, .int r.2.2]

theorem eqb_row (r r' : Row) : eqb (rowD r) (rowD r') = decide (r = r') := by
  obtain ⟨a, b, c⟩ := r
  obtain ⟨a', b', c'⟩ := r'
  simp only [eqb, rowD, D.py, D.pys, PyData.eqv, PyData.eqvAll, Prod.mk.injEq, Bool.and_true]
  by_cases h1 : a = a' <;> by_cases h2 : b = b' <;> by_cases h3 : c = c' <;> simp [h1, h2, h3]
theorem eqb_int (a b : Int) : eqb (.int a) (.int b) = decide (a = b) := by
  simp only [eqb, D.py, PyData.eqv]
  by_cases h : a = b <;> simp [h]

theorem any_rows (r : Row) (l : List Row) : (l.map rowD).any (fun y => eqb y (rowD r)) = decide (r ∈ l) := by
  rw [List.any_map]
  induction l with
  | nil => simp
  | cons a l ih =>
    rw [List.any_cons, ih]
    simp only [Function.comp, eqb_row, List.mem_cons]
    by_cases h : a = r
    · subst h; simp
    · have : ¬ r = a := fun e => h e.symm
      simp [h, this]
theorem any_ints (r : Int) (l : List Int) : (l.map D.int).any (fun y => eqb y (.int r)) = decide (r ∈ l) := by
  rw [List.any_map]
  induction l with
  | nil => simp
  | cons a l ih =>
    rw [List.any_cons, ih]
    simp only [Function.comp, eqb_int, List.mem_cons]
    by_cases h : a = r
    · subst h; simp
    · have : ¬ r = a := fun e => h e.symm
      simp [h, this]
theorem idx_rows (r : Row) (l : List Row) : idx (rowD r) (l.map rowD) = l.idxOf r := by
  unfold idx List.idxOf
  rw [List.findIdx_map]
  congr 1
  funext a
  simp only [Function.comp, eqb_row]
  by_cases h : a = r <;> simp [h]
theorem idx_ints (r : Int) (l : List Int) : idx (.int r) (l.map D.int) = l.idxOf r := by
  unfold idx List.idxOf
  rw [List.findIdx_map]
  have : (fun a => eqb (.int a) (.int r)) = fun a => a == r := by
    funext a
    rw [eqb_int]
    by_cases h : a = r <;> simp [h]
  exact congrArg (fun q => List.findIdx q l) this

theorem lvl_row (n : Nat) (r : Row) : lvl (n + 1) (rowD r) = true := by simp [rowD, lvl]
theorem lvl_rows (n : Nat) (l : List Row) : lvl (n + 2) (.lst (l.map rowD)) = true := by
  simp only [lvl, List.all_map, List.all_eq_true]
  intro r _
  exact lvl_row n r
theorem lvl_ints (n : Nat) (l : List Int) : lvl (n + 1) (intsD l) = true := by
  simp [intsD, lvl, List.all_map]

theorem mem_firstsG_acc {α : Type} [DecidableEq α] (r : α) : ∀ (l acc : List α), r ∈ l.foldl (fun acc r => if r ∈ acc then acc else acc ++ [r]) acc ↔ r ∈ acc ∨ r ∈ l
  | [], acc => by simp
  | a :: l, acc => by
    rw [List.foldl_cons, mem_firstsG_acc r l]
    by_cases h : a ∈ acc
    · rw [if_pos h, List.mem_cons]
      constructor
      · rintro (h | h)
        · exact .inl h
        · exact .inr (.inr h)
      · rintro (h' | rfl | h')
        · exact .inl h'
        · exact .inl h
        · exact .inr h'
    · rw [if_neg h, List.mem_append, List.mem_singleton, List.mem_cons, or_assoc]
theorem mem_firstsG {α : Type} [DecidableEq α] (r : α) (l : List α) : r ∈ firstsG l ↔ r ∈ l := by
  rw [firstsG, mem_firstsG_acc]; simp
theorem firstsG_snoc {α : Type} [DecidableEq α] (l : List α) (r : α) : firstsG (l ++ [r]) = if r ∈ firstsG l then firstsG l else firstsG l ++ [r] := by
  rw [firstsG, List.foldl_append]; rfl
theorem firstsG_len {α : Type} [DecidableEq α] : ∀ (l acc : List α), (l.foldl (fun acc r => if r ∈ acc then acc else acc ++ [r]) acc).length ≤ acc.length + l.length
  | [], acc => by simp
  | a :: l, acc => by
    rw [List.foldl_cons]
    have := firstsG_len l (if a ∈ acc then acc else acc ++ [a])
    refine Nat.le_trans this ?_
    split <;> simp <;> omega
theorem firstsG_le {α : Type} [DecidableEq α] (l : List α) : (firstsG l).length ≤ l.length := by
  have := firstsG_len l []
  rw [List.length_nil, Nat.zero_add] at this
  exact this
end

section 
open PySem PySem.W PyProof.Rows
set_option linter.unusedVariables false
set_option maxRecDepth 100000

structure Gl (c : Cx) : Prop where
  list_ : GName c.B ("list" : Str) (.type "list")
  range : GName c.B ("range" : Str) (.type "range")
  len : GName c.B ("len" : Str) (.builtin "len")
  dict : GName c.B ("dict" : Str) (.type "dict")
  sorted : GName c.B ("sorted" : Str) (.builtin "sorted")
  isinst : GName c.B ("isinstance" : Str) (.builtin "isinstance")
  tuple : GName c.B ("tuple" : Str) (.type "tuple")
  stat : ∃ o, c.B.get? cStatics = some o

theorem Gl.deeper {c : Cx} (g : Gl c) (env : Env) : Gl (c.deeper env) := ⟨g.list_, g.range, g.len, g.dict, g.sorted, g.isinst, g.tuple, g.stat⟩

theorem item_int {l : List Int} {p : Int} (h0 : 0 ≤ p) (h : p < l.length) : (l.map D.int)[p.toNat]? = some (.int (atI l p)) := by
  have : p.toNat < l.length := by omega
  rw [List.getElem?_map, List.getElem?_eq_getElem this, atI, List.getD_eq_getElem?_getD, List.getElem?_eq_getElem this]
  rfl

theorem mem_rangeD {n : Nat} {d : D} (h : d ∈ rangeD n) : ∃ p : Nat, p < n ∧ d = .int p := by
  obtain ⟨p, hp, e⟩ := List.mem_map.mp h
  exact ⟨p, List.mem_range.mp hp, e.symm⟩
theorem length_rangeD (n : Nat) : (rangeD n).length = n := by simp [rangeD]
theorem get_rangeD {n i : Nat} {d : D} (h : (rangeD n)[i]? = some d) : i < n ∧ d = .int i := by
  have hi : i < n := by
    have := (List.getElem?_eq_some_iff.mp h).1
    rwa [length_rangeD] at this
  refine ⟨hi, ?_⟩
  rw [rangeD, List.getElem?_map, List.getElem?_range hi] at h
  cases h; rfl

def rowF (d0 d1 lots : List Int) : D → D
  | .int p => rowD (rowAt d0 d1 lots p)
  | _ => .none
theorem filt {α : Type} (l : List α) : l.filter (fun _ => true) = l := List.filter_eq_self.mpr (by simp)
theorem rows_made (n : Nat) (d0 d1 lots : List Int) : ((rangeD n).filter fun _ => true).map (rowF d0 d1 lots) = (rowsOf n d0 d1 lots).map rowD := by
  rw [filt, rangeD, rowsOf, List.map_map, List.map_map]
  rfl

theorem length_rowsOf (n : Nat) (d0 d1 lots : List Int) : (rowsOf n d0 d1 lots).length = n := by simp [rowsOf]
theorem length_afterOf (rows : List Row) : (afterOf rows).length = rows.length := by simp [afterOf]

theorem atI_mem {l : List Int} {p : Int} (h0 : 0 ≤ p) (h : p < l.length) : atI l p ∈ l := by
  have : p.toNat < l.length := by omega
  rw [atI, List.getD_eq_getElem?_getD, List.getElem?_eq_getElem this]
  exact List.getElem_mem this

def Deed (n : Nat) (d : List Int) : Prop := d.length = n ∧ ∀ x ∈ d, 0 ≤ x ∧ x < n

section
variable {c : Cx} {L : Addr} {n : Nat} {d0 d1 : List Int}

theorem lots_row {lots : List Int} {env : Env} {p0 p1 p2 p3 p4 p5 p6 p7 p8 p9 p10 p11 p12 p13 p14 p15 p16 p17 : Pos} {k0 k1 k2 : Nat} (hn : n ≤ 2 ^ 9) (h0 : Deed n d0) (h1 : Deed n d1) (hl : lots.length = n) {p : Nat} (hp : p < n) :
    Evals c env ⟨upd "place" (.int p) [("deeds", .lst [intsD d0, intsD d1]), ("lots", intsD lots)], []⟩
      (.Tuple [.Subscript (.Name ("lots" : Str) p0) (.Name ("place" : Str) p1) p2,
        .Subscript (.Name ("lots" : Str) p3) (.Subscript (.Subscript (.Name ("deeds" : Str) p4) (.Constant (.int 0) k0 p5) p6) (.Name ("place" : Str) p7) p8) p9,
        .Subscript (.Name ("lots" : Str) p10) (.Subscript (.Subscript (.Name ("deeds" : Str) p11) (.Constant (.int 1) k1 p12) p13) (.Name ("place" : Str) p14) p15) p16] k2 p17) (rowF d0 d1 lots (.int p)) := by
  have hp' : (p : Int) < n := by omega
  have b0 := h0.2 _ (atI_mem (l := d0) (p := p) (by omega) (by rw [h0.1]; exact hp'))
  have b1 := h1.2 _ (atI_mem (l := d1) (p := p) (by omega) (by rw [h1.1]; exact hp'))
  refine ev_tup (evl_cons (ev_item (ev_name rfl) (ev_name rfl) (by omega) (by omega) (item_int (by omega) (by omega)))
    (evl_cons (ev_item (ev_name rfl) (ev_item (ev_item (ev_name rfl) ev_int (by omega) (by omega) rfl) (ev_name rfl) (by omega) (by omega) (item_int (by omega) (by rw [h0.1]; exact hp'))) b0.1 (by omega) (item_int b0.1 (by omega)))
    (evl_cons (ev_item (ev_name rfl) (ev_item (ev_item (ev_name rfl) ev_int (by omega) (by omega) rfl) (ev_name rfl) (by omega) (by omega) (item_int (by omega) (by rw [h1.1]; exact hp'))) b1.1 (by omega) (item_int b1.1 (by omega)))
    evl_nil)))

theorem get_map_rowD {rows : List Row} {j : Nat} {d : D} (h : (rows.map rowD)[j]? = some d) : ∃ r, rows[j]? = some r ∧ d = rowD r := by
  rw [List.getElem?_map] at h
  cases hj : rows[j]? with
  | none => rw [hj] at h; cases h
  | some r => rw [hj] at h; cases h; exact ⟨r, rfl, rfl⟩
theorem get_map_int {l : List Int} {j : Nat} {d : D} (h : (l.map D.int)[j]? = some d) : ∃ r, l[j]? = some r ∧ d = .int r := by
  rw [List.getElem?_map] at h
  cases hj : l[j]? with
  | none => rw [hj] at h; cases h
  | some r => rw [hj] at h; cases h; exact ⟨r, rfl, rfl⟩

theorem names_step (rows : List Row) {j : Nat} {r : Row} (hr : rows[j]? = some r) : firstsG (rows.take (j + 1)) = firstsG (rows.take j) ++ (if r ∈ firstsG (rows.take j) then [] else [r]) := by
  rw [List.take_add_one, hr]
  show firstsG (rows.take j ++ [r]) = _
  rw [firstsG_snoc]
  split <;> simp

def afterF (rows : List Row) : D → D
  | .tup [.int a, .int b, .int c] => .int (Int.ofNat ((firstsG rows).idxOf (a, b, c)))
  | _ => .none
theorem after_made (rows : List Row) : ((rows.map rowD).filter fun _ => true).map (afterF rows) = (afterOf rows).map D.int := by
  rw [filt, afterOf, List.map_map, List.map_map]
  rfl
def pairF : D → D
  | .int a => .tup [.int a, .int 1]
  | _ => .none
theorem pairs_made (l : List Int) : ((l.map D.int).filter fun _ => true).map pairF = pairsD l := by
  rw [filt, pairsD, List.map_map]
  rfl
theorem firsts_eq (l : List Int) : firsts l = firstsG l := rfl

def Ends (r : D) : Post := fun fl _ => fl = .ret r ∨ (r = .none ∧ fl = .next)

theorem lots_runs {bright : List Int} (g : Gl c) (hA : AOk 0 c.A) (hn : n ≤ 2 ^ 9) (h0 : Deed n d0) (h1 : Deed n d1) (hb : bright.length = n) :
    Runs c (envLots L) ⟨[("bright", intsD bright), ("deeds", .lst [intsD d0, intsD d1]), ("many", .int n)], []⟩ (bodyOf (stm 7))
      (Ends (.tup [intsD (lotsRun n d0 d1 n bright 0).1, .int (lotsRun n d0 d1 n bright 0).2])) := by
  have hh := hA.handled
  have hu : c.A.units + 100 < cLine := by have := hA.units; omega
  generalize hr : lotsRun n d0 d1 n bright 0 = r
  -- lots, steps = (list(bright), 0)
  refine runs_then (R := Sub [("deeds", .lst [intsD d0, intsD d1]), ("many", .int n), ("lots", intsD bright), ("steps", .int 0)])
    (assign_tup (ev_tup (evl_cons (ev_listof g.list_ (ev_name rfl) (by simp; omega) (by with_unfolding_all rfl)) (evl_cons ev_int evl_nil)))
      (st_tup2 hh (st_name (.inr ⟨by with_unfolding_all rfl, _, by with_unfolding_all rfl⟩)) (st_name (.inl (by with_unfolding_all rfl)))) ⟨rfl, .cons rfl (.cons rfl (.cons rfl (.cons rfl .nil)))⟩) fun ρ1 S1 => ?_
  refine Tree.from S1 ?_
  -- for turn in range(many)
  refine runs_cons (Ψ := fun fl ρ' => match fl with
      | .next => ∃ lots steps, Sub [("lots", intsD lots), ("steps", .int steps)] ρ' ∧ (lots, steps) = r
      | .ret d => d = .tup [intsD r.1, .int r.2]
      | _ => False)
    (exec_for (ds := rangeD n) (Inv := fun i ρ' => ∃ lots steps, lots.length = n ∧ i ≤ n ∧ lotsRun n d0 d1 (n - i) lots steps = r ∧
        Sub [("deeds", .lst [intsD d0, intsD d1]), ("many", .int n), ("lots", intsD lots), ("steps", .int steps)] ρ')
      (it_range (k := (n : Int)) hh g.range (ev_name rfl) (by omega) (by omega) (by with_unfolding_all rfl)) (.inl (by with_unfolding_all rfl))
      ⟨bright, 0, hb, Nat.zero_le _, by rw [Nat.sub_zero]; exact hr, .cons rfl (.cons rfl (.cons rfl (.cons rfl .nil)))⟩ ?_ ?_) ?_ ?_
  · -- the body
    rintro i d ρ' hd ⟨lots, steps, hl, hi, hrun, S⟩
    obtain ⟨hi', rfl⟩ := get_rangeD hd
    refine Tree.from (S.set (x := "turn") (by simp)) ?_
    -- rows
    refine runs_then (R := Sub [("deeds", .lst [intsD d0, intsD d1]), ("many", .int n), ("lots", intsD lots), ("steps", .int steps), ("rows", .lst ((rowsOf n d0 d1 lots).map rowD))])
      (assign_listcomp (ds := rangeD n) (p := fun _ => true) (f := rowF d0 d1 lots) (ρc := [("deeds", .lst [intsD d0, intsD d1]), ("lots", intsD lots)])
        (it_range (k := (n : Int)) hh g.range (ev_name rfl) (by omega) (by omega) (by with_unfolding_all rfl))
        (CompOk.make (by with_unfolding_all rfl) rfl (by decide) (.cons (by with_unfolding_all rfl) (.cons (by with_unfolding_all rfl) .nil)) (by with_unfolding_all rfl) (.inl (by with_unfolding_all rfl))
          (.cons (by decide) rfl (.inl (by with_unfolding_all rfl)) (by with_unfolding_all rfl) (by with_unfolding_all rfl) (.inl (by with_unfolding_all rfl)) (.cons (by decide) rfl (.inl (by with_unfolding_all rfl)) (by with_unfolding_all rfl) (by with_unfolding_all rfl) (.inl (by with_unfolding_all rfl)) .nil)))
        (by rw [length_rangeD]; exact Nat.le_trans hn (by decide)) (fun C d hd => ta_nil) (fun C d hd _ => by obtain ⟨p, hp, rfl⟩ := mem_rangeD hd; exact lots_row hn h0 h1 hl hp)
        (.inl (by with_unfolding_all rfl)) ⟨rfl, by rw [rows_made]; exact .cons rfl (.cons rfl (.cons rfl (.cons rfl (.cons rfl .nil))))⟩) fun ρ2 S2 => ?_
    refine Tree.from S2 ?_
    have hrl : (rowsOf n d0 d1 lots).length = n := length_rowsOf ..
    generalize hrows : rowsOf n d0 d1 lots = rows at *
    -- names = []
    refine runs_then (R := Sub [("deeds", .lst [intsD d0, intsD d1]), ("many", .int n), ("lots", intsD lots), ("steps", .int steps), ("rows", .lst (rows.map rowD)), ("names", .lst [])])
      (assign_name (ev_list evl_nil) (.inr ⟨by with_unfolding_all rfl, _, by with_unfolding_all rfl⟩) ⟨rfl, .cons rfl (.cons rfl (.cons rfl (.cons rfl (.cons rfl (.cons rfl .nil)))))⟩) fun ρ3 S3 => ?_
    refine Tree.from S3 ?_
    -- for row in rows
    refine runs_then (R := Sub [("deeds", .lst [intsD d0, intsD d1]), ("many", .int n), ("lots", intsD lots), ("steps", .int steps), ("rows", .lst (rows.map rowD)), ("names", .lst ((firstsG rows).map rowD))])
      (exec_for (ds := rows.map rowD) (Inv := fun j ρ' => Sub [("deeds", .lst [intsD d0, intsD d1]), ("many", .int n), ("lots", intsD lots), ("steps", .int steps), ("rows", .lst (rows.map rowD)), ("names", .lst ((firstsG (rows.take j)).map rowD))] ρ')
        (it_list hh (ev_name rfl) (by rw [List.length_map, hrl]; exact Nat.le_trans hn (by decide))) (.inl (by with_unfolding_all rfl))
        (by rw [List.take_zero]; exact .cons rfl (.cons rfl (.cons rfl (.cons rfl (.cons rfl (.cons rfl .nil)))))) ?_ ?_) fun ρ4 S4 => ?_
    · intro j d ρ5 hd S5
      obtain ⟨rw', hj, rfl⟩ := get_map_rowD hd
      have hnl : (firstsG (rows.take j)).length ≤ n := by
        refine Nat.le_trans (firstsG_le _) ?_
        rw [List.length_take, hrl]; exact Nat.min_le_right _ _
      refine Tree.from (l := [("deeds", .lst [intsD d0, intsD d1]), ("many", .int n), ("lots", intsD lots), ("steps", .int steps), ("rows", .lst (rows.map rowD)), ("names", .lst ((firstsG (rows.take j)).map rowD)), ("row", rowD rw')]) ?_ ?_
      · exact ⟨fun p hp => by
          rcases List.mem_append.mp (show p ∈ [("deeds", D.lst [intsD d0, intsD d1]), ("many", .int n), ("lots", intsD lots), ("steps", .int steps), ("rows", .lst (rows.map rowD)), ("names", .lst ((firstsG (rows.take j)).map rowD))] ++ [("row", rowD rw')] from hp) with hp | hp
          · exact (S5.set (x := "row") (d := rowD rw') (by simp)).1 p hp
          · rw [List.mem_singleton] at hp; subst hp
            rw [St.set, lookup_upd, if_pos rfl], S5.2⟩
      refine runs_then (R := Sub [("deeds", .lst [intsD d0, intsD d1]), ("many", .int n), ("lots", intsD lots), ("steps", .int steps), ("rows", .lst (rows.map rowD)), ("names", .lst ((firstsG (rows.take (j + 1))).map rowD))])
        (assign_name (d := .lst ((firstsG (rows.take j)).map rowD ++ (if rw' ∈ firstsG (rows.take j) then [] else [rw']).map rowD))
          (ev_bin (ev_name rfl) (ev_if (bt := decide (rw' ∉ firstsG (rows.take j))) ?_ (fun h => ?_) (fun h => ?_)) (o_addl ?_)) (.inr ⟨by with_unfolding_all rfl, _, by with_unfolding_all rfl⟩) ⟨rfl, ?_⟩) fun ρ6 S6 => runs_nil S6
      · exact Tests.to (t_cmp (ev_name rfl) (ev_name rfl) (o_notin 5 (lvl_row 4 rw') (lvl_rows 3 _) (by decide) hu) (by with_unfolding_all rfl)) (by rw [any_rows]; simp)
      · have h' : rw' ∉ firstsG (rows.take j) := of_decide_eq_true h
        rw [if_neg h']
        exact ev_list (evl_cons (ev_name rfl) evl_nil)
      · have h' : rw' ∈ firstsG (rows.take j) := by
          have := of_decide_eq_false h
          exact Classical.byContradiction fun q => this q
        rw [if_pos h']
        exact ev_list evl_nil
      · rw [List.length_map, List.length_map]
        split <;> simp <;> omega
      · rw [names_step rows hj, List.map_append]
        exact .cons rfl (.cons rfl (.cons rfl (.cons rfl (.cons rfl (.cons rfl .nil)))))
    · intro ρ5 S5
      rw [List.length_map, List.take_length] at S5
      exact ⟨rfl, S5⟩
    refine Tree.from S4 ?_
    have hfl : (firstsG rows).length ≤ n := by rw [← hrl]; exact firstsG_le _
    -- after = [names.index(row) for row in rows]
    refine runs_then (R := Sub [("deeds", .lst [intsD d0, intsD d1]), ("many", .int n), ("lots", intsD lots), ("steps", .int steps), ("names", .lst ((firstsG rows).map rowD)), ("after", intsD (afterOf rows))])
      (assign_listcomp (ds := rows.map rowD) (p := fun _ => true) (f := afterF rows) (ρc := [("names", .lst ((firstsG rows).map rowD))])
        (it_list hh (ev_name rfl) (by rw [List.length_map, hrl]; exact Nat.le_trans hn (by decide)))
        (CompOk.make (by with_unfolding_all rfl) rfl (by decide) (.cons (by with_unfolding_all rfl) .nil) (by with_unfolding_all rfl) (.inl (by with_unfolding_all rfl))
          (.cons (by decide) rfl (.inl (by with_unfolding_all rfl)) (by with_unfolding_all rfl) (by with_unfolding_all rfl) (.inl (by with_unfolding_all rfl)) .nil))
        (by rw [List.length_map, hrl]; exact Nat.le_trans hn (by decide)) (fun C d hd => ta_nil) (fun C d hd _ => ?_)
        (.inl (by with_unfolding_all rfl)) ⟨rfl, by rw [after_made]; exact .cons rfl (.cons rfl (.cons rfl (.cons rfl (.cons rfl (.cons rfl .nil)))))⟩) fun ρ5 S5 => ?_
    · obtain ⟨rw', hm, rfl⟩ := List.mem_map.mp hd
      have hin : idx (rowD rw') ((firstsG rows).map rowD) < ((firstsG rows).map rowD).length := by
        rw [idx_rows, List.length_map]
        exact List.idxOf_lt_length_iff.mpr ((mem_firstsG _ _).mpr hm)
      exact Evals.to (ev_index 5 (ev_name rfl) (ev_name rfl) (lvl_row 4 rw') (lvl_rows 3 _) (by decide) hu hin (by rw [List.length_map]; omega) (by with_unfolding_all rfl) (by with_unfolding_all rfl) (by with_unfolding_all rfl)) (by rw [idx_rows]; rfl)
    refine Tree.from S5 ?_
    -- if len(names) == len(dict(..)): return (after, steps)
    have hal : (afterOf rows).length = n := by rw [length_afterOf, hrl]
    refine runs_cons (Ψ := fun fl ρ' => match fl with
        | .next => ¬ (firstsG rows).length = (firstsG lots).length ∧ Sub [("deeds", .lst [intsD d0, intsD d1]), ("many", .int n), ("lots", intsD lots), ("steps", .int steps), ("after", intsD (afterOf rows))] ρ'
        | .ret d => (firstsG rows).length = (firstsG lots).length ∧ d = .tup [intsD (afterOf rows), .int steps]
        | _ => False)
      (exec_if (bt := decide ((firstsG rows).length = (firstsG lots).length))
        (Tests.to (t_cmp (ev_len g.len (ev_name rfl) (by rw [List.length_map]; omega) (by with_unfolding_all rfl))
          (ev_lendict (ks := lots) g.len g.dict hh g.stat (Evals.to (ev_listcomp (ds := lots.map D.int) (p := fun _ => true) (f := pairF) (ρc := []) (it_list hh (ev_name rfl) (by rw [List.length_map, hl]; exact Nat.le_trans hn (by decide)))
              (CompOk.make (by with_unfolding_all rfl) rfl (by decide) .nil (by with_unfolding_all rfl) (.inl (by with_unfolding_all rfl)) .nil)
              (by rw [List.length_map, hl]; exact Nat.le_trans hn (by decide)) (fun C d hd => ta_nil) (fun C d hd _ => by
                obtain ⟨k, hk, rfl⟩ := List.mem_map.mp hd
                exact ev_tup (evl_cons (ev_name rfl) (evl_cons ev_int evl_nil)))) (by rw [pairs_made])) (by rw [hl]; omega) (by with_unfolding_all rfl) (by with_unfolding_all rfl))
          o_eq) (by rw [List.length_map, firsts_eq]; by_cases h : (firstsG rows).length = (firstsG lots).length <;> simp [h]; omega))
        (fun h => runs_cons (Ψ := fun fl _ => fl = .ret (.tup [intsD (afterOf rows), .int steps])) (exec_ret (ev_tup (evl_cons (ev_name rfl) (evl_cons (ev_name rfl) evl_nil))) rfl) (fun _ q => by cases q) (fun fl _ _ q => by subst q; exact ⟨of_decide_eq_true h, rfl⟩))
        (fun h => runs_nil ⟨of_decide_eq_false h, .cons rfl (.cons rfl (.cons rfl (.cons rfl (.cons rfl .nil))))⟩)) ?_ ?_
    · rintro ρ6 ⟨hne, S6⟩
      refine Tree.from S6 ?_
      refine runs_then (R := Sub [("deeds", .lst [intsD d0, intsD d1]), ("many", .int n), ("lots", intsD (afterOf rows)), ("steps", .int (steps + 1))])
        (assign_tup (ev_tup (evl_cons (ev_name rfl) (evl_cons (ev_bin (ev_name rfl) ev_int o_add) evl_nil)))
          (st_tup2 hh (st_name (.inr ⟨by with_unfolding_all rfl, _, by with_unfolding_all rfl⟩)) (st_name (.inl (by with_unfolding_all rfl)))) ⟨rfl, .cons rfl (.cons rfl (.cons rfl (.cons rfl .nil)))⟩) fun ρ7 S7 => runs_nil ?_
      refine ⟨afterOf rows, steps + 1, hal, hi', ?_, S7⟩
      have e : n - i = (n - (i + 1)) + 1 := by omega
      rw [e, lotsRun, hrows, if_neg hne] at hrun
      exact hrun
    · rintro fl ρ6 hfl h
      cases fl with
      | next => exact absurd rfl hfl
      | brk => exact h.elim
      | cont => exact h.elim
      | ret d =>
        obtain ⟨he, rfl⟩ := h
        have e : n - i = (n - (i + 1)) + 1 := by omega
        rw [e, lotsRun, hrows, if_pos he] at hrun
        rw [← hrun]
  · rintro ρ' ⟨lots, steps, hl, hi, hrun, S⟩
    rw [length_rangeD, Nat.sub_self] at hrun
    exact ⟨lots, steps, ⟨fun p hp => S.1 p (by simp at hp ⊢; rcases hp with rfl | rfl <;> simp), S.2⟩, hrun⟩
  · rintro ρ' ⟨lots, steps, S, rfl⟩
    refine Tree.from S ?_
    refine runs_cons (Ψ := fun fl _ => fl = .ret (.tup [intsD lots, .int steps])) (exec_ret (ev_tup (evl_cons (ev_name rfl) (evl_cons (ev_name rfl) evl_nil))) rfl) (fun _ q => by cases q) (fun fl _ _ q => by subst q; exact .inl rfl)
  · rintro fl ρ' hfl h
    cases fl with
    | next => exact absurd rfl hfl
    | brk => exact h.elim
    | cont => exact h.elim
    | ret d => subst h; exact .inl rfl
end
end

section 
open PySem PySem.W PyProof.Rows
set_option linter.unusedVariables false
set_option maxRecDepth 100000

variable {c : Cx} {env : Env} {ρ : St}

/-! own objects: frozen, thawed, made, written -/
def D.scalar : D → Bool
  | .none | .bool _ | .int _ | .str _ => true
  | _ => false
theorem Den.scalar {g g' : Kn} {d : D} {v : Value} (hs : d.scalar = true) (x : Den g d v) : Den g' d v := by
  cases d with
  | none => simpa only [Den] using x
  | bool b => simpa only [Den] using x
  | int i => simpa only [Den] using x
  | str i => simpa only [Den] using x
  | _ => cases hs

def OD.dat (H : Key → Int) : OD → D
  | .lst ds => .lst ds
  | .dct kvs => .dct H kvs

theorem Owned.den {H : Key → Int} {g g' : Kn} {h : Heap} {a : Addr} {od : OD} (x : Owned H g h a od) (hg : ∀ q o, g q o → g' q o) (ha : ∀ o, h.get? a = some o → g' a o) : Den g' (od.dat H) (.ref a) := by
  cases od with
  | lst ds => obtain ⟨vs, n, ho, hl⟩ := x; simp only [OD.dat, Den]; exact ⟨a, vs, n, rfl, ha _ ho, hl.mono hg⟩
  | dct kvs => simp only [OD.dat, Den]; exact ⟨a, rfl, x.1, x.2.mono hg ha⟩

variable {M : Addr → Prop} {s s' : Shared} {vars : List (String × D)} {l1 l2 : List (Addr × OD)} {a : Addr} {od od' : OD}

theorem ownsMid : (l1 ++ (a, od) :: l2).map (·.1) = l1.map (·.1) ++ a :: l2.map (·.1) := by simp
theorem wr_mid {b : Addr} : Wr env ⟨vars, l1 ++ (a, od) :: l2⟩ b ↔ Wr env ⟨vars, l1 ++ l2⟩ b ∨ b = a := by
  simp only [Wr, List.map_append, List.map_cons, List.mem_append, List.mem_cons]
  constructor
  · rintro (q | q | q | q | q)
    · exact .inl (.inl q)
    · exact .inl (.inr (.inl q))
    · exact .inl (.inr (.inr (.inl q)))
    · exact .inr q
    · exact .inl (.inr (.inr (.inr q)))
  · rintro ((q | q | q | q) | q)
    · exact .inl q
    · exact .inr (.inl q)
    · exact .inr (.inr (.inl q))
    · exact .inr (.inr (.inr (.inr q)))
    · exact .inr (.inr (.inr (.inl q)))

theorem Fm.notW (F : c.Fm env M ⟨vars, l1 ++ (a, od) :: l2⟩ s) : ¬ MW M env ⟨vars, l1 ++ l2⟩ a := by
  have hm : a ∈ (l1 ++ (a, od) :: l2).map (·.1) := by rw [ownsMid]; simp
  have hn := F.ownsN
  simp only [ownsMid] at hn
  rintro (q | q | ⟨x, q⟩ | q)
  · exact F.ownsM a hm q
  · exact (F.ownsL a hm).1 q
  · exact (F.ownsL a hm).2 x q
  · simp only [List.map_append] at q
    rw [List.nodup_append] at hn
    rcases List.mem_append.mp q with q | q
    · exact hn.2.2 _ q _ List.mem_cons_self rfl
    · exact (List.nodup_cons.mp hn.2.1).1 q

theorem Fm.freeze {x : String} (F : c.Fm env M ⟨vars, l1 ++ (a, od) :: l2⟩ s) (hx : vars.lookup x = some (.own a)) : c.Fm env M ⟨upd x (od.dat c.H) vars, l1 ++ l2⟩ s := by
  have hnw := F.notW
  have F' : c.Fm env M ⟨vars, l1 ++ l2⟩ s := F.weaken (fun _ _ e => e) (List.Sublist.append_left (List.sublist_cons_self ..) _)
  have hm : (a, od) ∈ l1 ++ (a, od) :: l2 := by simp
  have hO := F.owns a od hm
  have hg : ∀ q o, kn M env ⟨vars, l1 ++ (a, od) :: l2⟩ s.heap q o → kn M env ⟨vars, l1 ++ l2⟩ s.heap q o := fun q o x => ⟨x.1, fun w => x.2 (w.imp id fun w => wr_mid.mpr (.inl w))⟩
  exact { F' with
    newW := F'.newW
    vars := fun y e hy => by
      rw [lookup_upd] at hy
      by_cases h : y = x
      · subst h
        rw [if_pos rfl] at hy; cases hy
        obtain ⟨v, hv, hd⟩ := F.vars y _ hx
        simp only [Den] at hd
        subst hd
        exact ⟨_, hv, hO.den hg fun o e => ⟨e, hnw⟩⟩
      · rw [if_neg h] at hy
        exact F'.vars y e hy
    owns := F'.owns
    ownsN := F'.ownsN
    ownsL := F'.ownsL
    ownsM := F'.ownsM }

theorem Tree.freeze {t : Sem Flow} {Φ : Post} {x : String} (hx : vars.lookup x = some (.own a)) (h : Tree c env ⟨upd x (od.dat c.H) vars, l1 ++ l2⟩ t Φ) : Tree c env ⟨vars, l1 ++ (a, od) :: l2⟩ t Φ := by
  intro M s Q E F hQ
  refine h M s Q E (F.freeze hx) fun fl f ρ'' h' tk p F' st fd => hQ fl f ρ'' h' tk p F' ?_ fd
  have hw : ∀ b, Wr env ⟨upd x (od.dat c.H) vars, l1 ++ l2⟩ b → Wr env ⟨vars, l1 ++ (a, od) :: l2⟩ b := fun b q => wr_mid.mpr (.inl q)
  exact ⟨fun b o hb e => st.1 b o (fun q => hb (hw b q)) e, fun b q => (st.2 b q).imp (hw b) id⟩

theorem Evals.thaw {e : Expr} {d : D} {x : String} (hx : vars.lookup x = some (.own a)) (hs : d.scalar = true) (h : Evals c env ⟨upd x (od.dat c.H) vars, l1 ++ l2⟩ e d) : Evals c env ⟨vars, l1 ++ (a, od) :: l2⟩ e d :=
  fun M s Q E F hQ => h M s Q E (F.freeze hx) fun v s' k D => hQ v s' k (D.scalar hs)
theorem Tests.thaw {e : Expr} {b : Bool} {x : String} (hx : vars.lookup x = some (.own a)) (h : Tests c env ⟨upd x (od.dat c.H) vars, l1 ++ l2⟩ e b) : Tests c env ⟨vars, l1 ++ (a, od) :: l2⟩ e b :=
  fun M s Q E F hQ => h M s Q E (F.freeze hx) hQ
/-- an expression that has no use of the owned -/
theorem Evals.unown {e : Expr} {d : D} {ow : List (Addr × OD)} (hd : ∀ M s, c.Fm env M ⟨vars, ow⟩ s → ∀ v, Den (kn M env ⟨vars, []⟩ s.heap) d v → Den (kn M env ⟨vars, ow⟩ s.heap) d v) (h : Evals c env ⟨vars, []⟩ e d) : Evals c env ⟨vars, ow⟩ e d :=
  fun M s Q E F hQ => h M s Q E (F.weaken (fun _ _ e => e) (List.nil_sublist _)) fun v s' k D => hQ v s' k (hd _ _ (F.keeps k) v D)

/-- an own object is written to -/
theorem Fm.mut' {h' : Heap} {tk : Nat} (F : c.Fm env M ⟨vars, l1 ++ (a, od) :: l2⟩ s) (k1 : ∀ b o, b ≠ a → s.heap.get? b = some o → h'.get? b = some o) (hO : Owned c.H (kn M env ⟨vars, l1 ++ (a, od') :: l2⟩ h') h' a od') :
    c.Fm env M ⟨vars, l1 ++ (a, od') :: l2⟩ (At s h' tk) ∧ Step env ⟨vars, l1 ++ (a, od) :: l2⟩ s.heap ⟨vars, l1 ++ (a, od') :: l2⟩ h' := by
  have hm : a ∈ (l1 ++ (a, od) :: l2).map (·.1) := by rw [ownsMid]; simp
  have hwa : Wr env ⟨vars, l1 ++ (a, od) :: l2⟩ a := .inr (.inr hm)
  have hW : ∀ b, Wr env ⟨vars, l1 ++ (a, od') :: l2⟩ b → Wr env ⟨vars, l1 ++ (a, od) :: l2⟩ b := fun b q => wr_mid.mpr (wr_mid.mp q)
  have hg : ∀ q o, kn M env ⟨vars, l1 ++ (a, od) :: l2⟩ s.heap q o → kn M env ⟨vars, l1 ++ (a, od') :: l2⟩ h' q o := fun q o x =>
    ⟨k1 q o (fun e => x.2 (.inr (e ▸ hwa))) x.1, fun w => x.2 (w.imp id (hW q))⟩
  have hla := F.ownsL a hm
  have e1 : (l1 ++ (a, od') :: l2).map (·.1) = (l1 ++ (a, od) :: l2).map (·.1) := by simp
  have hne : ∀ b od1, (b, od1) ∈ l1 ∨ (b, od1) ∈ l2 → b ≠ a := by
    rintro b od1 q rfl
    have hn := F.ownsN
    simp only [ownsMid, List.nodup_append] at hn
    rcases q with q | q
    · exact hn.2.2 _ (List.mem_map_of_mem q) _ List.mem_cons_self rfl
    · exact (List.nodup_cons.mp hn.2.1).1 (List.mem_map_of_mem (f := (·.1)) q)
  refine ⟨?_, fun b o hb e => k1 b o (fun q => hb (q ▸ hwa)) e, fun b q => .inl (hW b q)⟩
  exact {
    ok := F.ok
    base := fun b o e => k1 b o (fun q => by have := F.newW a hwa; rw [q, this] at e; cases e) (F.base b o e)
    newW := fun b q => F.newW b (hW b q)
    live := fun b q => let ⟨o, e⟩ := F.live b q; ⟨o, k1 b o (fun q' => F.ownsM a hm (q' ▸ q)) e⟩
    ns := let ⟨m, e⟩ := F.ns; ⟨m, e.at' fun o e => k1 _ o (fun q => hla.1 q.symm) e⟩
    cells := fun x k e => let ⟨v, o, ho, hd⟩ := F.cells x k e; ⟨v, o, k1 _ _ (fun q => hla.2 x (q ▸ e)) ho, hd⟩
    vars := fun x d e => by
      obtain ⟨v, hv, hd⟩ := F.vars x d e
      refine ⟨v, ?_, hd.mono hg⟩
      rcases hv with ⟨q, m, hn, hm⟩ | ⟨q, k, hc, o, ho, hdd⟩
      · exact .inl ⟨q, m, hn.at' fun o e => k1 _ o (fun q => hla.1 q.symm) e, hm⟩
      · exact .inr ⟨q, k, hc, o, k1 _ _ (fun q => hla.2 _ (q ▸ hc)) ho, hdd⟩
    owns := fun b od1 q => by
      rcases List.mem_append.mp q with q | q
      · exact (F.owns b od1 (List.mem_append_left _ q)).mono hg fun o e => k1 b o (hne b od1 (.inl q)) e
      · rcases List.mem_cons.mp q with e | q
        · cases e; exact hO
        · exact (F.owns b od1 (List.mem_append_right _ (List.mem_cons_of_mem _ q))).mono hg fun o e => k1 b o (hne b od1 (.inr q)) e
    ownsN := by rw [e1]; exact F.ownsN
    ownsL := by rw [e1]; exact F.ownsL
    ownsM := by rw [e1]; exact F.ownsM }

theorem Fm.mut {h' : Heap} {tk : Nat} (F : c.Fm env M ⟨vars, l1 ++ (a, od) :: l2⟩ s) (hs : Heap.SameBut a s.heap h') (hO : Owned c.H (kn M env ⟨vars, l1 ++ (a, od) :: l2⟩ s.heap) h' a od') :
    c.Fm env M ⟨vars, l1 ++ (a, od') :: l2⟩ (At s h' tk) ∧ Step env ⟨vars, l1 ++ (a, od) :: l2⟩ s.heap ⟨vars, l1 ++ (a, od') :: l2⟩ h' :=
  F.mut' (fun b o hb e => hs.extBut b o hb e) (hO.mono (fun q o x => ⟨hs.extBut q o (fun e => x.2 (.inr (.inr (.inr (by rw [e, ownsMid]; simp))))) x.1, fun w => x.2 (w.imp id fun w => wr_mid.mpr (wr_mid.mp w))⟩) fun _ e => e)

/-- a fresh object is taken as an own one -/
theorem Fm.take (F : c.Fm env M ρ s) (k : Ke s s') (ha : s.heap.get? a = none) (hO : Owned c.H (knM (fun b => b = a ∨ MW M env ρ b) s'.heap) s'.heap a od) :
    c.Fm env M ⟨ρ.vars, (a, od) :: ρ.owns⟩ s' ∧ Step env ρ s.heap ⟨ρ.vars, (a, od) :: ρ.owns⟩ s'.heap := by
  have hW : ∀ b, Wr env ⟨ρ.vars, (a, od) :: ρ.owns⟩ b → Wr env ρ b ∨ b = a := by
    rintro b (q | q | q)
    · exact .inl (.inl q)
    · exact .inl (.inr (.inl q))
    · rcases List.mem_cons.mp q with q | q
      · exact .inr q
      · exact .inl (.inr (.inr q))
  have hne : ∀ b o, s.heap.get? b = some o → b ≠ a := fun b o e q => by rw [q, ha] at e; cases e
  have hg : ∀ q o, kn M env ρ s.heap q o → kn M env ⟨ρ.vars, (a, od) :: ρ.owns⟩ s'.heap q o := fun q o x =>
    ⟨k.get _ _ x.1, fun w => by
      rcases w with w | w
      · exact x.2 (.inl w)
      · rcases hW q w with w | w
        · exact x.2 (.inr w)
        · exact hne _ _ x.1 w⟩
  have hg' : ∀ q o, knM (fun b => b = a ∨ MW M env ρ b) s'.heap q o → kn M env ⟨ρ.vars, (a, od) :: ρ.owns⟩ s'.heap q o := fun q o x =>
    ⟨x.1, fun w => by
      rcases w with w | w
      · exact x.2 (.inr (.inl w))
      · rcases hW q w with w | w
        · exact x.2 (.inr (.inr w))
        · exact x.2 (.inl w)⟩
  have hnw := F.fresh ha
  have F' := F.keeps k
  refine ⟨?_, fun b o _ e => k.get _ _ e, fun b q => (hW b q).imp id fun e => by rw [e]; exact ha⟩
  exact {
    ok := F.ok
    base := F'.base
    newW := fun b q => by
      rcases hW b q with q | rfl
      · exact F.newW b q
      · cases e : c.B.get? b with
        | none => rfl
        | some o => have := F.base _ _ e; rw [ha] at this; cases this
    live := F'.live
    ns := F'.ns
    cells := F'.cells
    vars := fun x d e => by
      obtain ⟨v, hv, hd⟩ := F.vars x d e
      exact ⟨v, hv.keeps k.get, hd.mono hg⟩
    owns := fun b od1 q => by
      rcases List.mem_cons.mp q with e | q
      · cases e; exact hO.mono hg' fun _ e => e
      · exact (F.owns b od1 q).mono hg fun o e => k.get _ _ e
    ownsN := by
      show ((a, od) :: ρ.owns |>.map (·.1)).Nodup
      rw [List.map_cons, List.nodup_cons]
      exact ⟨fun q => hnw (.inr (.inr (.inr q))), F.ownsN⟩
    ownsL := fun b q => by
      rcases List.mem_cons.mp q with rfl | q
      · exact ⟨fun e => hnw (.inr (.inl e)), fun x e => hnw (.inr (.inr (.inl ⟨x, e⟩)))⟩
      · exact F.ownsL b q
    ownsM := fun b q => by
      rcases List.mem_cons.mp q with rfl | q
      · exact fun e => hnw (.inl e)
      · exact F.ownsM b q }

def EvalsN (c : Cx) (env : Env) (ρ : St) (e : Expr) (od : OD) : Prop :=
  ∀ (M : Addr → Prop) (s : Shared) (Q E), c.Fm env M ρ s →
    (∀ a s', Ke s s' → s.heap.get? a = none → Owned c.H (knM (fun b => b = a ∨ MW M env ρ b) s'.heap) s'.heap a od → Q (.ref a) s') → wpAny (model c.prog c.w) c.A (eval e env) Q E s

theorem ev_new {e : Expr} (h : EvalsN c env ρ e od) : Evals c env ρ e (od.dat c.H) := by
  intro M s Q E F hQ
  refine h M s Q E F fun a s' k ha hO => hQ _ s' k ?_
  refine hO.den (fun q o x => ⟨x.1, fun w => x.2 (.inr w)⟩) fun o e => ⟨e, F.fresh ha⟩

theorem evn_list {es : List Expr} {pos : Pos} {ds : List D} (h : EvalsL c env ρ es ds) (hz : ds.length ≤ sizeLine := by (first | (simp only [List.length_cons, List.length_nil]; decide) | (simp [sizeLine]))) : EvalsN c env ρ (.List es pos) (.lst ds) := by
  intro M s Q E F hQ
  refine List_ (h M pos s _ E F fun vs s1 k1 D => ?_)
  refine wpAny_newList (hQ _ _ (k1.trans (.push s1 _)) ?_ ?_) (by rw [denL_length D]; exact hz)
  · cases e : s.heap.get? s1.heap.objs.size with
    | none => rfl
    | some o => exact absurd (Heap.lt_size (k1.get _ _ e)) (Nat.lt_irrefl _)
  · refine ⟨_, _, Heap.get?_push_size _ rfl, D.mono fun q o x => ⟨Heap.get?_push_of_some _ x.1, ?_⟩⟩
    rintro (w | w)
    · have := Heap.lt_size x.1; rw [w] at this; exact Nat.lt_irrefl _ this
    · exact x.2 w

theorem assign_new {x : String} {pos' pos : Pos} {e : Expr} {Φ : Post} (h : EvalsN c env ρ e od) (hk : Kind env x) (hΦ : ∀ a, Φ .next ⟨upd x (.own a) ρ.vars, (a, od) :: ρ.owns⟩)
    (hs : swapsWith e (some (.Name (Str.ofString x) pos')) pos.line env = pure false := by with_unfolding_all rfl) : Exec c env ρ (.Assign [.Name (Str.ofString x) pos'] e pos) Φ := by
  intro M s Q E F hQ
  refine wpAny_Assign_Name (h M s _ E F fun a s' k ha hO => ?_) hs
  obtain ⟨F1, st1⟩ := F.take k ha hO
  refine store_name (ρ := ⟨ρ.vars, (a, od) :: ρ.owns⟩) (d := .own a) F1 hk (by simp [Den]) fun h' tk F' st => ?_
  obtain ⟨h0, t0, rfl, hk0⟩ := k.at
  exact hQ .next .next _ h' tk (hΦ a) F' (st1.trans st) rfl
end

section 
open PySem PySem.W PyProof.Rows
set_option linter.unusedVariables false
set_option maxRecDepth 100000

variable {c : Cx} {env : Env} {ρ : St}

/-! tables keyed by tuples -/
def getK (kvs : List (Key × Int)) (k : Key) : Option Int := (kvs.find? fun p => decide (p.1 = k)).map (·.2)
def setK (kvs : List (Key × Int)) (k : Key) (v : Int) : List (Key × Int) := if (getK kvs k).isSome then kvs.map (fun p => if p.1 = k then (p.1, v) else p) else kvs ++ [(k, v)]

theorem getK_kv (xs : List (Key × Addr × Value)) (k : Key) : getK (xs.map kvOf) k = (atKey xs k).map fun p => intOf p.2 := by
  rw [getK, atKey, List.find?_map, Option.map_map, Option.map_map]
  rfl
theorem setK_kv (xs : List (Key × Addr × Value)) (k : Key) (a : Addr) (v : Int) (t : Tok) : (storedH xs k a (.int v t)).map kvOf = setK (xs.map kvOf) k v := by
  unfold storedH setK
  rw [getK_kv, Option.isSome_map]
  split
  · rw [List.map_map, List.map_map]
    refine List.map_congr_left fun x _ => ?_
    show kvOf (if x.1 = k then (x.1, x.2.1, .int v t) else x) = if (kvOf x).1 = k then ((kvOf x).1, v) else kvOf x
    by_cases h : x.1 = k
    · have h' : (kvOf x).1 = k := h
      rw [if_pos h, if_pos h']; rfl
    · have h' : ¬ (kvOf x).1 = k := h
      rw [if_neg h, if_neg h']
  · rw [List.map_append]; rfl

abbrev TK (c : Cx) : HeapKind c.prog c.w Key := tupleKind (mixKind c.prog c.w)

theorem keyVs_items {k : Key} {vs : List Value} (h : KeyVs k vs) : ItemsAre (mixKind c.prog c.w) k vs := by
  induction k generalizing vs with
  | nil => simp only [KeyVs] at h; subst h; exact .nil
  | cons x k ih =>
    simp only [KeyVs] at h
    obtain ⟨v, r, rfl, h1, h2⟩ := h
    exact .cons h1 (ih h2)

theorem KeyAt.is {g : Kn} {h : Heap} {k : Key} {a : Addr} (x : KeyAt g k a) (hg : ∀ q o, g q o → h.get? q = some o) : (TK c).is h k a := by
  obtain ⟨vs, n, ho, hl⟩ := x
  exact ⟨_, vs, n, hg _ _ ho, rfl, rfl, keyVs_items hl⟩

theorem denL_keyVs {g : Kn} : ∀ {k : Key} {vs : List Value}, DenL g (keyDs k) vs → KeyVs k vs
  | [], vs, h => by simpa only [keyDs, List.map_nil, DenL, KeyVs] using h
  | .inl i :: k, vs, h => by
    simp only [keyDs, List.map_cons, DenL, Den] at h
    obtain ⟨v, r, rfl, ⟨t, rfl⟩, h2⟩ := h
    exact ⟨_, r, rfl, by simp [mixIs, Value.isInt], denL_keyVs h2⟩
  | .inr x :: k, vs, h => by
    simp only [keyDs, List.map_cons, DenL, Den] at h
    obtain ⟨v, r, rfl, ⟨t, rfl⟩, h2⟩ := h
    exact ⟨_, r, rfl, by simp [mixIs, Value.isStrOf], denL_keyVs h2⟩
theorem keyVs_denL {g : Kn} : ∀ {k : Key} {vs : List Value}, KeyVs k vs → DenL g (keyDs k) vs
  | [], vs, h => by simpa only [keyDs, List.map_nil, DenL, KeyVs] using h
  | .inl i :: k, vs, h => by
    simp only [KeyVs] at h
    obtain ⟨v, r, rfl, h1, h2⟩ := h
    obtain ⟨t, rfl⟩ := Value.isInt_shape h1
    exact ⟨_, r, rfl, by simp only [Den]; exact ⟨t, rfl⟩, keyVs_denL h2⟩
  | .inr x :: k, vs, h => by
    simp only [KeyVs] at h
    obtain ⟨v, r, rfl, h1, h2⟩ := h
    obtain ⟨t, rfl⟩ := Value.isStrOf_shape h1
    exact ⟨_, r, rfl, by simp only [Den]; exact ⟨t, rfl⟩, keyVs_denL h2⟩
theorem key_den {g : Kn} {k : Key} {v : Value} (h : Den g (.tup (keyDs k)) v) : ∃ a, v = .ref a ∧ KeyAt g k a := by
  simp only [Den] at h
  obtain ⟨a, vs, n, rfl, ho, hl⟩ := h
  exact ⟨a, rfl, vs, n, ho, denL_keyVs hl⟩
theorem den_key {g : Kn} {k : Key} {a : Addr} (h : KeyAt g k a) : Den g (.tup (keyDs k)) (.ref a) := by
  obtain ⟨vs, n, ho, hl⟩ := h
  simp only [Den]
  exact ⟨a, vs, n, rfl, ho, keyVs_denL hl⟩
theorem KeyAt.mono {g g' : Kn} {k : Key} {a : Addr} (h : ∀ q o, g q o → g' q o) (x : KeyAt g k a) : KeyAt g' k a := let ⟨vs, n, ho, hl⟩ := x; ⟨vs, n, h _ _ ho, hl⟩

theorem DctAt.of {g : Kn} {P : Obj → Prop} {kvs : List (Key × Int)} {h : Heap} {d : Addr} (x : DctAt c.H g P kvs) (hP : ∀ o, P o → h.get? d = some o) (hg : ∀ q o, g q o → h.get? q = some o) :
    ∃ xs, h.DictOfH (TK c) d xs ∧ kvs = xs.map kvOf ∧ (∀ x ∈ xs, KeyAt g x.1 x.2.1) ∧ ∀ x ∈ xs, ∃ i t, x.2.2 = .int i t := by
  obtain ⟨o, es, ep, xs, ho, hc, hd, he, hk, hv, hx, hn⟩ := x
  refine ⟨xs, ⟨o, es, ep, hP _ ho, hc, hd, he, fun y hy => (hk y hy).is hg, ?_⟩, hx, hk, hv⟩
  rw [hx, List.map_map] at hn
  exact hn

theorem DctAt.from {g : Kn} {h : Heap} {d : Addr} {xs : List (Key × Addr × Value)} {kvs : List (Key × Int)} (x : h.DictOfH (TK c) d xs) (hx : kvs = xs.map kvOf) (hk : ∀ x ∈ xs, KeyAt g x.1 x.2.1) (hv : ∀ x ∈ xs, ∃ i t, x.2.2 = .int i t) :
    DctAt c.H g (fun o => h.get? d = some o) kvs := by
  obtain ⟨o, es, ep, ho, hc, hd, he, _, hn⟩ := x
  refine ⟨o, es, ep, xs, ho, hc, hd, he, hk, hv, hx, ?_⟩
  rw [hx, List.map_map]
  exact hn

theorem o_indct {k : Key} {kvs : List (Key × Int)} (hu : c.A.units + 100 < cLine) : Op2 c (compareOp .In) (.tup (keyDs k)) (.dct c.H kvs) (.bool (getK kvs k).isSome) := by
  intro N s Q E v1 v2 hB L h1 h2 hQ
  obtain ⟨a, rfl, ka⟩ := key_den h1
  simp only [Den] at h2
  obtain ⟨d, rfl, hsm, hd⟩ := h2
  obtain ⟨xs, hD, rfl, hk, hv⟩ := hd.of (c := c) (h := s.heap) (d := d) (fun o x => x.1) (fun q o x => x.1)
  refine wpAny_in_heap (knd := TK c) (tupleKind_room_in1 (by omega)) (ka.is fun q o x => x.1) hsm hD (hQ _ _ (.tok s _) ?_)
  simp only [Den]
  rw [getK_kv, Option.isSome_map]
theorem o_notindct {k : Key} {kvs : List (Key × Int)} (hu : c.A.units + 100 < cLine) : Op2 c (compareOp .NotIn) (.tup (keyDs k)) (.dct c.H kvs) (.bool (!(getK kvs k).isSome)) := by
  intro N s Q E v1 v2 hB L h1 h2 hQ
  obtain ⟨a, rfl, ka⟩ := key_den h1
  simp only [Den] at h2
  obtain ⟨d, rfl, hsm, hd⟩ := h2
  obtain ⟨xs, hD, rfl, hk, hv⟩ := hd.of (c := c) (h := s.heap) (d := d) (fun o x => x.1) (fun q o x => x.1)
  refine wpAny_notIn_heap (knd := TK c) (tupleKind_room_in1 (by omega)) (ka.is fun q o x => x.1) hsm hD (hQ _ _ (.tok s _) ?_)
  simp only [Den]
  rw [getK_kv, Option.isSome_map]

theorem dget {g : Kn} {h : Heap} {kvs : List (Key × Int)} {k : Key} {i : Int} {xs : List (Key × Addr × Value)} (hx : kvs = xs.map kvOf) (hv : ∀ x ∈ xs, ∃ i t, x.2.2 = .int i t) (hi : getK kvs k = some i) :
    ∃ p t, atKey xs k = some p ∧ p.2 = .int i t := by
  subst hx
  rw [getK_kv] at hi
  cases hp : atKey xs k with
  | none => rw [hp] at hi; cases hi
  | some p =>
    rw [hp] at hi
    simp only [Option.map_some, Option.some.injEq] at hi
    rw [atKey] at hp
    obtain ⟨x, hx, rfl⟩ := Option.map_eq_some_iff.mp hp
    obtain ⟨j, t, e⟩ := hv x (List.mem_of_find?_eq_some hx)
    refine ⟨_, t, rfl, ?_⟩
    rw [e] at hi ⊢
    simp only [intOf] at hi
    rw [hi]

theorem ev_ditem {value slice : Expr} {pos : Pos} {kvs : List (Key × Int)} {k : Key} {i : Int} (hu : c.A.units + 100 < cLine) (h1 : Evals c env ρ value (.dct c.H kvs)) (h2 : Evals c env ρ slice (.tup (keyDs k))) (hi : getK kvs k = some i)
    (hs : ∀ o i, ∃ ops, subscripted slice false o i = operate ops (getItem o i) := by intro _ _; exact ⟨_, by with_unfolding_all rfl⟩) : Evals c env ρ (.Subscript value slice pos) (.int i) := by
  intro M s Q E F hQ
  refine Subscript_ (h1 M s _ E F fun v1 s1 k1 D1 => h2 M s1 _ E (F.keeps k1) fun v2 s2 k2 D2 => ?_)
  have D1' := D1.mono (knM.keeps k2)
  obtain ⟨a, rfl, ka⟩ := key_den D2
  simp only [Den] at D1'
  obtain ⟨d, rfl, hsm, hd⟩ := D1'
  obtain ⟨xs, hD, hx, hk, hv⟩ := hd.of (c := c) (h := s2.heap) (d := d) (fun o x => x.1) (fun q o x => x.1)
  obtain ⟨p, t, hp, e⟩ := dget (g := fun _ _ => True) (h := s2.heap) hx hv hi
  obtain ⟨ops, hs'⟩ := hs (.ref d) (.ref a)
  refine tail_any hD.typeIs slot_dict_getitem.lookup (wpAny_getItem_heap (knd := TK c) (tupleKind_room_in1 (by omega)) (ka.is fun q o x => x.1) hD hp ?_) hs'
  rw [e]
  exact hQ _ _ (k1.trans (k2.trans (.tok s2 _))) (by simp only [Den]; exact ⟨t, rfl⟩)

variable {M : Addr → Prop} {s s' : Shared} {vars : List (String × D)} {l1 l2 : List (Addr × OD)} {a : Addr} {od od' : OD}

theorem length_kv {kvs : List (Key × Int)} {xs : List (Key × Addr × Value)} (hx : kvs = xs.map kvOf) : xs.length = kvs.length := by rw [hx, List.length_map]

/-- an item is set in an own table -/
theorem own_set {kvs : List (Key × Int)} {k : Key} {i : Int} {b : Addr} {t : Tok} {s : Shared} {Q : Unit → Shared → Prop} {E : Value → Shared → Prop} (hu : c.A.units + 100 < cLine) (F : c.Fm env M ⟨vars, l1 ++ (a, .dct kvs) :: l2⟩ s)
    (hk : KeyAt (kn M env ⟨vars, l1 ++ (a, .dct kvs) :: l2⟩ s.heap) k b) (hz : kvs.length ≤ 2 ^ 20)
    (hQ : ∀ h' tk, c.Fm env M ⟨vars, l1 ++ (a, .dct (setK kvs k i)) :: l2⟩ (At s h' tk) → Step env ⟨vars, l1 ++ (a, .dct kvs) :: l2⟩ s.heap ⟨vars, l1 ++ (a, .dct (setK kvs k i)) :: l2⟩ h' → Q () (At s h' tk)) :
    wpAny (model c.prog c.w) c.A (setItem (.ref a) (.ref b) (.int i t)) Q E s := by
  have hO := F.owns a (.dct kvs) (List.mem_append_right _ List.mem_cons_self)
  obtain ⟨hsm, hd⟩ := hO
  obtain ⟨xs, hD, hx, hks, hv⟩ := hd.of (c := c) (h := s.heap) (d := a) (fun o x => x) (fun q o x => x.1)
  refine wpAny_setItem_heap (knd := TK c) (tupleKind_room_in1 (by omega)) (hk.is fun q o x => x.1) hD (fun h' hD' hs' => ?_) (by rw [length_kv hx]; exact Nat.le_trans hz (by decide))
  have hO' : Owned c.H (kn M env ⟨vars, l1 ++ (a, .dct kvs) :: l2⟩ s.heap) h' a (.dct (setK kvs k i)) := by
    refine ⟨hsm, DctAt.from hD' (by rw [hx, setK_kv]) (fun y hy => ?_) fun y hy => ?_⟩
    · rcases mem_storedH hy with ⟨z, hz, e1, e2⟩ | ⟨e1, e2⟩
      · rw [e1, e2]; exact hks z hz
      · rw [e1, e2]; exact hk
    · unfold storedH at hy
      split at hy
      · obtain ⟨z, hz, rfl⟩ := List.mem_map.mp hy
        unfold putAt
        split
        · exact ⟨i, t, rfl⟩
        · exact hv z hz
      · rcases List.mem_append.mp hy with hy | hy
        · exact hv y hy
        · rw [List.mem_singleton] at hy; subst hy; exact ⟨i, t, rfl⟩
  obtain ⟨F', st⟩ := F.mut (tk := s.toks + (TK c).draws k) hs' hO'
  exact hQ h' _ F' st

theorem ev_own {x : String} {pos : Pos} {ow : List (Addr × OD)} (hx : vars.lookup x = some (.own a)) (hd : (Str.ofString x == ("__debug__" : Str)) = false := by decide)
    (hn : (Str.ofString x == ("__classdict__" : Str)) = false := by decide) : Evals c env ⟨vars, ow⟩ (.Name (Str.ofString x) pos) (.own a) := ev_name hx hd hn

theorem exec_dset {x : String} {xp sp pos : Pos} {slice e : Expr} {kvs : List (Key × Int)} {k : Key} {i : Int} {Φ : Post} (hu : c.A.units + 100 < cLine) (he : Evals c env ⟨vars, l1 ++ (a, .dct kvs) :: l2⟩ e (.int i))
    (hx : vars.lookup x = some (.own a)) (hk : Evals c env ⟨vars, l1 ++ (a, .dct kvs) :: l2⟩ slice (.tup (keyDs k))) (hz : kvs.length ≤ 2 ^ 20) (hΦ : Φ .next ⟨vars, l1 ++ (a, .dct (setK kvs k i)) :: l2⟩)
    (hs : swapsWith e (some (.Subscript (.Name (Str.ofString x) xp) slice sp)) pos.line env = pure false := by with_unfolding_all rfl)
    (hd : (Str.ofString x == ("__debug__" : Str)) = false := by decide) (hn : (Str.ofString x == ("__classdict__" : Str)) = false := by decide) :
    Exec c env ⟨vars, l1 ++ (a, .dct kvs) :: l2⟩ (.Assign [.Subscript (.Name (Str.ofString x) xp) slice sp] e pos) Φ := by
  intro M s Q E F hQ
  refine wpAny_Assign_Subscript (he M s _ E F fun v s1 k1 D1 => ev_own hx hd hn M s1 _ E (F.keeps k1) fun ov s2 k2 D2 => hk M s2 _ E ((F.keeps k1).keeps k2) fun iv s3 k3 D3 => ?_) hs
  simp only [Den] at D1 D2
  obtain ⟨t, rfl⟩ := D1
  subst D2
  obtain ⟨b, rfl, kb⟩ := key_den D3
  have kk := k1.trans (k2.trans k3)
  have F3 := F.keeps kk
  refine own_set hu F3 kb hz fun h' tk F' st => ?_
  have st0 := Step.ke (env := env) (ρ := ⟨vars, l1 ++ (a, .dct kvs) :: l2⟩) kk
  obtain ⟨h0, t0, rfl, hk0⟩ := kk.at
  exact hQ .next .next _ h' tk hΦ F' (st0.trans st) rfl

/-- new_callers[func] += caller -/
theorem exec_daug {x : String} {xp sp pos : Pos} {slice e : Expr} {kvs : List (Key × Int)} {k : Key} {i0 i : Int} {Φ : Post} (hu : c.A.units + 100 < cLine) (he : Evals c env ⟨vars, l1 ++ (a, .dct kvs) :: l2⟩ e (.int i))
    (hx : vars.lookup x = some (.own a)) (hk : Evals c env ⟨vars, l1 ++ (a, .dct kvs) :: l2⟩ slice (.tup (keyDs k))) (hg : getK kvs k = some i0) (hz : kvs.length ≤ 2 ^ 20) (hΦ : Φ .next ⟨vars, l1 ++ (a, .dct (setK kvs k (i0 + i))) :: l2⟩)
    (hi : ∀ ov iv new, augStore slice ov iv new = (do holding [new, ov, iv] (setItem ov iv new); release [new, ov, iv] []; pure .next) := by intro _ _ _; with_unfolding_all rfl)
    (hd : (Str.ofString x == ("__debug__" : Str)) = false := by decide) (hn : (Str.ofString x == ("__classdict__" : Str)) = false := by decide) :
    Exec c env ⟨vars, l1 ++ (a, .dct kvs) :: l2⟩ (.AugAssign (.Subscript (.Name (Str.ofString x) xp) slice sp) .Add e pos) Φ := by
  intro M s Q E F hQ
  refine wpAny_AugAssign_SubscriptAny (ev_own hx hd hn M s _ E F fun ov s1 k1 D1 => hk M s1 _ E (F.keeps k1) fun iv s2 k2 D2 => ?_) hi
  simp only [Den] at D1
  subst D1
  obtain ⟨b, rfl, kb⟩ := key_den D2
  have kk := k1.trans k2
  have F2 := F.keeps kk
  have hO := F2.owns a (.dct kvs) (List.mem_append_right _ List.mem_cons_self)
  obtain ⟨hsm, hd⟩ := hO
  obtain ⟨xs, hD, hxs, hks, hv⟩ := hd.of (c := c) (h := s2.heap) (d := a) (fun o x => x) (fun q o x => x.1)
  obtain ⟨p, t, hp, e0⟩ := dget (g := fun _ _ => True) (h := s2.heap) hxs hv hg
  refine wpAny_getItem_heap (knd := TK c) (tupleKind_room_in1 (by omega)) (kb.is fun q o x => x.1) hD hp ?_
  rw [e0]
  have kt := kk.trans (.tok s2 (s2.toks + (TK c).draws k))
  have F3 := F.keeps kt
  refine he M _ _ E F3 fun v s4 k4 D4 => ?_
  simp only [Den] at D4
  obtain ⟨t4, rfl⟩ := D4
  refine iadd_int ?_
  have k5 := kt.trans (k4.trans (.tok s4 (s4.toks + 1)))
  have F5 := F.keeps k5
  refine own_set (t := s4.toks) hu F5 (kb.mono fun q o x => ⟨(k4.trans (.tok s4 (s4.toks + 1))).get _ _ x.1, x.2⟩) hz fun h' tk F' st => ?_
  have st0 := Step.ke (env := env) (ρ := ⟨vars, l1 ++ (a, .dct kvs) :: l2⟩) k5
  obtain ⟨h0, t0, e5, hk0⟩ := k5.at
  rw [e5]
  have st0' : Step env ⟨vars, l1 ++ (a, .dct kvs) :: l2⟩ s.heap ⟨vars, l1 ++ (a, .dct (setK kvs k (i0 + i))) :: l2⟩ h' := st0.trans st
  rw [e5] at F'
  exact hQ .next .next _ h' tk hΦ F' st0' rfl

/-- waiting.append(pair) -/
theorem exec_append {x : String} {xp ap cp pos : Pos} {e : Expr} {ds : List D} {d : D} {Φ : Post} (hx : vars.lookup x = some (.own a)) (he : Evals c env ⟨vars, l1 ++ (a, .lst ds) :: l2⟩ e d) (hz : ds.length ≤ 2 ^ 20)
    (hΦ : Φ .next ⟨vars, l1 ++ (a, .lst (ds ++ [d])) :: l2⟩)
    (hbase : attributeBase (.Name (Str.ofString x) xp) ("append" : Str) env (eval (.Name (Str.ofString x) xp) env) = eval (.Name (Str.ofString x) xp) env := by with_unfolding_all rfl) (hline : (ap.endLine == cp.line) = true := by with_unfolding_all rfl)
    (htrees : backTo cp (starEach [e] env) = [(false, eval e env)] := by with_unfolding_all rfl) (hi : interactive env = false := by with_unfolding_all rfl)
    (hsw : swapsWith (.Call (.Attribute (.Name (Str.ofString x) xp) ("append" : Str) ap) [e] [] cp) none pos.line env = pure false := by with_unfolding_all rfl)
    (hd : (Str.ofString x == ("__debug__" : Str)) = false := by decide) (hn : (Str.ofString x == ("__classdict__" : Str)) = false := by decide) :
    Exec c env ⟨vars, l1 ++ (a, .lst ds) :: l2⟩ (.Expr (.Call (.Attribute (.Name (Str.ofString x) xp) ("append" : Str) ap) [e] [] cp) pos) Φ := by
  intro M s Q E F hQ
  refine wpAny_Expr (wpAny_Call_method1_late hbase hline htrees (ev_own hx hd hn M s _ E F fun ov s1 k1 D1 => ?_)) hi hsw
  simp only [Den] at D1
  subst D1
  have F1 := F.keeps k1
  obtain ⟨vs1, n1, ho1, hl1⟩ := F1.owns a _ (List.mem_append_right _ List.mem_cons_self)
  refine ⟨"list", "list.append", PySem.F.plainAttrs_list, PySem.F.slot_list_append, PySem.F.type_list_append, ⟨_, ho1, rfl⟩, fun a' e => by cases e; exact ⟨_, ho1, rfl⟩, ?_⟩
  refine Calls.callWith_builtin rfl (Calls.evalArgs_plain (Calls.spliced_cons (he M s1 _ E F1 fun v2 s2 k2 D2 => Calls.spliced_nil ?_)))
  have kk := k1.trans k2
  have F2 := F.keeps kk
  obtain ⟨vs, n, ho, hl⟩ := F2.owns a _ (List.mem_append_right _ List.mem_cons_self)
  have e1 := denL_length hl
  rw [Array.length_toList] at e1
  refine append_at ho (fun h' hs' ho' => ?_) (by rw [e1]; exact Nat.le_trans hz (by decide))
  obtain ⟨F', st⟩ := F2.mut (tk := s2.toks) (od' := .lst (ds ++ [d])) hs' ⟨_, _, ho', by rw [Array.toList_push]; exact denL_append hl ⟨v2, [], rfl, D2, rfl⟩⟩
  have st0 := Step.ke (env := env) (ρ := ⟨vars, l1 ++ (a, .lst ds) :: l2⟩) kk
  obtain ⟨h0, t0, e5, hk0⟩ := kk.at
  subst e5
  exact hQ .next .next _ h' t0 hΦ F' (st0.trans st) rfl
end

section 
open PySem PySem.W PyProof.Rows
open Sem (wp)
set_option linter.unusedVariables false
set_option maxRecDepth 100000

/-! walking a table's values and items, whatever its keys -/
def RawDict (h : Heap) (d : Addr) (es : Array DictEntry) (ep : Nat) : Prop := ∃ o, h.get? d = some o ∧ o.ExactDict ∧ o.data = .dict es ep
theorem RawDict.mono {h h' : Heap} {d : Addr} {es : Array DictEntry} {ep : Nat} (x : RawDict h d es ep) (hk : ∀ o, h.get? d = some o → h'.get? d = some o) : RawDict h' d es ep := let ⟨o, ho, r⟩ := x; ⟨o, hk o ho, r⟩
theorem RawDict.typeIs {s : Shared} {d : Addr} {es : Array DictEntry} {ep : Nat} (x : RawDict s.heap d es ep) : s.TypeIs (.ref d) "dict" := let ⟨o, ho, hc, _⟩ := x; ⟨o, ho, hc.1⟩

section
variable {prog : Program} {w : World} {A : Around} {E : Value → Shared → Prop} {s : Shared} {d : Addr} {es : Array DictEntry} {ep : Nat}


theorem raw_values (hs : (d == sysModules) = false) (x : RawDict s.heap d es ep) {Q : Value → Shared → Prop} (h : Q (.ref s.heap.objs.size) { s with heap := s.heap.push { cls := .type "dict_values", data := .fields #[.ref d] } }) :
    wpAny (model prog w) A (call (.builtin "dict.values") [.ref d]) Q E s := by
  refine wpAny_call_entry PySem.F.slot_dict_values x.typeIs PySem.F.entry_dict_values ?_ (PySem.F.args_dict_values_1 _)
  refine wpAny_bind ?_
  unfold Builtin.Dict.noArgs
  refine wpAny_bind (wpAny_notOrdered_dict x.typeIs ?_)
  show wpAny _ _ (pure d) _ _ s
  refine wpAny_pure ?_
  show wpAny _ _ (Builtin.Dict.showsAll d >>= _) _ _ s
  unfold Builtin.Dict.showsAll
  rw [if_neg (by rw [hs]; exact Bool.false_ne_true)]
  exact wpAny_bind (wpAny_pure (wpAny_bind (wpAny_newObj_type (wpAny_pure ⟨_, rfl, h⟩))))

theorem raw_items (hs : (d == sysModules) = false) (x : RawDict s.heap d es ep) {Q : Value → Shared → Prop} (h : Q (.ref s.heap.objs.size) { s with heap := s.heap.push { cls := .type "dict_items", data := .fields #[.ref d] } }) :
    wpAny (model prog w) A (call (.builtin "dict.items") [.ref d]) Q E s := by
  refine wpAny_call_entry PySem.F.slot_dict_items x.typeIs PySem.F.entry_dict_items ?_ (PySem.F.args_dict_items_1 _)
  refine wpAny_bind ?_
  unfold Builtin.Dict.noArgs
  refine wpAny_bind (wpAny_notOrdered_dict x.typeIs ?_)
  show wpAny _ _ (pure d) _ _ s
  refine wpAny_pure ?_
  show wpAny _ _ (Builtin.Dict.showsAll d >>= _) _ _ s
  unfold Builtin.Dict.showsAll
  rw [if_neg (by rw [hs]; exact Bool.false_ne_true)]
  exact wpAny_bind (wpAny_pure (wpAny_bind (wpAny_newObj_type (wpAny_pure ⟨_, rfl, h⟩))))

theorem raw_iter_values {v : Addr} {Q : Value → Shared → Prop} (hv : s.heap.IsValuesView v d) (x : RawDict s.heap d es ep)
    (hQ : Q (.ref s.heap.objs.size) { s with heap := s.heap.push { cls := .type "dict_valueiterator", data := .fields #[.ref d, .int 0 0, .int es.size 0, .int ep 0] } }) :
    wpAny (model prog w) A (pyIter (.ref v)) Q E s := by
  obtain ⟨ov, hov, hcv, hdv⟩ := id hv
  obtain ⟨o, ho, hc, hdat⟩ := id x
  refine wpAny_pyIter_slot hv.typeIs F.slot_dict_values_iter (wpAny_call_entry F.slot_dict_values_iter hv.typeIs F.entry_dict_values_iter ?_ (F.args_dict_values_iter_1 _))
  unfold Builtin.«dict_values.__iter__»
  refine wpAny_bind (wpAny_pure (wpAny_bind ?_))
  unfold Builtin.Dict_items.dictOf
  refine wpAny_bind (wpAny_field hov hdv (x := .ref d) rfl (wpAny_pure (wpAny_bind ?_)))
  unfold Builtin.Dict_items.newIterator
  refine wpAny_bind (wpAny_dictEntries ho hdat (wpAny_bind (wpAny_dictEpoch ho hdat ?_)))
  simp only [show Builtin.Dict_items.ownsTuple "dict_valueiterator" = false by decide, Bool.false_eq_true, if_false]
  refine wpAny_newObj_type (wpAny_pure ⟨_, rfl, "dict_valueiterator", _, ⟨_, Heap.get?_push_size _ rfl, rfl⟩, F.slot_dict_valueiterator_next.lookup, ?_⟩)
  simpa [rawInt] using hQ

theorem raw_iter_items {v : Addr} {Q : Value → Shared → Prop} (hv : s.heap.IsItemsView v d) (x : RawDict s.heap d es ep)
    (hQ : Q (.ref s.heap.objs.size) { s with heap := s.heap.push { cls := .type "dict_itemiterator", data := .fields #[.none, .bool false, .ref d, .int 0 0, .int es.size 0, .int ep 0, .none, .none] } }) :
    wpAny (model prog w) A (pyIter (.ref v)) Q E s := by
  obtain ⟨ov, hov, hcv, hdv⟩ := id hv
  obtain ⟨o, ho, hc, hdat⟩ := id x
  refine wpAny_pyIter_slot hv.typeIs F.slot_dict_items_iter (wpAny_call_entry F.slot_dict_items_iter hv.typeIs F.entry_dict_items_iter ?_ (F.args_dict_items_iter_1 _))
  unfold Builtin.«dict_items.__iter__»
  refine wpAny_bind (wpAny_pure (wpAny_bind ?_))
  unfold Builtin.Dict_items.dictOf
  refine wpAny_bind (wpAny_field hov hdv (x := .ref d) rfl (wpAny_pure (wpAny_bind ?_)))
  unfold Builtin.Dict_items.newIterator
  refine wpAny_bind (wpAny_dictEntries ho hdat (wpAny_bind (wpAny_dictEpoch ho hdat ?_)))
  simp only [show Builtin.Dict_items.ownsTuple "dict_itemiterator" = true by decide, if_true]
  refine wpAny_newObj_type (wpAny_pure ⟨_, rfl, "dict_itemiterator", _, ⟨_, Heap.get?_push_size _ rfl, rfl⟩, F.slot_dict_itemiterator_next.lookup, ?_⟩)
    (by simp only [sizeOk, Builtin.Dict_items.ownedTupleFields, List.size_toArray, List.length_append, List.length_cons, List.length_nil, sizeLine_eq]; omega)
  simpa [rawInt, Builtin.Dict_items.ownedTupleFields] using hQ


theorem raw_next_value {it : Addr} {i : Nat} {e : DictEntry} {Q : Option Value → Shared → Prop} (hit : s.heap.IsValIter it d i es.size ep) (x : RawDict s.heap d es ep) (hx : es[i]? = some e)
    (hQ : ∀ h', h'.IsValIter it d (i + 1) es.size ep → Heap.SameBut it s.heap h' → Q (some e.val) { s with heap := h' }) : wpAny (model prog w) A (pyNext (.ref it)) Q E s := by
  obtain ⟨o, ho, hc, hd⟩ := id hit
  obtain ⟨od, hod, hcd, hdd⟩ := id x
  unfold pyNext
  refine wpAny_bind (wpAny_attempt (wpAny_callSpecial?_slot (name := Str.ofString "__next__") hit.typeIs F.slot_dict_valueiterator_next
    (wpAny_call_entry F.slot_dict_valueiterator_next hit.typeIs F.entry_dict_valueiterator_next ?_ (F.args_dict_valueiterator_next_1 _))))
  refine wpAny_bind (wpAny_pure (wpAny_bind (wpAny_bind (wpAny_bind (wpAny_typeNameOfWhole_valiter hit.typeIs (wpAny_pure (wpAny_bind (wpAny_fieldsOf ho hd ?_))))))))
  simp only [show Builtin.Dict_items.ownsTuple "dict_valueiterator" = false by decide, Bool.false_eq_true, if_false]
  show wpAny _ _ (if (Value.ref d == Value.none) = true then _ else _) _ _ s
  rw [if_neg (show ¬ ((Value.ref d == Value.none) = true) from Bool.false_ne_true)]
  refine wpAny_bind (wpAny_pure (wpAny_bind (wpAny_dictEntries hod hdd ?_)))
  rw [if_neg (by simp)]
  refine wpAny_bind (wpAny_pure (wpAny_bind (wpAny_dictEpoch hod hdd ?_)))
  rw [if_neg (by simp)]
  refine wpAny_pure ?_
  simp only [show ¬ ((i : Int) < 0) from by omega, if_false, Int.toNat_natCast, hx]
  refine wpAny_bind (wpAny_bind (wpAny_typeNameOfWhole_valiter hit.typeIs (wpAny_pure ?_)))
  refine wpAny_bind (wpAny_isOneOf_valiter hit.typeIs ?_)
  show wpAny _ _ (setField (.ref it) 1 (rawInt ((i : Int) + 1)) >>= _) _ _ s
  refine wpAny_bind (wpAny_setField ho hd (by simp) ?_)
  have hit' : (s.heap.update it (Obj.mapFields (·.setIfInBounds 1 (rawInt ((i : Int) + 1))))).IsValIter it d (i + 1) es.size ep :=
    ⟨_, Heap.get?_update_self _ ho (Obj.isFreed_of_fields (Obj.data_mapFields hd _)), (Obj.cls_mapFields ..).trans hc, by rw [Obj.data_mapFields hd]; simp [rawInt]⟩
  refine wpAny_bind (wpAny_holding ?_)
  refine wpAny_bind (wpAny_isOneOf_valiter (s := { s with heap := s.heap.update it (Obj.mapFields (·.setIfInBounds 1 (rawInt ((i : Int) + 1)))) }) hit'.typeIs ?_)
  refine wpAny_bind (wpAny_isOneOf_valiter (s := { s with heap := s.heap.update it (Obj.mapFields (·.setIfInBounds 1 (rawInt ((i : Int) + 1)))) }) hit'.typeIs ?_)
  show wpAny _ _ (pure e.val) _ _ _
  exact wpAny_pure (wpAny_pure ⟨_, rfl, wpAny_pure (hQ _ hit' (Heap.SameBut.update ..))⟩)

theorem raw_end_value {it : Addr} {Q : Option Value → Shared → Prop} (hh : A.handled = none) (hit : s.heap.IsValIter it d es.size es.size ep) (x : RawDict s.heap d es ep)
    (hQ : ∀ h', Heap.ExtBut it s.heap h' → Q none { s with heap := h' }) : wpAny (model prog w) A (pyNext (.ref it)) Q E s := by
  obtain ⟨o, ho, hc, hd⟩ := id hit
  obtain ⟨od, hod, hcd, hdd⟩ := id x
  unfold pyNext
  refine wpAny_bind (wpAny_attempt (wpAny_callSpecial?_slot (name := Str.ofString "__next__") hit.typeIs F.slot_dict_valueiterator_next
    (wpAny_call_entry F.slot_dict_valueiterator_next hit.typeIs F.entry_dict_valueiterator_next ?_ (F.args_dict_valueiterator_next_1 _))))
  refine wpAny_bind (wpAny_pure (wpAny_bind (wpAny_bind (wpAny_bind (wpAny_typeNameOfWhole_valiter hit.typeIs (wpAny_pure (wpAny_bind (wpAny_fieldsOf ho hd ?_))))))))
  simp only [show Builtin.Dict_items.ownsTuple "dict_valueiterator" = false by decide, Bool.false_eq_true, if_false]
  show wpAny _ _ (if (Value.ref d == Value.none) = true then _ else _) _ _ s
  rw [if_neg (show ¬ ((Value.ref d == Value.none) = true) from Bool.false_ne_true)]
  refine wpAny_bind (wpAny_pure (wpAny_bind (wpAny_dictEntries hod hdd ?_)))
  rw [if_neg (by simp)]
  refine wpAny_bind (wpAny_pure (wpAny_bind (wpAny_dictEpoch hod hdd ?_)))
  rw [if_neg (by simp)]
  refine wpAny_pure ?_
  simp only [show ¬ ((es.size : Int) < 0) from by omega, if_false, Int.toNat_natCast, Array.getElem?_eq_none (Nat.le_refl es.size)]
  refine wpAny_bind (wpAny_bind (wpAny_typeNameOfWhole_valiter hit.typeIs (wpAny_pure ?_)))
  show wpAny _ _ (setField (.ref it) 0 .none >>= _) _ _ s
  refine wpAny_bind (wpAny_setField ho hd (by simp) ?_)
  show wpAny _ _ (newExc (.type "StopIteration") [] >>= _) _ _ _
  refine wpAny_bind ?_
  simp only [newExc, newTuple]
  refine wpAny_bind (wpAny_newObj_type ?_ (by size_fits))
  refine wpAny_bind (m := firstArgMember _ _) (wpAny_of_eq (a := Value.none) (by first | rfl | (simp only [firstArgMember]; rfl)) ?_)
  refine wpAny_newObj_type ?_ (by size_fits)
  simp only [raiseNew]
  refine wpAny_bind (wpAny_handled ?_)
  rw [show A.in1.handled = none from hh]
  refine wpAny_bind (wpAny_pure (wpAny_throw ?_))
  refine wpAny_bind (wpAny_isInstance (T := "StopIteration") (b := true) ⟨_, Heap.get?_push_size _ rfl, rfl⟩ isSubtype_stop ?_)
  exact wpAny_pure (hQ _ (((Heap.SameBut.update ..).extBut.push _).push _))

theorem raw_next_item {it : Addr} {i : Nat} {e : DictEntry} {ok ov : Value} {Q : Option Value → Shared → Prop} (hit : IsItemIter s.heap it d i es.size ep ok ov) (x : RawDict s.heap d es ep) (hx : es[i]? = some e)
    (hQ : ∀ h' T, s.heap.get? T = none → IsItemIterOut h' it d (i + 1) es.size ep e.key e.val T → h'.get? T = some { cls := .type "tuple", data := .seq #[e.key, e.val] } →
      (∀ b o, b ≠ it → s.heap.get? b = some o → h'.get? b = some o) → Q (some (.ref T)) { s with heap := h' }) : wpAny (model prog w) A (pyNext (.ref it)) Q E s := by
  obtain ⟨hp, g, dr, tk, os⟩ := s
  obtain ⟨od, hod, hcd, hdd⟩ := id x
  have hT : Shared.TypeIs ⟨hp, g, dr, tk, os⟩ (.ref it) "dict_itemiterator" := ⟨_, hit, rfl⟩
  unfold pyNext
  refine wpAny_bind (wpAny_attempt (wpAny_callSpecial?_slot (name := Str.ofString "__next__") hT F.slot_dict_itemiterator_next
    (wpAny_call_entry F.slot_dict_itemiterator_next hT F.entry_dict_itemiterator_next ?_ (F.args_dict_itemiterator_next_1 _))))
  refine wpAny_bind (wpAny_pure (wpAny_bind (wpAny_bind (wpAny_bind (wpAny_typeNameOfWhole_itemiter hT (wpAny_pure (wpAny_bind (wpAny_fieldsOf hit rfl ?_))))))))
  simp only [show Builtin.Dict_items.ownsTuple "dict_itemiterator" = true by decide, if_true]
  show wpAny _ _ (if (Value.ref d == Value.none) = true then _ else _) _ _ _
  rw [if_neg (show ¬ ((Value.ref d == Value.none) = true) from Bool.false_ne_true)]
  refine wpAny_bind (wpAny_pure (wpAny_bind (wpAny_dictEntries hod hdd ?_)))
  rw [if_neg (by simp)]
  refine wpAny_bind (wpAny_pure (wpAny_bind (wpAny_dictEpoch hod hdd ?_)))
  rw [if_neg (by simp)]
  refine wpAny_pure ?_
  simp only [show ¬ ((i : Int) < 0) from by omega, if_false, Int.toNat_natCast, hx]
  refine wpAny_bind (wpAny_bind (wpAny_typeNameOfWhole_itemiter hT (wpAny_pure ?_)))
  refine wpAny_bind (wpAny_isOneOf_itemiter hT ?_)
  show wpAny _ _ (setField (.ref it) 3 (rawInt ((i : Int) + 1)) >>= _) _ _ ⟨hp, g, dr, tk, os⟩
  refine wpAny_bind (wpAny_setField_rec hit (by simp) fun h₁ he₁ hs₁ => ?_)
  replace hs₁ : Heap.SameBut it hp h₁ := hs₁
  replace he₁ : IsItemIter h₁ it d (i + 1) es.size ep ok ov := by
    have e : ((i + 1 : Nat) : Int) = (i : Int) + 1 := by omega
    unfold IsItemIter; rw [e]; simpa [rawInt] using he₁
  have hT₁ : Shared.TypeIs ⟨h₁, g, dr, tk, os⟩ (.ref it) "dict_itemiterator" := ⟨_, he₁, rfl⟩
  refine wpAny_bind (wpAny_holding (wpAny_bind (wpAny_isOneOf_itemiter hT₁ (wpAny_bind (wpAny_isOneOf_itemiter hT₁ ?_)))))
  show wpAny _ _ (Builtin.Dict_items.pairFromOwner (.ref it) 6 e.key e.val) _ _ ⟨h₁, g, dr, tk, os⟩
  unfold Builtin.Dict_items.pairFromOwner
  refine wpAny_bind (wpAny_newTuple ?_)
  have he₂ : IsItemIter (h₁.push { cls := .type "tuple", data := .seq #[e.key, e.val] }) it d (i + 1) es.size ep ok ov := Heap.get?_push_of_some _ he₁
  have ht₂ : (h₁.push { cls := .type "tuple", data := .seq #[e.key, e.val] }).get? h₁.objs.size = some { cls := .type "tuple", data := .seq #[e.key, e.val] } := Heap.get?_push_size _ rfl
  have hne : h₁.objs.size ≠ it := Nat.ne_of_gt (Heap.lt_size he₁)
  have hnew : hp.get? h₁.objs.size = none := by rw [hs₁.1]; exact get?_size_none hp
  have hk₂ : ∀ b o, b ≠ it → hp.get? b = some o → (h₁.push { cls := .type "tuple", data := .seq #[e.key, e.val] }).get? b = some o := fun b o hb e => Heap.get?_push_of_some _ (hs₁.extBut b o hb e)
  generalize h₁.push { cls := .type "tuple", data := .seq #[e.key, e.val] } = h₂ at he₂ ht₂ hk₂
  generalize h₁.objs.size = T at ht₂ hne hnew
  show wpAny _ _ (Builtin.Dict_items.ownedTupleIsFree (.ref it) >>= _) _ _ ⟨h₂, g, dr, tk, os⟩
  refine wpAny_bind ?_
  unfold Builtin.Dict_items.ownedTupleIsFree
  refine wpAny_bind (wpAny_field he₂ rfl (x := .none) rfl (wpAny_pure ?_))
  simp only [if_true]
  refine wpAny_bind (wpAny_field he₂ rfl (x := ok) rfl (wpAny_bind (wpAny_field he₂ rfl (x := ov) rfl ?_)))
  refine wpAny_bind (wpAny_setField_rec he₂ (by simp) fun h₃ he₃ hs₃ => ?_)
  replace hs₃ : Heap.SameBut it h₂ h₃ := hs₃
  replace he₃ : IsItemIter h₃ it d (i + 1) es.size ep e.key ov := he₃
  refine wpAny_bind (wpAny_setField_rec he₃ (by simp) fun h₄ he₄ hs₄ => ?_)
  replace hs₄ : Heap.SameBut it h₃ h₄ := hs₄
  replace he₄ : IsItemIter h₄ it d (i + 1) es.size ep e.key e.val := he₄
  refine wpAny_bind (wpAny_setField_rec he₄ (by simp) fun h₅ he₅ hs₅ => ?_)
  replace hs₅ : Heap.SameBut it h₄ h₅ := hs₅
  replace he₅ : IsItemIterOut h₅ it d (i + 1) es.size ep e.key e.val T := he₅
  refine wpAny_bind (wpAny_setField_rec he₅ (by simp) fun h₆ he₆ hs₆ => ?_)
  replace hs₆ : Heap.SameBut it h₅ h₆ := hs₆
  replace he₆ : IsItemIterOut h₆ it d (i + 1) es.size ep e.key e.val T := he₆
  have up : ∀ b o, b ≠ it → h₂.get? b = some o → h₆.get? b = some o := fun b o hb e => hs₆.extBut b o hb (hs₅.extBut b o hb (hs₄.extBut b o hb (hs₃.extBut b o hb e)))
  exact wpAny_bind (wpAny_letGo (wpAny_pure (wpAny_pure ⟨_, rfl, wpAny_pure (hQ h₆ T hnew he₆ (up _ _ hne ht₂) fun b o hb e => up b o hb (hk₂ b o hb e))⟩)))

theorem raw_end_item {it : Addr} {ok ov : Value} {Q : Option Value → Shared → Prop} (hh : A.handled = none) (hit : IsItemIter s.heap it d es.size es.size ep ok ov) (x : RawDict s.heap d es ep)
    (hQ : ∀ h', Heap.ExtBut it s.heap h' → Q none { s with heap := h' }) : wpAny (model prog w) A (pyNext (.ref it)) Q E s := by
  obtain ⟨od, hod, hcd, hdd⟩ := id x
  have hT : s.TypeIs (.ref it) "dict_itemiterator" := ⟨_, hit, rfl⟩
  unfold pyNext
  refine wpAny_bind (wpAny_attempt (wpAny_callSpecial?_slot (name := Str.ofString "__next__") hT F.slot_dict_itemiterator_next
    (wpAny_call_entry F.slot_dict_itemiterator_next hT F.entry_dict_itemiterator_next ?_ (F.args_dict_itemiterator_next_1 _))))
  refine wpAny_bind (wpAny_pure (wpAny_bind (wpAny_bind (wpAny_bind (wpAny_typeNameOfWhole_itemiter hT (wpAny_pure (wpAny_bind (wpAny_fieldsOf hit rfl ?_))))))))
  simp only [show Builtin.Dict_items.ownsTuple "dict_itemiterator" = true by decide, if_true]
  show wpAny _ _ (if (Value.ref d == Value.none) = true then _ else _) _ _ s
  rw [if_neg (show ¬ ((Value.ref d == Value.none) = true) from Bool.false_ne_true)]
  refine wpAny_bind (wpAny_pure (wpAny_bind (wpAny_dictEntries hod hdd ?_)))
  rw [if_neg (by simp)]
  refine wpAny_bind (wpAny_pure (wpAny_bind (wpAny_dictEpoch hod hdd ?_)))
  rw [if_neg (by simp)]
  refine wpAny_pure ?_
  simp only [show ¬ ((es.size : Int) < 0) from by omega, if_false, Int.toNat_natCast, Array.getElem?_eq_none (Nat.le_refl es.size)]
  refine wpAny_bind (wpAny_bind (wpAny_typeNameOfWhole_itemiter hT (wpAny_pure ?_)))
  show wpAny _ _ (setField (.ref it) 2 .none >>= _) _ _ s
  refine wpAny_bind (wpAny_setField hit rfl (by simp) ?_)
  show wpAny _ _ (newExc (.type "StopIteration") [] >>= _) _ _ _
  refine wpAny_bind ?_
  simp only [newExc, newTuple]
  refine wpAny_bind (wpAny_newObj_type ?_ (by size_fits))
  refine wpAny_bind (m := firstArgMember _ _) (wpAny_of_eq (a := Value.none) (by first | rfl | (simp only [firstArgMember]; rfl)) ?_)
  refine wpAny_newObj_type ?_ (by size_fits)
  simp only [raiseNew]
  refine wpAny_bind (wpAny_handled ?_)
  rw [show A.in1.handled = none from hh]
  refine wpAny_bind (wpAny_pure (wpAny_throw ?_))
  refine wpAny_bind (wpAny_isInstance (T := "StopIteration") (b := true) ⟨_, Heap.get?_push_size _ rfl, rfl⟩ isSubtype_stop ?_)
  exact wpAny_pure (hQ _ (((Heap.SameBut.update ..).extBut.push _).push _))
end
end

section 
open PySem PySem.W PyProof.Rows
set_option linter.unusedVariables false
set_option maxRecDepth 100000

variable {c : Cx} {env : Env} {ρ : St}

theorem t_val {e : Expr} {b : Bool} (h : Evals c env ρ e (.bool b)) (hs : ∀ v, PySem.isTrue e env v = (do let x ← v; standAt e.pos; holding [x] (truthy x)) := by intro _; with_unfolding_all rfl) : Tests c env ρ e b := by
  intro M s Q E F hQ
  rw [hs]
  refine wpAny_bind (h M s _ E F fun v s1 k1 D1 => ?_)
  simp only [Den] at D1
  subst D1
  exact wpAny_bind (wpAny_standAt (wpAny_holding (wpAny_truthy_bool (hQ s1 k1))))

theorem o_floordiv {a b : Int} (hb : b ≠ 0) (hp : Builtin.divisionGoesByPylong a b = false) : Op2 c (binaryOp .FloorDiv) (.int a) (.int b) (.int (a.fdiv b)) := by
  rintro N s Q E v1 v2 hB L ⟨t, rfl⟩ ⟨u, rfl⟩ hQ
  exact floordiv_int hb (hQ _ _ (.tok s _) ⟨_, rfl⟩) (.inl hp)
theorem pylong_two (a : Int) : Builtin.divisionGoesByPylong a 2 = false := by
  unfold Builtin.divisionGoesByPylong
  have : ((if ((2 : Int) == 0) = true then 0 else (2 : Int).natAbs.log2 / 30 + 1) > 300) = False := by
    simp only [eq_iff_iff, iff_false]
    decide
  simp only [this, decide_false, Bool.false_and]

theorem o_iadd {a b : Int} : Op2 c (inplaceOp .Add) (.int a) (.int b) (.int (a + b)) := by
  rintro N s Q E v1 v2 hB L ⟨t, rfl⟩ ⟨u, rfl⟩ hQ
  exact iadd_int (hQ _ _ (.tok s _) ⟨_, rfl⟩)

theorem exec_while {test : Expr} {body : List Stmt} {pos : Pos} {Inv : Nat → St → Prop} {Φ : Post} (n : Nat) (h0 : Inv n ρ)
    (hturn : ∀ k ρ', Inv k ρ' → ∃ b, Tests c env ρ' test b ∧ (b = true → Runs c env ρ' body (fun fl ρ'' => match fl with | .next | .cont => ∃ m, m < k ∧ Inv m ρ'' | .brk => Φ .next ρ'' | .ret r => Φ (.ret r) ρ'')) ∧ (b = false → Φ .next ρ')) :
    Exec c env ρ (.While test body [] pos) Φ := by
  intro M s Q E F hQ
  refine wpAny_While (codeAny_whileLoop (fun k s' => ∃ ρ' h' tk, s' = At s h' tk ∧ Inv k ρ' ∧ c.Fm env M ρ' (At s h' tk) ∧ Step env ρ s.heap ρ' h') ?_ n ⟨ρ, s.heap, s.toks, rfl, h0, F, .refl ..⟩)
  rintro k s' ⟨ρ', h', tk, rfl, hI, F', st'⟩
  obtain ⟨b, ht, hb1, hb2⟩ := hturn k ρ' hI
  refine ht M _ _ _ F' fun s2 k2 => ?_
  have F2 := F'.keeps k2
  have st2 : Step env ρ s.heap ρ' s2.heap := st'.trans (Step.ke (env := env) (ρ := ρ') k2)
  obtain ⟨h2, t2, rfl, hk2⟩ := k2.at
  cases b with
  | false => exact wpAny_execs_nil (hQ .next .next ρ' h2 t2 (hb2 rfl) F2 st2 rfl)
  | true =>
    refine hb1 rfl M _ _ _ F2 fun fl f ρ3 h3 t3 p F3 st3 fd3 => ?_
    have stA : Step env ρ s.heap ρ3 h3 := st2.trans st3
    cases fl with
    | next => cases fd3; obtain ⟨m, hm, hI3⟩ := p; exact ⟨m, hm, ρ3, h3, t3, rfl, hI3, F3, stA⟩
    | cont => cases fd3; obtain ⟨m, hm, hI3⟩ := p; exact ⟨m, hm, ρ3, h3, t3, rfl, hI3, F3, stA⟩
    | brk => cases fd3; exact hQ .next .next ρ3 h3 t3 p F3 stA rfl
    | ret d => obtain ⟨v', rfl, hv'⟩ := fd3; exact hQ (.ret d) _ ρ3 h3 t3 p F3 stA ⟨v', rfl, hv'⟩

/-- for .. in an own list, that may grow meanwhile -/
theorem exec_for_own {w : String} {wp pos : Pos} {target : Expr} {body : List Stmt} {a : Addr} {Inv : Nat → St → Prop} {Φ : Post} (N : Nat) (hh : c.A.handled = none) (hw : ρ.vars.lookup w = some (.own a)) (h0 : Inv 0 ρ)
    (hturn : ∀ i ρ', Inv i ρ' → ∃ ds, (a, .lst ds) ∈ ρ'.owns ∧ (ds[i]? = none → Φ .next ρ') ∧ ∀ d, ds[i]? = some d → i < N ∧ ∃ ρ1, Stores c env ρ' (assign target env) d ρ1 ∧
      Runs c env ρ1 body (fun fl ρ'' => match fl with | .next | .cont => Inv (i + 1) ρ'' | .brk => Φ .next ρ'' | .ret r => Φ (.ret r) ρ''))
    (hd : (Str.ofString w == ("__debug__" : Str)) = false := by decide) (hn : (Str.ofString w == ("__classdict__" : Str)) = false := by decide)
    (hs : ∀ x, foldedSetIterable (.Name (Str.ofString w) wp) env x = pure x := by intro _; with_unfolding_all rfl) : Exec c env ρ (.For target (.Name (Str.ofString w) wp) body [] pos) Φ := by
  intro M s Q E F hQ
  refine wpAny_For (ev_name hw hd hn M s _ E F fun v s1 k1 D1 => ?_) hs
  simp only [Den] at D1
  subst D1
  have F1 := F.keeps k1
  obtain ⟨ds0, ho0, _⟩ := hturn 0 ρ h0
  obtain ⟨vs0, n0, hov0, hl0⟩ := F1.owns a _ ho0
  refine wpAny_pyIter_list ⟨_, hov0, rfl, n0, rfl⟩ ?_
  have k2 := k1.trans (.push s1 { cls := .type "list_iterator", data := .fields #[.ref a, .int 0 0] })
  have hfI : s.heap.get? s1.heap.objs.size = none := by
    cases e : s.heap.get? s1.heap.objs.size with
    | none => rfl
    | some o => exact absurd (Heap.lt_size (k1.get _ _ e)) (Nat.lt_irrefl _)
  have pushed : (s1.heap.push { cls := .type "list_iterator", data := .fields #[.ref a, .int 0 0] }).get? s1.heap.objs.size = some { cls := .type "list_iterator", data := .fields #[.ref a, .int 0 0] } := Heap.get?_push_size _ rfl
  generalize s1.heap.objs.size = I at *
  have F2 : c.Fm env (fun q => q = I ∨ M q) ρ _ := F.moreM k2 fun q w => by
    rcases w with rfl | w
    · exact .inr ⟨hfI, _, pushed⟩
    · exact .inl w
  have hit0 : (s1.heap.push { cls := .type "list_iterator", data := .fields #[.ref a, .int 0 0] }).IsListIter I a 0 := ⟨_, pushed, rfl, rfl⟩
  have hBI : c.B.get? I = none := by
    cases e : c.B.get? I with
    | none => rfl
    | some o => have := F.base _ _ e; rw [hfI] at this; cases this
  have hMI : ¬ M I := fun q => by obtain ⟨o, e⟩ := F.live I q; rw [hfI] at e; cases e
  have hWI : ¬ Wr env ρ I := fun q => F.fresh hfI (.inr q)
  have hfI' : ∀ o, s.heap.get? I = some o → False := fun o e => by rw [hfI] at e; cases e
  have st2 := Step.ke (env := env) (ρ := ρ) k2
  generalize hs2 : ({ s1 with heap := s1.heap.push { cls := .type "list_iterator", data := .fields #[.ref a, .int 0 0] } } : Shared) = s2 at *
  have hit0' : s2.heap.IsListIter I a 0 := by rw [← hs2]; exact hit0
  clear hit0 pushed hs2
  obtain ⟨h2, t2, rfl, hk2⟩ := k2.at
  refine codeAny_forLoop_any (fun k s' => ∃ i ρ' h' tk, k + i = N + 1 ∧ i ≤ N ∧ s' = At s h' tk ∧ Inv i ρ' ∧ c.Fm env (fun q => q = I ∨ M q) ρ' (At s h' tk) ∧ Step env ρ s.heap ρ' h' ∧
    h'.IsListIter I a i ∧ ¬ Wr env ρ' I) ?_ (N + 1) ⟨0, ρ, h2, t2, rfl, Nat.zero_le _, rfl, h0, F2, st2, hit0', hWI⟩
  rintro k s' ⟨i, ρ', h', tk, hki, hiN, rfl, hInv, F', st', hit, hW'⟩
  obtain ⟨ds, ho, hend, hitem⟩ := hturn i ρ' hInv
  obtain ⟨vs, n, hov, hl⟩ := F'.owns a _ ho
  have hL : (At s h' tk).heap.IsList a vs := ⟨_, hov, rfl, n, rfl⟩
  have hlen := denL_length hl
  rw [Array.length_toList] at hlen
  have butI : ∀ h3, (∀ b o, b ≠ I → h'.get? b = some o → h3.get? b = some o) → Step env ρ s.heap ρ' h3 := fun h3 hk3 =>
    ⟨fun b o hb e => hk3 b o (fun q => hfI' o (q ▸ e)) (st'.1 b o hb e), fun b q => st'.2 b q⟩
  cases hd : ds[i]? with
  | none =>
    refine wpAny_pyNext_list_end hh hit hL (by
      rw [Array.getElem?_eq_none_iff, hlen]
      exact List.getElem?_eq_none_iff.mp hd) fun h3 he3 => ?_
    have hk3 : ∀ b o, b ≠ I → h'.get? b = some o → h3.get? b = some o := fun b o hb e => he3 b o hb e
    have F3 : c.Fm env M ρ' (At (At s h' tk) h3 tk) := F'.but (I := I) (.inl rfl) hW' hBI hk3 (fun a q => .inr q) fun q => absurd q hMI
    exact wpAny_execs_nil (hQ .next .next ρ' h3 tk (hend hd) F3 (butI h3 hk3) rfl)
  | some d =>
    obtain ⟨hiN', ρ1, hst, hb⟩ := hitem d hd
    obtain ⟨v, hv, hdv⟩ := denL_at hl hd
    refine wpAny_pyNext_list_item hit hL (x := v) (by simpa using hv) fun h3 hit3 hs3 => letGo_listiter hit3 ?_
    have hk3 : ∀ b o, b ≠ I → h'.get? b = some o → h3.get? b = some o := fun b o hb e => hs3.extBut b o hb e
    have hl3 : ∃ o, h3.get? I = some o := let ⟨o, e, _⟩ := hit3; ⟨o, e⟩
    have F3 : c.Fm env (fun q => q = I ∨ M q) ρ' (At (At s h' tk) h3 tk) := F'.but (I := I) (.inl rfl) hW' hBI hk3 (fun a q => q) fun _ => hl3
    have hdv3 : Den (kn (fun q => q = I ∨ M q) env ρ' h3) d v := hdv.mono fun q o x => ⟨hk3 q o (fun e => x.2 (.inl (.inl e))) x.1, x.2⟩
    refine hst _ _ _ _ v F3 hdv3 fun h4 t4 F4 st4 => ?_
    refine hb _ _ _ _ F4 fun fl f ρ5 h5 t5 p F5 st5 fd5 => ?_
    have st35 : Step env ρ' h3 ρ5 h5 := st4.trans st5
    have stA : Step env ρ s.heap ρ5 h5 := (butI h3 hk3).trans st35
    have back : c.Fm env M ρ5 (At s h5 t5) := F5.lessM fun a q => .inr q
    have kn5 : ∀ q o, kn (fun q => q = I ∨ M q) env ρ5 h5 q o → kn M env ρ5 h5 q o := fun q o x => ⟨x.1, fun w => x.2 (w.imp .inr id)⟩
    have again : Inv (i + 1) ρ5 → ∃ m, m < k ∧ ∃ i ρ' h' tk, m + i = N + 1 ∧ i ≤ N ∧ At (At s h' tk) h5 t5 = At s h' tk ∧ Inv i ρ' ∧ c.Fm env (fun q => q = I ∨ M q) ρ' (At s h' tk) ∧ Step env ρ s.heap ρ' h' ∧
        h'.IsListIter I a i ∧ ¬ Wr env ρ' I := fun hI5 => by
      refine ⟨k - 1, by omega, i + 1, ρ5, h5, t5, by omega, hiN', rfl, hI5, F5, stA, hit3.at fun o e => st35.1 I o hW' e, fun q => ?_⟩
      rcases st35.2 I q with q | q
      · exact hW' q
      · obtain ⟨o, e⟩ := hl3; rw [e] at q; cases q
    cases fl with
    | next => cases fd5; exact again p
    | cont => cases fd5; exact again p
    | brk => cases fd5; exact hQ .next .next ρ5 h5 t5 p back stA rfl
    | ret d => obtain ⟨v', rfl, hv'⟩ := fd5; exact hQ (.ret d) _ ρ5 h5 t5 p back stA ⟨v', rfl, hv'.mono kn5⟩

/-- for x, y in o.items() -/
theorem exec_for_items {x y : String} {px py tpos ap cp pos : Pos} {tk0 : Nat} {o : Expr} {body : List Stmt} {kvs : List (Key × Int)} {Inv : Nat → St → Prop} {Φ : Post} (hh : c.A.handled = none) (ho : Evals c env ρ o (.dct c.H kvs)) (hz : kvs.length ≤ 2 ^ 20)
    (hkx : Kind env x) (hky : Kind env y) (h0 : Inv 0 ρ)
    (hbody : ∀ i k v ρ', kvs[i]? = some (k, v) → Inv i ρ' → Runs c env ((ρ'.set x (.tup (keyDs k))).set y (.int v)) body (fun fl ρ'' => match fl with | .next | .cont => Inv (i + 1) ρ'' | .brk => Φ .next ρ'' | .ret r => Φ (.ret r) ρ''))
    (hend : ∀ ρ', Inv kvs.length ρ' → Φ .next ρ')
    (hbase : attributeBase o ("items" : Str) env (eval o env) = eval o env := by with_unfolding_all rfl) (hline : (ap.endLine == cp.line) = true := by with_unfolding_all rfl)
    (hs : ∀ x, foldedSetIterable (.Call (.Attribute o ("items" : Str) ap) [] [] cp) env x = pure x := by intro _; with_unfolding_all rfl) :
    Exec c env ρ (.For (.Tuple [.Name (Str.ofString x) px, .Name (Str.ofString y) py] tk0 tpos) (.Call (.Attribute o ("items" : Str) ap) [] [] cp) body [] pos) Φ := by
  intro M s Q E F hQ
  refine wpAny_For (wpAny_Call_method0_late hbase hline (ho M s _ E F fun v s1 k1 D1 => ?_)) hs
  simp only [Den] at D1
  obtain ⟨d, rfl, hsm, od, es, ep, xs, hod, hcd, hdd, he, hks, hvs, hx, hnd⟩ := D1
  have F1 := F.keeps k1
  have hraw1 : RawDict s1.heap d es ep := ⟨od, hod.1, hcd, hdd⟩
  refine ⟨"dict", "dict.items", PySem.F.plainAttrs_dict, PySem.F.slot_dict_items, PySem.F.type_dict_items, hraw1.typeIs, fun a' e => by cases e; exact ⟨_, hod.1, hcd.2.1⟩, ?_⟩
  refine callWith_method0 (env := env) (raw_items hsm hraw1 ?_)
  obtain ⟨s2, hs2⟩ : ∃ s2 : Shared, s2 = { s1 with heap := s1.heap.push { cls := .type "dict_items", data := .fields #[.ref d] } } := ⟨_, rfl⟩
  rw [← hs2]
  have kv : Ke s1 s2 := by rw [hs2]; exact .push s1 _
  have hview : s2.heap.IsItemsView s1.heap.objs.size d := by rw [hs2]; exact ⟨_, Heap.get?_push_size _ rfl, rfl, rfl⟩
  clear hs2
  refine raw_iter_items hview (hraw1.mono fun o e => kv.get _ _ e) ?_
  have k2 := k1.trans kv
  have F2 := F.keeps k2
  have ki : Ke s2 { s2 with heap := s2.heap.push { cls := .type "dict_itemiterator", data := .fields #[.none, .bool false, .ref d, .int 0 0, .int es.size 0, .int ep 0, .none, .none] } } := .push s2 _
  have pushed := Heap.get?_push_size s2.heap (o := { cls := .type "dict_itemiterator", data := .fields #[.none, .bool false, .ref d, .int 0 0, .int es.size 0, .int ep 0, .none, .none] }) rfl
  obtain ⟨s3, hs3⟩ : ∃ s3 : Shared, s3 = { s2 with heap := s2.heap.push { cls := .type "dict_itemiterator", data := .fields #[.none, .bool false, .ref d, .int 0 0, .int es.size 0, .int ep 0, .none, .none] } } := ⟨_, rfl⟩
  rw [← hs3] at ki ⊢
  have hfI2 := get?_size_none s2.heap
  have hit0 : IsItemIter s3.heap s2.heap.objs.size d 0 es.size ep .none .none := by rw [hs3]; exact pushed
  clear pushed hs3
  generalize s2.heap.objs.size = I at *
  have k3 := k2.trans ki
  have hfI : s.heap.get? I = none := by
    cases e : s.heap.get? I with
    | none => rfl
    | some o => rw [k2.get _ _ e] at hfI2; cases hfI2
  have F3 : c.Fm env (fun q => q = I ∨ M q) ρ s3 := F2.moreM ki fun q w => by
    rcases w with rfl | w
    · exact .inr ⟨hfI2, _, hit0⟩
    · exact .inl w
  have hBI : c.B.get? I = none := by
    cases e : c.B.get? I with
    | none => rfl
    | some o => have := F.base _ _ e; rw [hfI] at this; cases this
  have hMI : ¬ M I := fun q => by obtain ⟨o, e⟩ := F.live I q; rw [hfI] at e; cases e
  have hWI : ¬ Wr env ρ I := fun q => F.fresh hfI (.inr q)
  have hfI' : ∀ o, s.heap.get? I = some o → False := fun o e => by rw [hfI] at e; cases e
  have kn1 : ∀ q o, kn M env ρ s1.heap q o → kn (fun q => q = I ∨ M q) env ρ s3.heap q o := fun q o x =>
    ⟨(kv.trans ki).get _ _ x.1, fun w => by
      rcases w with (w | w) | w
      · have e := kv.get _ _ x.1; rw [w, hfI2] at e; cases e
      · exact x.2 (.inl w)
      · exact x.2 (.inr w)⟩
  have hod3 := kn1 _ _ hod
  have hks3 : ∀ x ∈ xs, KeyAt (kn (fun q => q = I ∨ M q) env ρ s3.heap) x.1 x.2.1 := fun x hx => (hks x hx).mono kn1
  have hes : es.size = kvs.length := by rw [← Array.length_toList, he, hx, List.length_map, List.length_map]
  have st3 := Step.ke (env := env) (ρ := ρ) k3
  clear kn1 hks hod kv ki hview F2 F1 hfI2
  obtain ⟨h3, t3, rfl, hk3⟩ := k3.at
  refine codeAny_forLoop_any (fun k s' => ∃ i ρ' h' tk, k + i = kvs.length + 1 ∧ i ≤ kvs.length ∧ s' = At s h' tk ∧ Inv i ρ' ∧ c.Fm env (fun q => q = I ∨ M q) ρ' (At s h' tk) ∧ Step env ρ s.heap ρ' h' ∧
    (∃ ok ov, IsItemIter h' I d i es.size ep ok ov) ∧ ¬ Wr env ρ' I ∧ kn (fun q => q = I ∨ M q) env ρ' h' d od ∧ ∀ x ∈ xs, KeyAt (kn (fun q => q = I ∨ M q) env ρ' h') x.1 x.2.1) ?_ (kvs.length + 1)
    ⟨0, ρ, h3, t3, rfl, Nat.zero_le _, rfl, h0, F3, st3, ⟨_, _, hit0⟩, hWI, hod3, hks3⟩
  rintro k s' ⟨i, ρ', h', tk, hki, hiN, rfl, hInv, F', st', ⟨ok, ov, hit⟩, hW', hod', hks'⟩
  have hraw : RawDict (At s h' tk).heap d es ep := ⟨od, hod'.1, hcd, hdd⟩
  have butI : ∀ h3, (∀ b o, b ≠ I → h'.get? b = some o → h3.get? b = some o) → Step env ρ s.heap ρ' h3 := fun h3 hk3 =>
    ⟨fun b o hb e => hk3 b o (fun q => hfI' o (q ▸ e)) (st'.1 b o hb e), fun b q => st'.2 b q⟩
  by_cases hlt : i < kvs.length
  · obtain ⟨⟨k0, v0⟩, hkv⟩ : ∃ p, kvs[i]? = some p := ⟨_, List.getElem?_eq_getElem hlt⟩
    have hxi : i < xs.length := by rw [hx, List.length_map] at hlt; exact hlt
    have hxe : xs[i]? = some xs[i] := List.getElem?_eq_getElem hxi
    have hkv' : kvOf xs[i] = (k0, v0) := by
      rw [hx, List.getElem?_map, hxe] at hkv
      simpa using hkv
    have hmem : xs[i] ∈ xs := List.getElem_mem hxi
    obtain ⟨j, tj, hj⟩ := hvs _ hmem
    have hk0 : xs[i].1 = k0 := congrArg Prod.fst hkv'
    have hv0 : j = v0 := by
      have : intOf xs[i].2.2 = v0 := congrArg Prod.snd hkv'
      rw [hj] at this; exact this
    have hee : es[i]? = some ⟨c.H xs[i].1, .ref xs[i].2.1, xs[i].2.2⟩ := by rw [← Array.getElem?_toList, he, List.getElem?_map, hxe]; rfl
    refine raw_next_item hit hraw hee fun h4 T hT hio ht4 hk4 => ?_
    have F4 : c.Fm env (fun q => q = I ∨ M q) ρ' (At (At s h' tk) h4 tk) := F'.but (I := I) (.inl rfl) hW' hBI hk4 (fun a q => q) fun _ => ⟨_, hio⟩
    refine wpAny_letOwnedTupleGo_items (s := At s h4 tk) hio fun h5 hit5 hs5 => ?_
    have hs5' : Heap.SameBut I h4 h5 := hs5
    have hTI : T ≠ I := fun e => by
      have hi' : h'.get? I = some _ := hit
      rw [← e] at hi'
      have hT' : h'.get? T = none := hT
      rw [hT'] at hi'; cases hi'
    have hk5 : ∀ b o, b ≠ I → h'.get? b = some o → h5.get? b = some o := fun b o hb e => hs5'.extBut b o hb (hk4 b o hb e)
    have hl5 : ∃ o, h5.get? I = some o := ⟨_, hit5⟩
    have F5 : c.Fm env (fun q => q = I ∨ M q) ρ' (At (At s h' tk) h5 tk) := F'.but (I := I) (.inl rfl) hW' hBI hk5 (fun a q => q) fun _ => hl5
    have kn5 : ∀ q o, kn (fun q => q = I ∨ M q) env ρ' h' q o → kn (fun q => q = I ∨ M q) env ρ' h5 q o := fun q o x => ⟨hk5 q o (fun e => x.2 (.inl (.inl e))) x.1, x.2⟩
    have hTm : ¬ MW (fun q => q = I ∨ M q) env ρ' T := F'.fresh hT
    have hDen : Den (kn (fun q => q = I ∨ M q) env ρ' h5) (.tup [.tup (keyDs k0), .int v0]) (.ref T) := by
      have e1 := den_key ((hks' _ hmem).mono kn5)
      rw [hk0] at e1
      simp only [Den, DenL] at e1 ⊢
      exact ⟨T, _, _, rfl, ⟨hs5'.extBut T _ hTI ht4, hTm⟩, _, _, rfl, e1, _, _, rfl, ⟨tj, by rw [hj, hv0]⟩, rfl⟩
    have hst := st_tup2 (c := c) (env := env) (k := tk0) (pos := tpos) hh (st_name (ρ := ρ') (x := x) (pos := px) (d := .tup (keyDs k0)) hkx) (st_name (ρ := ρ'.set x (.tup (keyDs k0))) (x := y) (pos := py) (d := .int v0) hky) rfl
    refine hst _ _ _ _ _ F5 hDen fun h6 t6 F6 st6 => ?_
    refine hbody i k0 v0 ρ' hkv hInv _ _ _ _ F6 fun fl f ρ7 h7 t7 p F7 st7 fd7 => ?_
    have st57 : Step env ρ' h5 ρ7 h7 := st6.trans st7
    have stA : Step env ρ s.heap ρ7 h7 := (butI h5 hk5).trans st57
    have back : c.Fm env M ρ7 (At s h7 t7) := F7.lessM fun a q => .inr q
    have kn7 : ∀ q o, kn (fun q => q = I ∨ M q) env ρ7 h7 q o → kn M env ρ7 h7 q o := fun q o x => ⟨x.1, fun w => x.2 (w.imp .inr id)⟩
    have fit := fun q o x => st57.kn (fun q => q = I ∨ M q) q o (kn5 q o x)
    have again : Inv (i + 1) ρ7 → ∃ m, m < k ∧ ∃ i ρ' h' tk, m + i = kvs.length + 1 ∧ i ≤ kvs.length ∧ At (At s h' tk) h7 t7 = At s h' tk ∧ Inv i ρ' ∧ c.Fm env (fun q => q = I ∨ M q) ρ' (At s h' tk) ∧ Step env ρ s.heap ρ' h' ∧
        (∃ ok ov, IsItemIter h' I d i es.size ep ok ov) ∧ ¬ Wr env ρ' I ∧ kn (fun q => q = I ∨ M q) env ρ' h' d od ∧ ∀ x ∈ xs, KeyAt (kn (fun q => q = I ∨ M q) env ρ' h') x.1 x.2.1 := fun hI7 => by
      refine ⟨k - 1, by omega, i + 1, ρ7, h7, t7, by omega, hlt, rfl, hI7, F7, stA, ⟨_, _, st57.1 I _ hW' hit5⟩, fun q => ?_, fit _ _ hod', fun x hx => (hks' x hx).mono fit⟩
      rcases st57.2 I q with q | q
      · exact hW' q
      · obtain ⟨o, e⟩ := hl5; rw [e] at q; cases q
    cases fl with
    | next => cases fd7; exact again p
    | cont => cases fd7; exact again p
    | brk => cases fd7; exact hQ .next .next ρ7 h7 t7 p back stA rfl
    | ret d => obtain ⟨v', rfl, hv'⟩ := fd7; exact hQ (.ret d) _ ρ7 h7 t7 p back stA ⟨v', rfl, hv'.mono kn7⟩
  · have hie : i = es.size := by omega
    subst hie
    refine raw_end_item hh hit hraw fun h4 he4 => ?_
    have hk4 : ∀ b o, b ≠ I → h'.get? b = some o → h4.get? b = some o := fun b o hb e => he4 b o hb e
    have F4 : c.Fm env M ρ' (At (At s h' tk) h4 tk) := F'.but (I := I) (.inl rfl) hW' hBI hk4 (fun a q => .inr q) fun q => absurd q hMI
    exact wpAny_execs_nil (hQ .next .next ρ' h4 tk (hend ρ' (by rw [hes] at hInv; exact hInv)) F4 (butI h4 hk4) rfl)
end

section 
open PySem PySem.W PyProof.Rows
set_option linter.unusedVariables false
set_option maxRecDepth 100000

variable {c : Cx} {env : Env} {ρ : St}

theorem walks_values (hh : c.A.handled = none) (I d : Addr) (hne : d ≠ I) (es : Array DictEntry) (ep : Nat) :
    Walks c.prog c.w c.A I [I, d] [I] es.size (fun i v => ∃ e, es[i]? = some e ∧ v = e.val) (fun i h => h.IsValIter I d i es.size ep ∧ RawDict h d es ep) where
  sub := fun b hb => by simp at hb; simp [hb]
  frame := fun _ _ _ st hk => ⟨st.1.at fun o e => hk I (by simp) o e, st.2.mono fun o e => hk d (by simp) o e⟩
  item := fun i s Q E hi st hQ => by
    have he : es[i]? = some es[i] := Array.getElem?_eq_getElem hi
    refine raw_next_value st.1 st.2 he fun h' hit' hs' => ?_
    exact hQ _ h' s.toks ⟨_, he, rfl⟩ ⟨hit', st.2.mono fun o e => hs'.extBut d o hne e⟩ fun b o hb e => hs'.extBut b o (fun h => hb (by simp [h])) e
  done := fun s Q E st hQ => raw_end_value hh st.1 st.2 fun h' he' => hQ h' s.toks fun b o hb e => he' b o (fun h => hb (by simp [h])) e
  self := fun _ _ _ _ st hQ => wpAny_pyIter_valiter st.1 hQ

theorem it_values {o : Expr} {ap cp : Pos} {kvs : List (Key × Int)} (hh : c.A.handled = none) (ho : Evals c env ρ o (.dct c.H kvs)) (hz : kvs.length ≤ 2 ^ 20)
    (hbase : attributeBase o ("values" : Str) env (eval o env) = eval o env := by with_unfolding_all rfl) (hline : (ap.endLine == cp.line) = true := by with_unfolding_all rfl) :
    IterOf c env ρ (.Call (.Attribute o ("values" : Str) ap) [] [] cp) (kvs.map fun p => .int p.2) := by
  intro M s Q E F hQ
  refine wpAny_Call_method0_late hbase hline (ho M s _ E F fun v s1 k1 D1 => ?_)
  simp only [Den] at D1
  obtain ⟨d, rfl, hsm, od, es, ep, xs, hod, hcd, hdd, he, hks, hvs, hx, hnd⟩ := D1
  have F1 := F.keeps k1
  have hraw1 : RawDict s1.heap d es ep := ⟨od, hod.1, hcd, hdd⟩
  refine ⟨"dict", "dict.values", PySem.F.plainAttrs_dict, PySem.F.slot_dict_values, PySem.F.type_dict_values, hraw1.typeIs, fun a' e => by cases e; exact ⟨_, hod.1, hcd.2.1⟩, ?_⟩
  refine callWith_method0 (env := env) (raw_values hsm hraw1 ?_)
  obtain ⟨s2, hs2⟩ : ∃ s2 : Shared, s2 = { s1 with heap := s1.heap.push { cls := .type "dict_values", data := .fields #[.ref d] } } := ⟨_, rfl⟩
  rw [← hs2]
  have kv : Ke s1 s2 := by rw [hs2]; exact .push s1 _
  have hview : s2.heap.IsValuesView s1.heap.objs.size d := by rw [hs2]; exact ⟨_, Heap.get?_push_size _ rfl, rfl, rfl⟩
  clear hs2
  have hraw2 : RawDict s2.heap d es ep := hraw1.mono fun o e => kv.get _ _ e
  refine raw_iter_values hview hraw2 ?_
  have k2 := k1.trans kv
  have ki : Ke s2 { s2 with heap := s2.heap.push { cls := .type "dict_valueiterator", data := .fields #[.ref d, .int 0 0, .int es.size 0, .int ep 0] } } := .push s2 _
  have pushed := Heap.get?_push_size s2.heap (o := { cls := .type "dict_valueiterator", data := .fields #[.ref d, .int 0 0, .int es.size 0, .int ep 0] }) rfl
  obtain ⟨s3, hs3⟩ : ∃ s3 : Shared, s3 = { s2 with heap := s2.heap.push { cls := .type "dict_valueiterator", data := .fields #[.ref d, .int 0 0, .int es.size 0, .int ep 0] } } := ⟨_, rfl⟩
  rw [← hs3] at ki ⊢
  have hfI2 := get?_size_none s2.heap
  have hit0 : s3.heap.IsValIter s2.heap.objs.size d 0 es.size ep := by rw [hs3]; exact ⟨_, pushed, rfl, rfl⟩
  have hdI : d ≠ s2.heap.objs.size := fun e => by
    obtain ⟨o, ho, _⟩ := hraw2
    rw [e, hfI2] at ho; cases ho
  clear pushed hs3
  generalize s2.heap.objs.size = I at *
  have hfI : s.heap.get? I = none := by
    cases e : s.heap.get? I with
    | none => rfl
    | some o => rw [k2.get _ _ e] at hfI2; cases hfI2
  have hes : es.size = (kvs.map fun p => D.int p.2).length := by rw [← Array.length_toList, he, hx, List.length_map, List.length_map, List.length_map]
  have hd3 := (kv.trans ki).get _ _ hod.1
  refine hQ I s3 (k2.trans ki) hfI (let ⟨o, e, _⟩ := hit0; ⟨o, e⟩) ⟨[I, d], es.size, _, _, walks_values hh I d hdI es ep, hes, ?_, ⟨hit0, od, hd3, hcd, hdd⟩, fun b hb => ?_, fun b hb => ?_, fun j h st => ?_, fun j v e hP hd => ?_⟩
  · rw [hes, List.length_map]; exact Nat.le_trans hz (by decide)
  · rcases List.mem_cons.mp hb with rfl | hb
    · exact .inl rfl
    · rcases List.mem_cons.mp hb with rfl | hb
      · refine .inr ?_
        rintro ((w | w) | w)
        · exact hdI w
        · exact hod.2 (.inl w)
        · exact hod.2 (.inr w)
      · cases hb
  · rcases List.mem_cons.mp hb with rfl | hb
    · obtain ⟨o, e, _⟩ := hit0; exact ⟨o, e⟩
    · rcases List.mem_cons.mp hb with rfl | hb
      · exact ⟨_, hd3⟩
      · cases hb
  · obtain ⟨⟨o, e, _⟩, _⟩ := st; exact ⟨o, e⟩
  · obtain ⟨ee, hee, rfl⟩ := hP
    rw [← Array.getElem?_toList, he, List.getElem?_map] at hee
    obtain ⟨xj, hxj, rfl⟩ := Option.map_eq_some_iff.mp hee
    obtain ⟨i, t, hi⟩ := hvs _ (List.mem_of_getElem? hxj)
    rw [hx, List.getElem?_map, List.getElem?_map, hxj] at hd
    simp only [Option.map_some, Option.some.injEq] at hd
    subst hd
    simp only [Den, kvOf, hi, intOf]
    exact ⟨t, rfl⟩

theorem evn_dict0 {pos : Pos} (hsys : ∃ o, c.B.get? cStatics = some o) : EvalsN c env ρ (.Dict [] [] pos) (.dct []) := by
  intro M s Q E F hQ
  have hfr := get?_size_none s.heap
  refine wpAny_Dict_empty (hQ _ _ (.push s _) hfr ⟨?_, ?_⟩)
  · rw [beq_eq_false_iff_ne]
    intro e
    obtain ⟨o, ho⟩ := hsys
    have h1 := Heap.lt_size (F.base _ _ ho)
    rw [e] at h1
    exact absurd h1 (by decide)
  · exact ⟨_, #[], 0, [], Heap.get?_push_size _ rfl, ⟨rfl, rfl, rfl⟩, rfl, rfl, fun _ hx => (by cases hx), fun _ hx => (by cases hx), rfl, List.nodup_nil⟩

theorem evn_dict1 {ke ve : Expr} {pos : Pos} {k : Key} {i : Int} (hsys : ∃ o, c.B.get? cStatics = some o) (hu : c.A.units + 100 < cLine) (hk : Evals c env ρ ke (.tup (keyDs k))) (hv : Evals c env ρ ve (.int i)) :
    EvalsN c env ρ (.Dict [some ke] [ve] pos) (.dct [(k, i)]) := by
  intro M s Q E F hQ
  have hfr := get?_size_none s.heap
  refine wpAny_Dict_any rfl rfl (by simp) (by simp) ?_
  have kp : Ke s { s with heap := s.heap.push { cls := .type "dict", data := .dict #[] } } := .push s _
  have hd0 : (s.heap.push { cls := .type "dict", data := .dict #[] }).get? s.heap.objs.size = some { cls := .type "dict", data := .dict #[] } := Heap.get?_push_size _ rfl
  have hsm : (s.heap.objs.size == sysModules) = false := by
    rw [beq_eq_false_iff_ne]
    intro e
    obtain ⟨o, ho⟩ := hsys
    have h1 := Heap.lt_size (F.base _ _ ho)
    rw [e] at h1
    exact absurd h1 (by decide)
  generalize s.heap.objs.size = d at *
  obtain ⟨s1, hs1⟩ : ∃ s1 : Shared, s1 = { s with heap := s.heap.push { cls := .type "dict", data := .dict #[] } } := ⟨_, rfl⟩
  rw [← hs1] at kp ⊢
  have hd1 : s1.heap.get? d = some { cls := .type "dict", data := .dict #[] } := by rw [hs1]; exact hd0
  clear hd0 hs1
  have F1 : c.Fm env (fun q => q = d ∨ M q) ρ s1 := F.moreM kp fun q w => by
    rcases w with rfl | w
    · exact .inr ⟨hfr, _, hd1⟩
    · exact .inl w
  refine evalPairs_cons (hk _ s1 _ E F1 fun kval s2 k2 D2 => ?_)
  refine wpAny_bind (hv _ s2 _ E (F1.keeps k2) fun vval s3 k3 D3 => wpAny_bind (wpAny_standAt (wpAny_pure ?_)))
  show wpAny _ _ (evalPairs []) _ E s3
  refine wpAny_pure ?_
  obtain ⟨b, rfl, kb⟩ := key_den (D2.mono (knM.keeps k3))
  simp only [Den] at D3
  obtain ⟨t, rfl⟩ := D3
  have k13 := k2.trans k3
  have hd3 := k13.get _ _ hd1
  have hD : s3.heap.DictOfH (TK c) d [] := ⟨_, #[], 0, hd3, ⟨rfl, rfl, rfl⟩, rfl, rfl, fun _ hx => (by simp at hx), List.nodup_nil⟩
  show wpAny _ _ (forIn [(Value.ref b, Value.int i t)] PUnit.unit _) _ E s3
  rw [List.forIn_cons]
  refine wpAny_bind (wpAny_bind (wpAny_dictSet_heap (knd := TK c) (k := k) (show c.A.units < cLine by omega) (kb.is fun q o x => x.1) hD (fun h' hD' hs' => wpAny_pure ?_) (by simp)))
  show wpAny _ _ (forIn [] PUnit.unit _) _ E _
  rw [List.forIn_nil]
  refine wpAny_pure ?_
  have kk := kp.trans k13
  obtain ⟨h3, t3, e3, hk3⟩ := kk.at
  subst e3
  refine hQ d _ ⟨h', _, rfl, fun q o e => hs'.extBut q o (fun w => by rw [w, hfr] at e; cases e) (hk3 q o e)⟩ hfr ⟨hsm, DctAt.from hD' ?_ ?_ ?_⟩
  · rw [storedH_new (by rfl)]; rfl
  · intro x hx
    rw [storedH_new (by rfl), List.nil_append, List.mem_singleton] at hx
    subst hx
    refine kb.mono fun q o x => ⟨hs'.extBut q o (fun w => x.2 (.inl (.inl w))) x.1, ?_⟩
    rintro (w | w | w)
    · exact x.2 (.inl (.inl w))
    · exact x.2 (.inl (.inr w))
    · exact x.2 (.inr w)
  · intro x hx
    rw [storedH_new (by rfl), List.nil_append, List.mem_singleton] at hx
    subst hx
    exact ⟨i, t, rfl⟩

/-- two new objects in a tuple -/
theorem pair_new {e1 e2 : Expr} {k : Nat} {pos : Pos} {od1 od2 : OD} {M : Addr → Prop} {s : Shared} {Q : Value → Shared → Prop} {E : Value → Shared → Prop} (F : c.Fm env M ρ s) (h1 : EvalsN c env ρ e1 od1) (h2 : ∀ a1, EvalsN c env ⟨ρ.vars, (a1, od1) :: ρ.owns⟩ e2 od2)
    (hQ : ∀ a1 a2 v s', c.Fm env M ⟨ρ.vars, (a2, od2) :: (a1, od1) :: ρ.owns⟩ s' → Step env ρ s.heap ⟨ρ.vars, (a2, od2) :: (a1, od1) :: ρ.owns⟩ s'.heap → Ke s s' →
      Den (kn M env ⟨ρ.vars, (a2, od2) :: (a1, od1) :: ρ.owns⟩ s'.heap) (.tup [.own a1, .own a2]) v → Q v s')
    (hs : backTo pos (starEach [e1, e2] env) = [(false, eval e1 env), (false, eval e2 env)] := by with_unfolding_all rfl) : wpAny (model c.prog c.w) c.A (eval (.Tuple [e1, e2] k pos) env) Q E s := by
  refine Tuple_ ?_
  rw [hs]
  refine Calls.spliced_cons (h1 M s _ E F fun a1 s1 k1 ha1 hO1 => ?_)
  obtain ⟨F1, st1⟩ := F.take k1 ha1 hO1
  refine Calls.spliced_cons (h2 a1 M s1 _ E F1 fun a2 s2 k2 ha2 hO2 => Calls.spliced_nil ?_)
  obtain ⟨F2, st2⟩ := F1.take k2 ha2 hO2
  have k3 : Ke s2 { s2 with heap := s2.heap.push { cls := .type "tuple", data := .seq #[.ref a1, .ref a2] } } := .push s2 _
  refine wpAny_newTuple (hQ a1 a2 _ _ (F2.keeps k3) ((st1.trans st2).trans (Step.ke (env := env) (ρ := ⟨ρ.vars, (a2, od2) :: (a1, od1) :: ρ.owns⟩) k3)) ((k1.trans k2).trans k3) ?_)
  simp only [Den, DenL]
  exact ⟨_, _, _, rfl, ⟨Heap.get?_push_size _ rfl, F2.fresh (get?_size_none _)⟩, _, _, rfl, rfl, _, _, rfl, rfl, rfl⟩

/-- x, y = (new, new): in order -/
theorem assign_pair_new {x y : String} {px py tpos vpos pos : Pos} {k kt : Nat} {e1 e2 : Expr} {od1 od2 : OD} {Φ : Post} (hh : c.A.handled = none) (h1 : EvalsN c env ρ e1 od1) (h2 : ∀ a1, EvalsN c env ⟨ρ.vars, (a1, od1) :: ρ.owns⟩ e2 od2)
    (hkx : Kind env x) (hky : Kind env y) (hΦ : ∀ a1 a2, Φ .next ⟨upd y (.own a2) (upd x (.own a1) ρ.vars), (a2, od2) :: (a1, od1) :: ρ.owns⟩)
    (hs : swapsWithSole [.Tuple [.Name (Str.ofString x) px, .Name (Str.ofString y) py] kt tpos] (.Tuple [e1, e2] k vpos) pos.line env = pure false := by with_unfolding_all rfl)
    (hw : swappedStores [.Tuple [.Name (Str.ofString x) px, .Name (Str.ofString y) py] kt tpos] (.Tuple [e1, e2] k vpos) env = pure none := by with_unfolding_all rfl)
    (he : backTo vpos (starEach [e1, e2] env) = [(false, eval e1 env), (false, eval e2 env)] := by with_unfolding_all rfl) :
    Exec c env ρ (.Assign [.Tuple [.Name (Str.ofString x) px, .Name (Str.ofString y) py] kt tpos] (.Tuple [e1, e2] k vpos) pos) Φ := by
  intro M s Q E F hQ
  refine Assign_Tuple (pair_new F h1 h2 (fun a1 a2 v s' F' st k D => ?_) he) hs hw
  have hst := st_tup2 (c := c) (env := env) (k := kt) (pos := tpos) hh (st_name (ρ := ⟨ρ.vars, (a2, od2) :: (a1, od1) :: ρ.owns⟩) (x := x) (pos := px) (d := .own a1) hkx)
    (st_name (ρ := (⟨ρ.vars, (a2, od2) :: (a1, od1) :: ρ.owns⟩ : St).set x (.own a1)) (x := y) (pos := py) (d := .own a2) hky) rfl
  refine hst _ _ _ _ _ F' D fun h6 t6 F6 st6 => ?_
  obtain ⟨h0, t0, rfl, hk0⟩ := k.at
  exact hQ .next .next _ h6 t6 (hΦ a1 a2) F6 (st.trans st6) rfl

/-- x, y = (new, new): names of the frame alone, the last first -/
theorem assign_pair_swap {x y : String} {px py tpos vpos pos : Pos} {k kt : Nat} {e1 e2 : Expr} {od1 od2 : OD} {Φ : Post} (hh : c.A.handled = none) (h1 : EvalsN c env ρ e1 od1) (h2 : ∀ a1, EvalsN c env ⟨ρ.vars, (a1, od1) :: ρ.owns⟩ e2 od2)
    (hkx : Kind env x) (hky : Kind env y) (hΦ : ∀ a1 a2, Φ .next ⟨upd x (.own a1) (upd y (.own a2) ρ.vars), (a2, od2) :: (a1, od1) :: ρ.owns⟩)
    (hs : swapsWithSole [.Tuple [.Name (Str.ofString x) px, .Name (Str.ofString y) py] kt tpos] (.Tuple [e1, e2] k vpos) pos.line env = pure false := by with_unfolding_all rfl)
    (hw : swappedStores [.Tuple [.Name (Str.ofString x) px, .Name (Str.ofString y) py] kt tpos] (.Tuple [e1, e2] k vpos) env = pure (some [Str.ofString x, Str.ofString y]) := by with_unfolding_all rfl)
    (he : backTo vpos (starEach [e1, e2] env) = [(false, eval e1 env), (false, eval e2 env)] := by with_unfolding_all rfl) :
    Exec c env ρ (.Assign [.Tuple [.Name (Str.ofString x) px, .Name (Str.ofString y) py] kt tpos] (.Tuple [e1, e2] k vpos) pos) Φ := by
  intro M s Q E F hQ
  refine Assign_Tuple_swapped (names := [Str.ofString x, Str.ofString y]) (pair_new F h1 h2 (fun a1 a2 v s' F' st k D => ?_) he) hs hw
  simp only [Den, DenL] at D
  obtain ⟨a, vs, n, rfl, ho, v1, r, hvs, D1, v2, r', rfl, D2, rfl⟩ := D
  subst D1
  subst D2
  have hsz : vs.size = 2 := by rw [← Array.length_toList, hvs]; rfl
  have hu : wpAny (model c.prog c.w) c.A (unpackItems (.ref a) vs.size none) (fun items s₂ => wpAny (model c.prog c.w) c.A (assignInOrder (List.map (fun n => bindName env n) [Str.ofString x, Str.ofString y].reverse) items.reverse) (fun x => Q Flow.next) E s₂) E s' := by
    refine wpAny_unpackItems_tuple hh ⟨_, ho.1, rfl, n, rfl⟩ fun h0 hx0 => ?_
    have k0 : Ke s' { s' with heap := h0 } := ⟨h0, s'.toks, rfl, fun b o e => hx0 b o (Nat.ne_of_lt (Heap.lt_size e)) e⟩
    have F0 := F'.keeps k0
    rw [hvs]
    refine assignInOrder_cons (bindName_ (store_name (d := .own a2) F0 hky (by simp [Den]) fun h5 t5 F5 st5 => ?_))
    refine assignInOrder_cons (bindName_ (store_name (d := .own a1) F5 hkx (by simp [Den]) fun h6 t6 F6 st6 => assignInOrder_nil ?_))
    have k0' := k.trans k0
    have st' := (st.trans (Step.ke (env := env) (ρ := ⟨ρ.vars, (a2, od2) :: (a1, od1) :: ρ.owns⟩) k0)).trans (st5.trans st6)
    obtain ⟨h1', t1', e1', hk1'⟩ := k0'.at
    have e2' : At (At { s' with heap := h0 } h5 t5) h6 t6 = At s h6 t6 := by rw [e1']; rfl
    rw [e2'] at F6 ⊢
    exact hQ .next .next _ h6 t6 (hΦ a1 a2) F6 st' rfl
  rw [hsz] at hu
  exact hu

theorem ev_isinst_int {np tp pos : Pos} {e : Expr} {i : Int} (hG : GName c.B ("isinstance" : Str) (.builtin "isinstance")) (hT : GName c.B ("tuple" : Str) (.type "tuple")) (h : Evals c env ρ e (.int i))
    (hx : env.kindOf ("isinstance" : Str) = some .globalImplicit) (hy : env.kindOf ("tuple" : Str) = some .globalImplicit)
    (hs : backTo pos (starEach [e, .Name ("tuple" : Str) tp] env) = [(false, eval e env), (false, eval (.Name ("tuple" : Str) tp) env)] := by with_unfolding_all rfl) :
    Evals c env ρ (.Call (.Name ("isinstance" : Str) np) [e, .Name ("tuple" : Str) tp] [] pos) (.bool false) := by
  intro M s Q E F hQ
  refine wpAny_Call_NameR (ev_global hG F hx (by decide) ?_)
  rw [hs]
  refine Calls.callWith_builtin rfl (Calls.evalArgs_plain (Calls.spliced_cons (h M s _ E F fun v1 s1 k1 D1 => Calls.spliced_cons (ev_global hT (F.keeps k1) hy (by decide) (Calls.spliced_nil ?_)))))
  simp only [Den] at D1
  obtain ⟨t, rfl⟩ := D1
  exact PySem.IsiPair.int_tuple (hQ _ _ (k1.trans (.tok s1 _)) rfl)
end

section 
open PySem PySem.W PyProof.Rows
set_option linter.unusedVariables false
set_option maxRecDepth 100000

variable {c : Cx} {env : Env} {ρ : St}

def fdBis : FuncData := fdAt 5 (.ref 38) (.ref 39) (.str ("cpy313.bisect" : Str) 209) 45
def fdIns : FuncData := fdAt 4 (.ref 29) (.ref 30) (.str ("cpy313.bisect" : Str) 209) 36
def envBis (L : Addr) : Env := callEnvC fdBis L 46
def envIns (L : Addr) : Env := callEnvC fdIns L 37

/-- the defaults (0, None) and {'key': None} of a def -/
def dflK (T D : Addr) (t u : Tok) (hs : Int) (n : Nat) (ep : Nat) : Frag := [(T, { cls := .type "tuple", data := .seq #[.int 0 t, .none] n }), (D, { cls := .type "dict", data := .dict #[⟨hs, .str ("key" : Str) u, .none⟩] ep })]

theorem binds_bis2 {s : Shared} {t u : Tok} {hs : Int} {n ep : Nat} (x : (dflK 38 39 t u hs n ep).In s.heap) (a b : Value) : BindsTo s fdBis ⟨[a, b], []⟩ [("a", a), ("x", b), ("lo", .int 0 t), ("hi", .none), ("key", .none)] :=
  kp_binds x fun S => by with_unfolding_all rfl
theorem binds_bis4 {s : Shared} {t u : Tok} {hs : Int} {n ep : Nat} (x : (dflK 38 39 t u hs n ep).In s.heap) (a b lo hi : Value) : BindsTo s fdBis ⟨[a, b, lo, hi], []⟩ [("a", a), ("x", b), ("lo", lo), ("hi", hi), ("key", .none)] :=
  kp_binds x fun S => by with_unfolding_all rfl
theorem binds_ins2 {s : Shared} {t u : Tok} {hs : Int} {n ep : Nat} (x : (dflK 29 30 t u hs n ep).In s.heap) (a b : Value) : BindsTo s fdIns ⟨[a, b], []⟩ [("a", a), ("x", b), ("lo", .int 0 t), ("hi", .none), ("key", .none)] :=
  kp_binds x fun S => by with_unfolding_all rfl

theorem Sub.at {l : List (String × D)} {ρ : St} {x : String} {d : D} (S : Sub l ρ) (h : l.lookup x = some d) : ρ.vars.lookup x = some d := S.1 _ (memOfLookup h)

/-- a call of a def, entered -/
theorem fn_enter {a : Addr} {fd : FuncData} {body : List Stmt} {l : List (String × D)} {bs : List (Str × Value)} {N : Addr → Prop} {s : Shared} {vs : List Value} {Q : Value → Shared → Prop} {E : Value → Shared → Prop} (G : FnOk c.B a fd body) (hroom : c.A.depth < recursionLimit)
    (hnd : (l.map (·.1)).Nodup)
    (hkind : ∀ n, ∀ x ∈ l, fd.scope.names.lookup (Str.ofString x.1) = some .local ∨ (fd.scope.names.lookup (Str.ofString x.1) = some .cell ∧ ((cellsFrom n fd.scope.names []).lookup (Str.ofString x.1)).isSome = true))
    (hB : ∀ b o, c.B.get? b = some o → s.heap.get? b = some o) (L : Live N s) (hbs : BindsTo s fd ⟨vs, []⟩ bs) (hb : Binds (knM N s.heap) l bs)
    (hrun : ∀ s1 E', c.Fm (callEnvC fd s.heap.objs.size a) N ⟨l, []⟩ s1 → Ke s s1 → (∀ b, Wr (callEnvC fd s.heap.objs.size a) ⟨l, []⟩ b → s.heap.get? b = none) →
      wpAny (model c.prog c.w) (c.A.deeper (callEnvC fd s.heap.objs.size a)) (execs body (callEnvC fd s.heap.objs.size a)) (fun f s' => Q (match f with | .ret v => v | _ => .none) s') E' s1) :
    wpAny (model c.prog c.w) c.A (call (.ref a) vs) Q E s := by
  obtain ⟨o, ho, hd⟩ := G.obj
  have hkind' : ∀ n, ∀ x ∈ bs, fd.scope.names.lookup x.1 = some .local ∨ (fd.scope.names.lookup x.1 = some .cell ∧ ((cellsFrom n fd.scope.names []).lookup x.1).isSome = true) := by
    intro n x hx
    have : x.1 ∈ bs.map (·.1) := List.mem_map_of_mem hx
    rw [hb.names] at this
    obtain ⟨p, hp, e⟩ := List.mem_map.mp this
    rw [← e]; exact hkind n p hp
  refine wpAny_call (codeAny_call_function hroom (hB _ _ ho) hd G.noco G.nogen G.body (G.code.keeps hB) (hbs _ _ _ _ ?_))
  rw [G.clo]
  refine wpAny_newFunctionEnv_cells G.kind (hkind' _) fun env he s1 x => ?_
  have he' : env = callEnvC fd s.heap.objs.size a := he
  obtain ⟨F1, k1, hw⟩ := InCallC.fm (B := c.B) (H := c.H) hB L ⟨G.glob, G.blt, G.kind⟩ hb hnd he' (fun x hx => by rw [he']; exact hkind' _ x hx) x
  refine ⟨(G.nolim.keeps hB).keeps k1.get, codeAny_func ?_⟩
  subst he'
  exact hrun s1 _ F1 k1 hw

theorem bis_runs {L : Addr} {l : List Int} {x : Int} {r : Nat} (g : Gl c) (hr : r ≤ l.length) (hl : l.length ≤ 2 ^ 9) (hlt : ∀ (j : Nat) (h : j < l.length), l[j] < x ↔ j < r) :
    Runs c (envBis L) ⟨[("a", intsD l), ("x", .int x), ("lo", .int 0), ("hi", .none), ("key", .none)], []⟩ (bodyOf (stm 5)) (Ends (.int r)) := by
  refine runs_then (R := Sub [("a", intsD l), ("x", .int x), ("lo", .int 0), ("hi", .none), ("key", .none)])
    (exec_if (t_cmp (ev_name rfl) ev_int o_lt (by with_unfolding_all rfl)) (fun h => (by simp at h)) fun _ => runs_nil ⟨rfl, .cons rfl (.cons rfl (.cons rfl (.cons rfl (.cons rfl .nil))))⟩) fun ρ1 S1 => ?_
  refine Tree.from S1 ?_
  refine runs_then (R := Sub [("a", intsD l), ("x", .int x), ("lo", .int 0), ("hi", .int l.length), ("key", .none)])
    (exec_if (t_cmp (ev_name rfl) ev_none o_is (by with_unfolding_all rfl)) (fun _ => runs_then (R := Sub [("a", intsD l), ("x", .int x), ("lo", .int 0), ("hi", .int l.length), ("key", .none)])
      (assign_name (Evals.to (ev_len g.len (ev_name rfl) (by rw [List.length_map]; omega) (by with_unfolding_all rfl)) (by rw [List.length_map])) (.inl (by with_unfolding_all rfl)) ⟨rfl, .cons rfl (.cons rfl (.cons rfl (.cons rfl (.cons rfl .nil))))⟩)
      fun ρ2 S2 => runs_nil ⟨rfl, S2⟩) fun h => (by cases h)) fun ρ2 S2 => ?_
  refine Tree.from S2 ?_
  refine runs_then (R := Sub [("lo", .int r)]) (exec_if (t_cmp (ev_name rfl) ev_none o_is (by with_unfolding_all rfl)) (fun _ => ?_) fun h => (by cases h)) fun ρ3 S3 => ?_
  · refine runs_then (R := Sub [("lo", .int r)])
      (exec_while (Inv := fun k ρ' => ∃ lo hi : Nat, k = hi - lo ∧ lo ≤ r ∧ r ≤ hi ∧ hi ≤ l.length ∧ Sub [("a", intsD l), ("x", .int x), ("lo", .int lo), ("hi", .int hi)] ρ') l.length
        ⟨0, l.length, rfl, Nat.zero_le _, hr, Nat.le_refl _, .cons rfl (.cons rfl (.cons rfl (.cons rfl .nil)))⟩ ?_) fun ρ3 S3 => runs_nil ⟨rfl, S3⟩
    rintro k ρ' ⟨lo, hi, rfl, h1, h2, h3, S⟩
    refine ⟨decide (lo < hi), Tests.to (t_cmp (ev_name (S.at rfl)) (ev_name (S.at rfl)) o_lt (by with_unfolding_all rfl)) (by simp), fun ht => ?_, fun hf => ?_⟩
    · have hlh : lo < hi := of_decide_eq_true ht
      refine Tree.from S ?_
      have hmid : Int.fdiv ((lo : Int) + hi) 2 = (((lo + hi) / 2 : Nat) : Int) := by
        rw [Int.fdiv_eq_ediv_of_nonneg _ (by decide)]; omega
      have hm1 : (lo + hi) / 2 < l.length := by omega
      refine runs_then (R := Sub [("a", intsD l), ("x", .int x), ("lo", .int lo), ("hi", .int hi), ("mid", .int ((lo + hi) / 2 : Nat))])
        (assign_name (Evals.to (ev_bin (ev_bin (ev_name rfl) (ev_name rfl) o_add) ev_int (o_floordiv (by decide) (pylong_two _))) (by rw [hmid])) (.inl (by with_unfolding_all rfl)) ⟨rfl, .cons rfl (.cons rfl (.cons rfl (.cons rfl (.cons rfl .nil))))⟩) fun ρ4 S4 => ?_
      refine Tree.from S4 ?_
      refine runs_then (R := fun ρ'' => ∃ m, m < hi - lo ∧ ∃ lo hi : Nat, m = hi - lo ∧ lo ≤ r ∧ r ≤ hi ∧ hi ≤ l.length ∧ Sub [("a", intsD l), ("x", .int x), ("lo", .int lo), ("hi", .int hi)] ρ'')
        (exec_if (t_cmp (ev_item (ev_name rfl) (ev_name rfl) (by omega) (by omega) (item_int (by omega) (by omega)) (by intro _ _; with_unfolding_all rfl)) (ev_name rfl) o_lt (by with_unfolding_all rfl)) (fun h => ?_) fun h => ?_) fun ρ5 h => runs_nil h
      · have hat : atI l ((lo + hi) / 2 : Nat) = l[(lo + hi) / 2] := by
          rw [atI, Int.toNat_natCast, List.getD_eq_getElem?_getD, List.getElem?_eq_getElem hm1]; rfl
        have hlt' := (hlt _ hm1).mp (by rw [← hat]; exact of_decide_eq_true h)
        refine runs_then (R := Sub [("a", intsD l), ("x", .int x), ("lo", .int ((lo + hi) / 2 + 1 : Nat)), ("hi", .int hi)])
          (assign_name (ev_bin (ev_name rfl) ev_int o_add) (.inl (by with_unfolding_all rfl)) ⟨rfl, .cons rfl (.cons rfl (.cons rfl (.cons rfl .nil)))⟩) fun ρ5 S5 => runs_nil ⟨rfl, ?_⟩
        exact ⟨hi - ((lo + hi) / 2 + 1), by omega, _, _, rfl, by omega, h2, h3, S5⟩
      · have hat : atI l ((lo + hi) / 2 : Nat) = l[(lo + hi) / 2] := by
          rw [atI, Int.toNat_natCast, List.getD_eq_getElem?_getD, List.getElem?_eq_getElem hm1]; rfl
        have hge : ¬ (lo + hi) / 2 < r := fun q => (of_decide_eq_false h) (by rw [hat]; exact (hlt _ hm1).mpr q)
        refine runs_then (R := Sub [("a", intsD l), ("x", .int x), ("lo", .int lo), ("hi", .int ((lo + hi) / 2 : Nat))])
          (assign_name (ev_name rfl) (.inl (by with_unfolding_all rfl)) ⟨rfl, .cons rfl (.cons rfl (.cons rfl (.cons rfl .nil)))⟩) fun ρ5 S5 => runs_nil ⟨rfl, ?_⟩
        exact ⟨(lo + hi) / 2 - lo, by omega, _, _, rfl, h1, by omega, by omega, S5⟩
    · have hlh : ¬ lo < hi := of_decide_eq_false hf
      have e : lo = r := by omega
      subst e
      exact ⟨rfl, fun p hp => S.1 p (by simp at hp ⊢; rcases hp with rfl; simp), S.2⟩
  refine Tree.from S3 ?_
  refine runs_cons (Ψ := fun fl _ => fl = .ret (.int r)) (exec_ret (ev_name rfl) rfl) (fun _ q => by cases q) (fun fl _ _ q => by subst q; exact .inl rfl)
end

section 
open PySem PySem.W PyProof.Rows
set_option linter.unusedVariables false
set_option maxRecDepth 100000

variable {c : Cx} {env : Env} {ρ : St}

def fdAdd : FuncData := fdAt 1 .none .none (.str ("cpy313.pstats" : Str) 187) 20
def fdCnt : FuncData := fdAt 2 .none .none (.str ("cpy313.pstats" : Str) 187) 27
def fdApart : FuncData := fdAt 8 .none .none (.str ("law_hl0001_01" : Str) 238) 57
def envAdd (L : Addr) : Env := callEnvC fdAdd L 21
def envCnt (L : Addr) : Env := callEnvC fdCnt L 28
def envApart (L : Addr) : Env := callEnvC fdApart L 58

/-- what stands in the modules -/
structure Md (c : Cx) : Prop where
  g : Gl c
  nAdd : GName c.B ("add_callers" : Str) (.ref 21)
  nCnt : GName c.B ("count_calls" : Str) (.ref 28)
  nIns : GName c.B ("insort_left" : Str) (.ref 37)
  nBis : GName c.B ("bisect_left" : Str) (.ref 46)
  nLots : GName c.B ("_law_lots" : Str) (.ref 51)
  nApart : GName c.B ("_law_apart" : Str) (.ref 58)
  fAdd : FnOk c.B 21 fdAdd (bodyOf (stm 1))
  fCnt : FnOk c.B 28 fdCnt (bodyOf (stm 2))
  fIns : FnOk c.B 37 fdIns (bodyOf (stm 4))
  fBis : FnOk c.B 46 fdBis (bodyOf (stm 5))
  fLots : FnOk c.B 51 fdLots (bodyOf (stm 7))
  fApart : FnOk c.B 58 fdApart (bodyOf (stm 8))
  dBis : ∃ t u hs n ep, (dflK 38 39 t u hs n ep).In c.B
  dIns : ∃ t u hs n ep, (dflK 29 30 t u hs n ep).In c.B

theorem Md.deeper {c : Cx} (m : Md c) (env : Env) : Md (c.deeper env) :=
  ⟨m.g.deeper env, m.nAdd, m.nCnt, m.nIns, m.nBis, m.nLots, m.nApart, m.fAdd, m.fCnt, m.fIns, m.fBis, m.fLots, m.fApart, m.dBis, m.dIns⟩

theorem nodup5 {a b c d e : String} (h : [a, b, c, d, e].Nodup) {x1 x2 x3 x4 x5 : D} : ([(a, x1), (b, x2), (c, x3), (d, x4), (e, x5)].map (·.1)).Nodup := h

theorem lots_op {n : Nat} {d0 d1 bright : List Int} (m : Md c) (hA : AOk 1 c.A) (hn : n ≤ 2 ^ 9) (h0 : Deed n d0) (h1 : Deed n d1) (hb : bright.length = n) :
    Op c (fun vs => call (.ref 51) vs) [intsD bright, .lst [intsD d0, intsD d1], .int n] (.tup [intsD (lotsRun n d0 d1 n bright 0).1, .int (lotsRun n d0 d1 n bright 0).2]) := by
  refine fn_op (l := [("bright", intsD bright), ("deeds", .lst [intsD d0, intsD d1]), ("many", .int n)]) m.fLots (by have := hA.depth; omega) (by simp) ?_ ?_ fun L => lots_runs (m.g.deeper _) (hA.deeper _) hn h0 h1 hb
  · intro k x hx
    simp only [List.mem_cons, List.not_mem_nil, or_false] at hx
    rcases hx with rfl | rfl | rfl
    · exact .inl (by with_unfolding_all rfl)
    · exact .inr ⟨by with_unfolding_all rfl, by with_unfolding_all rfl⟩
    · exact .inl (by with_unfolding_all rfl)
  · intro N s vs hB D
    simp only [DenL] at D
    obtain ⟨v1, r1, rfl, D1, v2, r2, rfl, D2, v3, r3, rfl, D3, rfl⟩ := D
    exact ⟨_, .of_eq (by with_unfolding_all rfl), .cons D1 (.cons D2 (.cons D3 .nil))⟩

theorem bis_kind : ∀ (n : Nat), ∀ x ∈ [("a", D.none), ("x", .none), ("lo", .none), ("hi", .none), ("key", .none)], fdBis.scope.names.lookup (Str.ofString x.1) = some .local := by
  intro k x hx
  simp only [List.mem_cons, List.not_mem_nil, or_false] at hx
  rcases hx with rfl | rfl | rfl | rfl | rfl <;> with_unfolding_all rfl

theorem bis_op2 {l : List Int} {x : Int} {r : Nat} (m : Md c) (hA : AOk 1 c.A) (hr : r ≤ l.length) (hl : l.length ≤ 2 ^ 9) (hlt : ∀ (j : Nat) (h : j < l.length), l[j] < x ↔ j < r) :
    Op c (fun vs => call (.ref 46) vs) [intsD l, .int x] (.int r) := by
  obtain ⟨t, u, hs, n, ep, hK⟩ := m.dBis
  refine fn_op (l := [("a", intsD l), ("x", .int x), ("lo", .int 0), ("hi", .none), ("key", .none)]) m.fBis (by have := hA.depth; omega) (by simp) ?_ ?_ fun L => bis_runs (m.g.deeper _) hr hl hlt
  · intro k x hx
    simp only [List.mem_cons, List.not_mem_nil, or_false] at hx
    rcases hx with rfl | rfl | rfl | rfl | rfl <;> exact .inl (by with_unfolding_all rfl)
  · intro N s vs hB D
    simp only [DenL] at D
    obtain ⟨v1, r1, rfl, D1, v2, r2, rfl, D2, rfl⟩ := D
    exact ⟨_, binds_bis2 (hK.keeps hB) _ _, .cons D1 (.cons D2 (.cons (by simp only [Den]; exact ⟨_, rfl⟩) (.cons (by simp only [Den]) (.cons (by simp only [Den]) .nil))))⟩
theorem bis_op4 {l : List Int} {x : Int} {r : Nat} (m : Md c) (hA : AOk 1 c.A) (hr : r ≤ l.length) (hl : l.length ≤ 2 ^ 9) (hlt : ∀ (j : Nat) (h : j < l.length), l[j] < x ↔ j < r) :
    Op c (fun vs => call (.ref 46) vs) [intsD l, .int x, .int 0, .none] (.int r) := by
  obtain ⟨t, u, hs, n, ep, hK⟩ := m.dBis
  refine fn_op (l := [("a", intsD l), ("x", .int x), ("lo", .int 0), ("hi", .none), ("key", .none)]) m.fBis (by have := hA.depth; omega) (by simp) ?_ ?_ fun L => bis_runs (m.g.deeper _) hr hl hlt
  · intro k x hx
    simp only [List.mem_cons, List.not_mem_nil, or_false] at hx
    rcases hx with rfl | rfl | rfl | rfl | rfl <;> exact .inl (by with_unfolding_all rfl)
  · intro N s vs hB D
    simp only [DenL] at D
    obtain ⟨v1, r1, rfl, D1, v2, r2, rfl, D2, v3, r3, rfl, D3, v4, r4, rfl, D4, rfl⟩ := D
    exact ⟨_, binds_bis4 (hK.keeps hB) _ _ _ _, .cons D1 (.cons D2 (.cons D3 (.cons D4 (.cons (by simp only [Den]) .nil))))⟩

/-- an object of the caller's lent to the callee -/
theorem Fm.lend {M : Addr → Prop} {s : Shared} {a : Addr} {od : OD} (F : c.Fm env M ρ s) (hM : ¬ M a) (hw : ¬ Wr env ρ a) (hB : c.B.get? a = none) (hr : ρ.owns = []) (hO : Owned c.H (fun q o => kn M env ρ s.heap q o ∧ q ≠ a) s.heap a od)
    (hv : ∀ x d v, ρ.vars.lookup x = some d → Den (kn M env ρ s.heap) d v → Den (fun q o => kn M env ρ s.heap q o ∧ q ≠ a) d v) : c.Fm env M ⟨ρ.vars, [(a, od)]⟩ s := by
  have hW : ∀ b, Wr env ⟨ρ.vars, [(a, od)]⟩ b → Wr env ρ b ∨ b = a := by
    rintro b (q | q | q)
    · exact .inl (.inl q)
    · exact .inl (.inr (.inl q))
    · exact .inr (by simpa using q)
  have hg : ∀ q o, kn M env ρ s.heap q o ∧ q ≠ a → kn M env ⟨ρ.vars, [(a, od)]⟩ s.heap q o := fun q o x => ⟨x.1.1, fun w => by
    rcases w with w | w
    · exact x.1.2 (.inl w)
    · rcases hW q w with w | w
      · exact x.1.2 (.inr w)
      · exact x.2 w⟩
  exact {
    ok := F.ok
    base := F.base
    newW := fun b q => (hW b q).elim (F.newW b) fun e => by rw [e]; exact hB
    live := F.live
    ns := F.ns
    cells := F.cells
    vars := fun x d e => let ⟨v, h1, h2⟩ := F.vars x d e; ⟨v, h1, (hv x d v e h2).mono hg⟩
    owns := fun b od1 q => by
      rw [List.mem_singleton] at q; cases q
      exact hO.mono hg fun _ e => e
    ownsN := by simp
    ownsL := fun b q => by
      have : b = a := by simpa using q
      subst this
      exact ⟨fun e => hw (.inl e), fun x e => hw (.inr (.inl ⟨x, e⟩))⟩
    ownsM := fun b q => by
      have : b = a := by simpa using q
      subst this
      exact hM }

theorem insert_at {prog : Program} {w : World} {A : Around} {s : Shared} {a : Addr} {vs : Array Value} {n : Nat} {x : Int} {r : Nat} {t : Tok} {v : Value} {Q : Value → Shared → Prop} {E : Value → Shared → Prop} (ho : s.heap.get? a = some { cls := .type "list", data := .seq vs n })
    (hx : x = (r : Int)) (hr : r ≤ vs.size) (hsz : vs.size ≤ sizeLine) (hfit : Builtin.List.listFitsIndex x = true)
    (h : ∀ h' n', Heap.SameBut a s.heap h' → h'.get? a = some { cls := .type "list", data := .seq ((vs.extract 0 r).push v ++ vs.extract r) n' } → Q .none { s with heap := h' }) :
    wpAny (model prog w) A (call (.builtin "list.insert") [.ref a, .int x t, v]) Q E s := by
  have h0 : ¬ (!Builtin.List.listFitsIndex x) = true := by rw [hfit]; exact Bool.false_ne_true
  refine call_meets PySem.F.slot_list_insert ⟨_, ho, rfl⟩ PySem.F.entry_list_insert (PySem.F.args_list_insert_3 _ _ _) (PySem.AutoSeq1.list_insert_list_int_val_1 a vs n x t v h0 hsz) ⟨ho, ?_⟩
  have hk : (if x < 0 then (x + (vs.size : Int)).toNat else min x.toNat vs.size) = r := by
    rw [hx, if_neg (by omega), Int.toNat_natCast]; omega
  have hall : ∀ f : Array Value → Array Value, ∃ n', Obj.mapSeq f { cls := .type "list", data := .seq vs n } = { cls := .type "list", data := .seq (f vs) n' } := fun f => ⟨_, rfl⟩
  generalize hf : (fun xs : Array Value => have k := if x < 0 then (x + (xs.size : Int)).toNat else min x.toNat xs.size; (xs.extract 0 k).push v ++ xs.extract k) = f
  have hfv : f vs = (vs.extract 0 r).push v ++ vs.extract r := by rw [← hf]; simp only [hk]
  obtain ⟨n', hmap⟩ := hall f
  refine h _ n' (Heap.SameBut.update ..) ?_
  rw [Heap.get?_update_self _ ho (by rw [hmap]; rfl), hmap, hfv]

/-- a.insert(k, e) -/
theorem exec_insert {vars : List (String × D)} {l1 l2 : List (Addr × OD)} {a : Addr} {x : String} {xp ap cp pos : Pos} {e1 e2 : Expr} {ds : List D} {d : D} {r : Nat} {Φ : Post} (hx : vars.lookup x = some (.own a)) (h1 : Evals c env ⟨vars, l1 ++ (a, .lst ds) :: l2⟩ e1 (.int r))
    (h2 : Evals c env ⟨vars, l1 ++ (a, .lst ds) :: l2⟩ e2 d) (hr : r ≤ ds.length) (hz : ds.length ≤ 2 ^ 20) (hΦ : Φ .next ⟨vars, l1 ++ (a, .lst (ds.take r ++ d :: ds.drop r)) :: l2⟩)
    (hbase : attributeBase (.Name (Str.ofString x) xp) ("insert" : Str) env (eval (.Name (Str.ofString x) xp) env) = eval (.Name (Str.ofString x) xp) env := by with_unfolding_all rfl) (hline : (ap.endLine == cp.line) = true := by with_unfolding_all rfl)
    (htrees : backTo cp (starEach [e1, e2] env) = [(false, eval e1 env), (false, eval e2 env)] := by with_unfolding_all rfl) (hi : interactive env = false := by with_unfolding_all rfl)
    (hsw : swapsWith (.Call (.Attribute (.Name (Str.ofString x) xp) ("insert" : Str) ap) [e1, e2] [] cp) none pos.line env = pure false := by with_unfolding_all rfl)
    (hd : (Str.ofString x == ("__debug__" : Str)) = false := by decide) (hn : (Str.ofString x == ("__classdict__" : Str)) = false := by decide) :
    Exec c env ⟨vars, l1 ++ (a, .lst ds) :: l2⟩ (.Expr (.Call (.Attribute (.Name (Str.ofString x) xp) ("insert" : Str) ap) [e1, e2] [] cp) pos) Φ := by
  intro M s Q E F hQ
  refine wpAny_Expr (wpAny_Call_method_late hbase (args := [e1, e2]) (by rw [htrees]; rfl) hline rfl (ev_own hx hd hn M s _ E F fun ov s1 k1 D1 => ?_)) hi hsw
  simp only [Den] at D1
  subst D1
  have F1 := F.keeps k1
  obtain ⟨vs1, n1, ho1, hl1⟩ := F1.owns a _ (List.mem_append_right _ List.mem_cons_self)
  refine ⟨"list", "list.insert", PySem.F.plainAttrs_list, PySem.F.slot_list_insert, PySem.F.type_list_insert, ⟨_, ho1, rfl⟩, fun a' e => by cases e; exact ⟨_, ho1, rfl⟩, ?_⟩
  rw [htrees]
  refine Calls.callWith_builtin rfl (Calls.evalArgs_plain (Calls.spliced_cons (h1 M s1 _ E F1 fun v2 s2 k2 D2 => Calls.spliced_cons (h2 M s2 _ E (F1.keeps k2) fun v3 s3 k3 D3 => Calls.spliced_nil ?_))))
  simp only [Den] at D2
  obtain ⟨t, rfl⟩ := D2
  have kk := k1.trans (k2.trans k3)
  have F3 := F.keeps kk
  obtain ⟨vs, n, ho, hl⟩ := F3.owns a _ (List.mem_append_right _ List.mem_cons_self)
  have e1 := denL_length hl
  rw [Array.length_toList] at e1
  have hfit : Builtin.List.listFitsIndex (r : Int) = true := by simp [Builtin.List.listFitsIndex]; omega
  refine insert_at ho rfl (by rw [e1]; exact hr) (by rw [e1]; exact Nat.le_trans hz (by decide)) hfit fun h' n' hs' ho' => ?_
  obtain ⟨F', st⟩ := F3.mut (tk := s3.toks) (od' := .lst (ds.take r ++ d :: ds.drop r)) hs' ⟨_, _, ho', by
    have : ((vs.extract 0 r).push v3 ++ vs.extract r).toList = vs.toList.take r ++ v3 :: vs.toList.drop r := by
      simp
      exact List.take_of_length_le (by rw [List.length_drop, Array.length_toList]; omega)
    rw [this]
    exact denL_append (denL_take hl r) ⟨v3, _, rfl, D3, denL_drop hl r⟩⟩
  have st0 := Step.ke (env := env) (ρ := ⟨vars, l1 ++ (a, .lst ds) :: l2⟩) kk
  obtain ⟨h0, t0, e5, hk0⟩ := kk.at
  subst e5
  exact hQ .next .next _ _ t0 hΦ F' (st0.trans st) rfl
end

section 
open PySem PySem.W PyProof.Rows
set_option linter.unusedVariables false
set_option maxRecDepth 100000

variable {c : Cx} {env : Env} {ρ : St}

theorem ins_runs {L a : Addr} {l : List Int} {v : Int} {r : Nat} (m : Md c) (hA : AOk 1 c.A) (hr : r ≤ l.length) (hl : l.length ≤ 2 ^ 9) (hlt : ∀ (j : Nat) (h : j < l.length), l[j] < v ↔ j < r) :
    Runs c (envIns L) ⟨[("a", .own a), ("x", .int v), ("lo", .int 0), ("hi", .none), ("key", .none)], [] ++ (a, .lst (l.map .int)) :: []⟩ (bodyOf (stm 4))
      (fun fl ρ' => fl = .next ∧ ρ'.owns = [] ++ (a, .lst ((l.take r ++ v :: l.drop r).map .int)) :: []) := by
  obtain ⟨o, ho, hd⟩ := m.fBis.obj
  refine runs_then (R := fun ρ' => ρ' = ⟨[("a", .own a), ("x", .int v), ("lo", .int r), ("hi", .none), ("key", .none)], [] ++ (a, .lst (l.map .int)) :: []⟩)
    (exec_if (t_cmp (ev_name rfl) ev_none o_is (by with_unfolding_all rfl)) (fun _ => ?_) fun h => (by cases h)) fun ρ1 S1 => ?_
  · refine runs_then (R := fun ρ' => ρ' = ⟨[("a", .own a), ("x", .int v), ("lo", .int r), ("hi", .none), ("key", .none)], [] ++ (a, .lst (l.map .int)) :: []⟩)
      (assign_name (Evals.thaw (x := "a") (a := a) (od := .lst (l.map .int)) rfl rfl (ev_call m.nBis ho hd (evl_cons (ev_name rfl) (evl_cons (ev_name rfl) (evl_cons (ev_name rfl) (evl_cons (ev_name rfl) evl_nil)))) (bis_op4 m hA hr hl hlt) (by with_unfolding_all rfl)))
        (.inl (by with_unfolding_all rfl)) ⟨rfl, rfl⟩) fun ρ1 S1 => runs_nil ⟨rfl, S1⟩
  subst S1
  refine runs_then (R := fun ρ' => ρ'.owns = [] ++ (a, .lst ((l.take r ++ v :: l.drop r).map .int)) :: [])
    (exec_insert (a := a) (ds := l.map .int) (d := .int v) (r := r) rfl (ev_name rfl) (ev_name rfl) (by rw [List.length_map]; exact hr) (by rw [List.length_map]; omega) ⟨rfl, by simp⟩) fun ρ1 S1 => runs_nil ⟨rfl, S1⟩

theorem exec_insort {vars : List (String × D)} {l1 l2 : List (Addr × OD)} {a : Addr} {x : String} {np xp cp pos : Pos} {e2 : Expr} {l : List Int} {v : Int} {r : Nat} {Φ : Post} (m : Md c) (hA : AOk 2 c.A) (hx : vars.lookup x = some (.own a))
    (h2 : Evals c env ⟨vars, l1 ++ (a, .lst (l.map .int)) :: l2⟩ e2 (.int v)) (hr : r ≤ l.length) (hl : l.length ≤ 2 ^ 9) (hlt : ∀ (j : Nat) (h : j < l.length), l[j] < v ↔ j < r)
    (hΦ : Φ .next ⟨vars, l1 ++ (a, .lst ((l.take r ++ v :: l.drop r).map .int)) :: l2⟩) (hxk : env.kindOf ("insort_left" : Str) = some .globalImplicit)
    (he : starEach [.Name (Str.ofString x) xp, e2] env = (false, eval (.Name (Str.ofString x) xp) env) :: starEach [e2] env := by with_unfolding_all rfl)
    (he2 : starEach [e2] env = (false, eval e2 env) :: starEach [] env := by with_unfolding_all rfl) (hi : interactive env = false := by with_unfolding_all rfl)
    (hsw : swapsWith (.Call (.Name ("insort_left" : Str) np) [.Name (Str.ofString x) xp, e2] [] cp) none pos.line env = pure false := by with_unfolding_all rfl)
    (hd : (Str.ofString x == ("__debug__" : Str)) = false := by decide) (hn : (Str.ofString x == ("__classdict__" : Str)) = false := by decide) :
    Exec c env ⟨vars, l1 ++ (a, .lst (l.map .int)) :: l2⟩ (.Expr (.Call (.Name ("insort_left" : Str) np) [.Name (Str.ofString x) xp, e2] [] cp) pos) Φ := by
  intro M s Q E F hQ
  obtain ⟨of, hof, hfd⟩ := m.fIns.obj
  refine wpAny_Expr (Call_ (ev_global m.nIns F hxk (by decide) ?_)) hi hsw
  refine callWith_def hfd (evl_cons (ev_own hx hd hn) (evl_cons h2 evl_nil he2) he M cp s _ E F fun vs s1 k1 D1 => ⟨(F.keeps k1).base _ _ hof, ?_⟩) he
  simp only [DenL, Den] at D1
  obtain ⟨v1, r1, rfl, rfl, v2, r2, rfl, ⟨t2, rfl⟩, rfl⟩ := D1
  have F1 := F.keeps k1
  have hna := F1.notW
  have hwa : Wr env ⟨vars, l1 ++ (a, .lst (l.map .int)) :: l2⟩ a := wr_mid.mpr (.inr rfl)
  obtain ⟨ovs, on, hao, hal⟩ := F1.owns a (.lst (l.map .int)) (List.mem_append_right _ List.mem_cons_self)
  obtain ⟨t, u, hs, n, ep, hK⟩ := m.dIns
  refine fn_enter (c := c) (N := MW M env ⟨vars, l1 ++ l2⟩) (l := [("a", .own a), ("x", .int v), ("lo", .int 0), ("hi", .none), ("key", .none)]) m.fIns (by have := hA.depth; omega) (by simp) ?_ F1.base ?_
    (binds_ins2 (hK.keeps F1.base) _ _) (.cons (by simp only [Den]) (.cons (by simp only [Den]; exact ⟨_, rfl⟩) (.cons (by simp only [Den]; exact ⟨_, rfl⟩) (.cons (by simp only [Den]) (.cons (by simp only [Den]) .nil))))) ?_
  · intro k x hx
    simp only [List.mem_cons, List.not_mem_nil, or_false] at hx
    rcases hx with rfl | rfl | rfl | rfl | rfl <;> exact .inl (by with_unfolding_all rfl)
  · exact fun q w => F1.liveW q (w.imp id fun w => wr_mid.mpr (.inl w))
  intro s2 E' F2 k2 hw
  have hWa : ¬ Wr (callEnvC fdIns s1.heap.objs.size 37) ⟨[("a", .own a), ("x", .int v), ("lo", .int 0), ("hi", .none), ("key", .none)], []⟩ a := fun w => by rw [hw a w] at hao; cases hao
  have F3 := Fm.lend (od := .lst (l.map .int)) F2 hna hWa (F1.newW a hwa) rfl ⟨ovs, on, k2.get _ _ hao, ints_denL (denL_ints hal)⟩ (by
    intro y d w hy hd'
    have := memOfLookup hy
    simp only [List.mem_cons, List.not_mem_nil, or_false, Prod.mk.injEq] at this
    rcases this with ⟨_, rfl⟩ | ⟨_, rfl⟩ | ⟨_, rfl⟩ | ⟨_, rfl⟩ | ⟨_, rfl⟩
    · simpa only [Den] using hd'
    all_goals exact Den.scalar rfl hd')
  refine ins_runs (c := c.deeper (callEnvC fdIns s1.heap.objs.size 37)) (m.deeper _) (hA.deeper _) hr hl hlt _ s2 _ E' F3 fun fl f ρ' h' tk p F' st fd => ?_
  obtain ⟨rfl, hown⟩ := p
  cases fd
  have F'' : c.Fm (callEnvC fdIns s1.heap.objs.size 37) (MW M env ⟨vars, l1 ++ l2⟩) ρ' (At s2 h' tk) := F'
  obtain ⟨nvs, nn, hno, hnl⟩ := F''.owns a (.lst ((l.take r ++ v :: l.drop r).map .int)) (by rw [hown]; simp)
  obtain ⟨F4, st4⟩ := F1.mut' (h' := h') (tk := tk) (od' := .lst ((l.take r ++ v :: l.drop r).map .int)) (fun b o hb e => st.1 b o (fun w => by
      rcases w with w | w | w
      · rw [hw b (.inl w)] at e; cases e
      · rw [hw b (.inr (.inl w))] at e; cases e
      · exact hb (by simpa using w)) (k2.get _ _ e)) ⟨nvs, nn, hno, ints_denL (denL_ints hnl)⟩
  have st0 := Step.ke (env := env) (ρ := ⟨vars, l1 ++ (a, .lst (l.map .int)) :: l2⟩) k1
  obtain ⟨h1', t1, e1, _⟩ := k1.at
  subst e1
  obtain ⟨h2', t2', e2', _⟩ := k2.at
  subst e2'
  exact hQ .next .next _ h' tk hΦ F4 (st0.trans st4) rfl
end

section 
open PySem PySem.W PyProof.Rows
set_option linter.unusedVariables false
set_option maxRecDepth 100000

variable {c : Cx} {env : Env} {ρ : St}

def SubO (l : List (String × D)) (ow : List (Addr × OD)) (ρ : St) : Prop := (∀ p ∈ l, ρ.vars.lookup p.1 = some p.2) ∧ ρ.owns = ow
theorem SubO.nil {v : List (String × D)} {ow : List (Addr × OD)} : SubO [] ow ⟨v, ow⟩ := And.intro (fun _ h => by cases h) rfl
theorem SubO.cons {x : String} {d : D} {l : List (String × D)} {ow : List (Addr × OD)} (h : ρ.vars.lookup x = some d) (s : SubO l ow ρ) : SubO ((x, d) :: l) ow ρ :=
  And.intro (fun p hp => (List.mem_cons.mp hp).elim (fun e => e ▸ h) (fun hp => s.1 p hp)) s.2
theorem SubO.at {l : List (String × D)} {ow : List (Addr × OD)} {x : String} {d : D} (S : SubO l ow ρ) (h : l.lookup x = some d) : ρ.vars.lookup x = some d := S.1 _ (memOfLookup h)
theorem Tree.fromO {t : Sem Flow} {Φ : Post} {l : List (String × D)} {ow : List (Addr × OD)} (hs : SubO l ow ρ) (h : Tree c env ⟨l, ow⟩ t Φ) : Tree c env ρ t Φ :=
  h.weaken (fun x d e => hs.1 _ (memOfLookup e)) (by show ow.Sublist ρ.owns; rw [hs.2]; exact List.Sublist.refl _)
theorem SubO.less {l l' : List (String × D)} {ow : List (Addr × OD)} (S : SubO l ow ρ) (h : ∀ p ∈ l', p ∈ l) : SubO l' ow ρ := ⟨fun p hp => S.1 p (h p hp), S.2⟩
theorem SubO.set {l : List (String × D)} {ow : List (Addr × OD)} {x : String} {d : D} (hs : SubO l ow ρ) (hx : ∀ p ∈ l, p.1 ≠ x) : SubO l ow (ρ.set x d) :=
  ⟨fun p hp => by rw [St.set, lookup_upd, if_neg (hx p hp)]; exact hs.1 p hp, hs.2⟩

abbrev P2 := Int × Int
def keyOf (p : P2) : Key := [.inl p.1, .inl p.2]
def pairD (p : P2) : D := .tup (keyDs (keyOf p))
theorem keyOf_inj {p q : P2} (h : keyOf p = keyOf q) : p = q := by
  simp only [keyOf, List.cons.injEq, Sum.inl.injEq, and_true] at h
  exact Prod.ext h.1 h.2

def stepA (d : List Int) (p : P2) (t : Int) (w : List (P2 × Int)) : List (P2 × Int) :=
  if (atI d p.1, atI d p.2) ∈ w.map (·.1) then w else w ++ [((atI d p.1, atI d p.2), t + 1)]
def stepsA (ds : List (List Int)) (p : P2) (t : Int) (w : List (P2 × Int)) : List (P2 × Int) := ds.foldl (fun w d => stepA d p t w) w
def runA (bright : List Int) (ds : List (List Int)) : Nat → Nat → List (P2 × Int) → Option Int
  | 0, _, _ => none
  | k + 1, i, w => match w[i]? with
    | none => none
    | some (p, t) => if atI bright p.1 ≠ atI bright p.2 then some t else runA bright ds k (i + 1) (stepsA ds p t w)
def farOf (w : List (P2 × Int)) : List (Key × Int) := w.map fun x => (keyOf x.1, x.2)
def waitD (w : List (P2 × Int)) : List D := w.map fun x => pairD x.1
def resD : Option Int → D | none => .none | some t => .int t

structure GoodW2 (n : Nat) (w : List (P2 × Int)) : Prop where
  inn : ∀ x ∈ w, (0 ≤ x.1.1 ∧ x.1.1 < n) ∧ (0 ≤ x.1.2 ∧ x.1.2 < n)
  nd : (w.map (·.1)).Nodup

theorem nodup_sub_len {α : Type} [DecidableEq α] : ∀ {l m : List α}, l.Nodup → (∀ x ∈ l, x ∈ m) → l.length ≤ m.length
  | [], m, _, _ => Nat.zero_le _
  | a :: l, m, hn, hs => by
    rw [List.nodup_cons] at hn
    have ha := hs a List.mem_cons_self
    have := nodup_sub_len (l := l) (m := m.erase a) hn.2 fun x hx => (List.mem_erase_of_ne (fun e : x = a => hn.1 (by rw [← e]; exact hx))).mpr (hs x (List.mem_cons_of_mem _ hx))
    rw [List.length_erase_of_mem ha] at this
    have hp : 0 < m.length := List.length_pos_of_mem ha
    simp only [List.length_cons]
    omega

theorem GoodW2.len {n : Nat} {w : List (P2 × Int)} (g : GoodW2 n w) : w.length ≤ n * n := by
  have h := nodup_sub_len (m := (List.range n).flatMap fun i : Nat => (List.range n).map fun j : Nat => (((i : Int), (j : Int)) : P2)) g.nd (fun x hx => by
    obtain ⟨y, hy, rfl⟩ := List.mem_map.mp hx
    obtain ⟨⟨h1, h2⟩, h3, h4⟩ := g.inn y hy
    rw [List.mem_flatMap]
    refine ⟨y.1.1.toNat, List.mem_range.mpr (by omega), List.mem_map.mpr ⟨y.1.2.toNat, List.mem_range.mpr (by omega), ?_⟩⟩
    exact Prod.ext (by simp; omega) (by simp; omega))
  rw [List.length_map] at h
  have e : ((List.range n).flatMap fun i : Nat => (List.range n).map fun j : Nat => (((i : Int), (j : Int)) : P2)).length = n * n := by
    simp [List.length_flatMap, List.map_const']
  rw [e] at h
  exact h

theorem farOf_get {w : List (P2 × Int)} {p : P2} {t : Int} : ∀ (hn : (w.map (·.1)).Nodup), (p, t) ∈ w → getK (farOf w) (keyOf p) = some t := by
  induction w with
  | nil => intro _ h; cases h
  | cons x w ih =>
    intro hn h
    rw [List.map_cons, List.nodup_cons] at hn
    unfold getK farOf
    rw [List.map_cons, List.find?_cons]
    by_cases e : x.1 = p
    · subst e
      simp only [decide_true]
      rcases List.mem_cons.mp h with e | h
      · rw [← e]; rfl
      · exact absurd (List.mem_map_of_mem (f := (·.1)) h) hn.1
    · have : decide (keyOf x.1 = keyOf p) = false := decide_eq_false fun q => e (keyOf_inj q)
      simp only [this]
      rcases List.mem_cons.mp h with e' | h
      · exact absurd (by rw [← e']) e
      · exact ih hn.2 h
theorem farOf_isSome (w : List (P2 × Int)) (p : P2) : (getK (farOf w) (keyOf p)).isSome = decide (p ∈ w.map (·.1)) := by
  induction w with
  | nil => rfl
  | cons x w ih =>
    unfold getK farOf at ih ⊢
    rw [List.map_cons, List.find?_cons]
    by_cases e : x.1 = p
    · subst e; simp
    · have : decide (keyOf x.1 = keyOf p) = false := decide_eq_false fun q => e (keyOf_inj q)
      simp only [this]
      rw [ih]
      have e2 : ¬ p = x.1 := fun q => e q.symm
      simp [e2]
theorem farOf_set {w : List (P2 × Int)} {p : P2} {t : Int} (h : p ∉ w.map (·.1)) : setK (farOf w) (keyOf p) t = farOf (w ++ [(p, t)]) := by
  unfold setK
  rw [farOf_isSome, decide_eq_false h]
  simp [farOf]

theorem GoodW2.step {n : Nat} {w : List (P2 × Int)} {d : List Int} {p : P2} {t : Int} (g : GoodW2 n w) (hd : Deed n d) (hp : (0 ≤ p.1 ∧ p.1 < n) ∧ (0 ≤ p.2 ∧ p.2 < n)) : GoodW2 n (stepA d p t w) := by
  unfold stepA
  split
  · exact g
  · rename_i h
    refine ⟨fun x hx => ?_, ?_⟩
    · rcases List.mem_append.mp hx with hx | hx
      · exact g.inn x hx
      · rw [List.mem_singleton] at hx; subst hx
        have b0 := hd.2 _ (atI_mem (l := d) (p := p.1) hp.1.1 (by rw [hd.1]; exact hp.1.2))
        have b1 := hd.2 _ (atI_mem (l := d) (p := p.2) hp.2.1 (by rw [hd.1]; exact hp.2.2))
        exact ⟨b0, b1⟩
    · rw [List.map_append, List.nodup_append]
      refine ⟨g.nd, by simp, fun x hx y hy => ?_⟩
      simp only [List.map_cons, List.map_nil, List.mem_singleton] at hy
      subst hy
      exact fun e => h (e ▸ hx)
theorem mem_stepA {w : List (P2 × Int)} {d : List Int} {p : P2} {t : Int} {x : P2 × Int} (h : x ∈ w) : x ∈ stepA d p t w := by
  unfold stepA
  split
  · exact h
  · exact List.mem_append_left _ h
theorem steps_good {n : Nat} {p : P2} {t : Int} (hp : (0 ≤ p.1 ∧ p.1 < n) ∧ (0 ≤ p.2 ∧ p.2 < n)) : ∀ (ds : List (List Int)) (w : List (P2 × Int)), (∀ d ∈ ds, Deed n d) → GoodW2 n w → (p, t) ∈ w → GoodW2 n (stepsA ds p t w) ∧ (p, t) ∈ stepsA ds p t w
  | [], w, _, g, h => ⟨g, h⟩
  | d :: ds, w, hd, g, h => steps_good hp ds _ (fun d' h' => hd d' (List.mem_cons_of_mem _ h')) (g.step (hd d List.mem_cons_self) hp) (mem_stepA h)

section
variable {L : Addr} {n : Nat} {d0 d1 : List Int}

def apBase (bright d0 d1 : List Int) (a1 a2 : Addr) : List (String × D) := [("bright", intsD bright), ("deeds", .lst [intsD d0, intsD d1]), ("waiting", .own a1), ("far", .own a2)]
def apOwn (a1 a2 : Addr) (w : List (P2 × Int)) : List (Addr × OD) := [(a2, .dct (farOf w)), (a1, .lst (waitD w))]

theorem ev_far {w : List (P2 × Int)} {p : P2} {t : Int} {vars : List (String × D)} {a1 a2 : Addr} {p1 p2 p3 p4 pos : Pos} {k : Nat} (hu : c.A.units + 100 < cLine) (hn : (w.map (·.1)).Nodup) (hm : (p, t) ∈ w) (hf : vars.lookup "far" = some (.own a2)) (ha : vars.lookup "a" = some (.int p.1)) (hb : vars.lookup "b" = some (.int p.2)) :
    Evals c env ⟨vars, apOwn a1 a2 w⟩ (.Subscript (.Name ("far" : Str) p1) (.Tuple [.Name ("a" : Str) p2, .Name ("b" : Str) p3] k p4) pos) (.int t) := by
  refine Evals.thaw (l1 := []) (l2 := [(a1, .lst (waitD w))]) (a := a2) (od := .dct (farOf w)) (x := "far") hf rfl ?_
  refine ev_ditem (k := keyOf p) hu (ev_name (by rw [lookup_upd, if_pos rfl]; rfl)) (ev_tup (evl_cons (ev_name (by rw [lookup_upd, if_neg (by decide)]; exact ha)) (evl_cons (ev_name (by rw [lookup_upd, if_neg (by decide)]; exact hb)) evl_nil)) (by simp [keyDs, keyOf, sizeLine])) (farOf_get hn hm)

theorem apart_runs {bright : List Int} {one other : Int} (g : Gl c) (hA : AOk 0 c.A) (hn : n ≤ 2 ^ 9) (h0 : Deed n d0) (h1 : Deed n d1) (hb : bright.length = n) (ho : 0 ≤ one ∧ one < n) (ht : 0 ≤ other ∧ other < n) :
    Runs c (envApart L) ⟨[("bright", intsD bright), ("deeds", .lst [intsD d0, intsD d1]), ("one", .int one), ("other", .int other)], []⟩ (bodyOf (stm 8))
      (Ends (resD (runA bright [d0, d1] (n * n + 1) 0 [((one, other), 0)]))) := by
  have hh := hA.handled
  have hu : c.A.units + 100 < cLine := by have := hA.units; omega
  have hnn : n * n ≤ 2 ^ 18 := by
    have := Nat.mul_le_mul hn hn
    exact Nat.le_trans this (by decide)
  have hdeeds : ∀ d ∈ [d0, d1], Deed n d := by
    intro d hd
    simp only [List.mem_cons, List.not_mem_nil, or_false] at hd
    rcases hd with rfl | rfl
    · exact h0
    · exact h1
  generalize hr : runA bright [d0, d1] (n * n + 1) 0 [((one, other), 0)] = r
  refine runs_then (R := fun ρ' => ∃ a1 a2, SubO (apBase bright d0 d1 a1 a2) (apOwn a1 a2 [((one, other), 0)]) ρ')
    (assign_pair_swap hh (evn_list (ds := [pairD (one, other)]) (evl_cons (ev_tup (evl_cons (ev_name rfl) (evl_cons (ev_name rfl) evl_nil)) (by simp [keyDs, keyOf, sizeLine])) evl_nil))
      (fun a1 => evn_dict1 (k := keyOf (one, other)) (i := 0) g.stat hu (ev_tup (evl_cons (ev_name rfl) (evl_cons (ev_name rfl) evl_nil)) (by simp [keyDs, keyOf, sizeLine])) ev_int)
      (.inl (by with_unfolding_all rfl)) (.inl (by with_unfolding_all rfl)) (fun a1 a2 => ⟨rfl, a1, a2, .cons rfl (.cons rfl (.cons rfl (.cons rfl .nil)))⟩)) ?_
  rintro ρ1 ⟨a1, a2, S1⟩
  refine Tree.fromO S1 ?_
  have hw0 : GoodW2 n [((one, other), (0 : Int))] := ⟨fun x hx => by rw [List.mem_singleton] at hx; subst hx; exact ⟨ho, ht⟩, by simp⟩
  refine runs_cons (Ψ := fun fl ρ' => match fl with | .next => r = none | .ret d => d = resD r | _ => False)
    (exec_for_own (a := a1) (Inv := fun i ρ' => ∃ w, GoodW2 n w ∧ i ≤ w.length ∧ runA bright [d0, d1] (n * n + 1 - i) i w = r ∧ SubO (apBase bright d0 d1 a1 a2) (apOwn a1 a2 w) ρ') (n * n) hh rfl
      ⟨_, hw0, Nat.zero_le _, hr, .cons rfl (.cons rfl (.cons rfl (.cons rfl .nil)))⟩ ?_) ?_ ?_
  · rintro i ρ' ⟨w, gw, hi, hrun, S⟩
    have hlen := gw.len
    refine ⟨waitD w, by rw [S.2]; simp [apOwn], fun hnone => ?_, fun d hd => ?_⟩
    · have hi' : w.length ≤ i := by
        have := List.getElem?_eq_none_iff.mp hnone
        simpa [waitD] using this
      have e : n * n + 1 - i = (n * n - i) + 1 := by omega
      rw [e, runA, List.getElem?_eq_none hi'] at hrun
      exact hrun.symm
    · rw [waitD, List.getElem?_map] at hd
      obtain ⟨⟨p, t⟩, hpt, rfl⟩ := Option.map_eq_some_iff.mp hd
      have hil : i < w.length := (List.getElem?_eq_some_iff.mp hpt).1
      have hmem : (p, t) ∈ w := List.mem_of_getElem? hpt
      obtain ⟨hp1, hp2⟩ := gw.inn _ hmem
      have hp1l : p.1 < (n : Int) := hp1.2
      have hp2l : p.2 < (n : Int) := hp2.2
      refine ⟨by omega, _, st_tup2 hh (st_name (.inl (by with_unfolding_all rfl))) (st_name (.inl (by with_unfolding_all rfl))), ?_⟩
      have S' : SubO (("a", .int p.1) :: ("b", .int p.2) :: apBase bright d0 d1 a1 a2) (apOwn a1 a2 w) ((ρ'.set "a" (.int p.1)).set "b" (.int p.2)) := by
        refine .cons ?_ (.cons ?_ ((S.set (by simp [apBase])).set (by simp [apBase])))
        · rw [St.set, lookup_upd, if_neg (by decide), St.set, lookup_upd, if_pos rfl]
        · rw [St.set, lookup_upd, if_pos rfl]
      refine Tree.fromO S' ?_
      have e : n * n + 1 - i = (n * n - i) + 1 := by omega
      rw [e, runA, hpt] at hrun
      simp only at hrun
      -- if bright[a] != bright[b]
      refine runs_cons (Ψ := fun fl ρ'' => match fl with
          | .next => atI bright p.1 = atI bright p.2 ∧ SubO (("a", .int p.1) :: ("b", .int p.2) :: apBase bright d0 d1 a1 a2) (apOwn a1 a2 w) ρ''
          | .ret d => d = resD r
          | _ => False)
        (exec_if (bt := decide (atI bright p.1 ≠ atI bright p.2))
          (Tests.to (t_cmp (ev_item (ev_name rfl) (ev_name rfl) hp1.1 (by omega) (item_int hp1.1 (by rw [hb]; exact hp1.2)) (by intro _ _; with_unfolding_all rfl))
            (ev_item (ev_name rfl) (ev_name rfl) hp2.1 (by omega) (item_int hp2.1 (by rw [hb]; exact hp2.2)) (by intro _ _; with_unfolding_all rfl)) o_ne (by with_unfolding_all rfl)) (by
              by_cases h : atI bright p.1 = atI bright p.2 <;> simp [h]))
          (fun h => runs_cons (Ψ := fun fl _ => fl = .ret (.int t)) (exec_ret (ev_far hu gw.nd hmem rfl rfl rfl) rfl) (fun _ q => by cases q) (fun fl _ _ q => by
            subst q
            rw [if_pos (of_decide_eq_true h)] at hrun
            rw [← hrun]; rfl))
          (fun h => runs_nil ⟨Classical.byContradiction fun q => (of_decide_eq_false h) q, .cons rfl (.cons rfl (.cons rfl (.cons rfl (.cons rfl (.cons rfl .nil)))))⟩)) ?_ ?_
      · rintro ρ2 ⟨heq, S2⟩
        rw [if_neg (fun q => q heq)] at hrun
        refine Tree.fromO S2 ?_
        -- for deed in deeds
        refine runs_then (R := SubO (("a", .int p.1) :: ("b", .int p.2) :: apBase bright d0 d1 a1 a2) (apOwn a1 a2 (stepsA [d0, d1] p t w)))
          (exec_for (ds := [d0, d1].map intsD) (Inv := fun j ρ'' => SubO (("a", .int p.1) :: ("b", .int p.2) :: apBase bright d0 d1 a1 a2) (apOwn a1 a2 (stepsA ([d0, d1].take j) p t w)) ρ'')
            (it_list hh (ev_name rfl) (by simp [sizeLine])) (.inl (by with_unfolding_all rfl)) (.cons rfl (.cons rfl (.cons rfl (.cons rfl (.cons rfl (.cons rfl .nil)))))) ?_ ?_) fun ρ3 S3 => runs_nil ?_
        · intro j dd ρ4 hj S4
          rw [List.getElem?_map] at hj
          obtain ⟨d, hjd, rfl⟩ := Option.map_eq_some_iff.mp hj
          have hdd : Deed n d := hdeeds d (List.mem_of_getElem? hjd)
          obtain ⟨gj, hmj⟩ := steps_good (t := t) ⟨hp1, hp2⟩ ([d0, d1].take j) w (fun d' h' => hdeeds d' (List.take_subset _ _ h')) gw hmem
          have hstep : stepsA ([d0, d1].take (j + 1)) p t w = stepA d p t (stepsA ([d0, d1].take j) p t w) := by
            rw [List.take_add_one, hjd, stepsA, List.foldl_append]
            rfl
          rw [hstep]
          generalize stepsA ([d0, d1].take j) p t w = wj at *
          have hlj := gj.len
          have S4' : SubO (("deed", intsD d) :: ("a", .int p.1) :: ("b", .int p.2) :: apBase bright d0 d1 a1 a2) (apOwn a1 a2 wj) (ρ4.set "deed" (intsD d)) :=
            .cons (by rw [St.set, lookup_upd, if_pos rfl]) (S4.set (by simp [apBase]))
          refine Tree.fromO S4' ?_
          refine runs_then (R := SubO (("pair", pairD (atI d p.1, atI d p.2)) :: ("a", .int p.1) :: ("b", .int p.2) :: apBase bright d0 d1 a1 a2) (apOwn a1 a2 wj))
            (assign_name (ev_tup (evl_cons (ev_item (ev_name rfl) (ev_name rfl) hp1.1 (by omega) (item_int hp1.1 (by rw [hdd.1]; exact hp1.2)) (by intro _ _; with_unfolding_all rfl))
              (evl_cons (ev_item (ev_name rfl) (ev_name rfl) hp2.1 (by omega) (item_int hp2.1 (by rw [hdd.1]; exact hp2.2)) (by intro _ _; with_unfolding_all rfl)) evl_nil))) (.inl (by with_unfolding_all rfl))
              ⟨rfl, .cons rfl (.cons rfl (.cons rfl (.cons rfl (.cons rfl (.cons rfl (.cons rfl .nil))))))⟩) fun ρ5 S5 => ?_
          refine Tree.fromO S5 ?_
          generalize hq : (atI d p.1, atI d p.2) = q at *
          refine runs_then (R := SubO (("a", .int p.1) :: ("b", .int p.2) :: apBase bright d0 d1 a1 a2) (apOwn a1 a2 (stepA d p t wj)))
            (exec_if (bt := !(getK (farOf wj) (keyOf q)).isSome) (Tests.thaw (l1 := []) (l2 := [(a1, .lst (waitD wj))]) (a := a2) (od := .dct (farOf wj)) (x := "far") rfl
              (t_cmp (ev_name rfl) (ev_name rfl) (o_notindct hu) (by with_unfolding_all rfl))) (fun h => ?_) fun h => ?_) fun ρ6 S6 => runs_nil S6
          · rw [farOf_isSome, Bool.not_eq_true', decide_eq_false_iff_not] at h
            have hsA : stepA d p t wj = wj ++ [(q, t + 1)] := by rw [stepA, hq, if_neg h]
            rw [hsA]
            refine runs_then (R := fun ρ' => ρ' = ⟨("pair", pairD q) :: ("a", .int p.1) :: ("b", .int p.2) :: apBase bright d0 d1 a1 a2, [] ++ (a2, .dct (setK (farOf wj) (keyOf q) (t + 1))) :: [(a1, .lst (waitD wj))]⟩)
              (exec_dset (l1 := []) (l2 := [(a1, .lst (waitD wj))]) (a := a2) (kvs := farOf wj) (k := keyOf q) (i := t + 1) hu (ev_bin (ev_far hu gj.nd hmj rfl rfl rfl) ev_int o_add) rfl (ev_name rfl) (by simp [farOf]; omega) ⟨rfl, rfl⟩) fun ρ6 S6 => ?_
            subst S6
            refine runs_then (R := SubO (("a", .int p.1) :: ("b", .int p.2) :: apBase bright d0 d1 a1 a2) (apOwn a1 a2 (wj ++ [(q, t + 1)])))
              (exec_append (l1 := [(a2, .dct (setK (farOf wj) (keyOf q) (t + 1)))]) (l2 := []) (a := a1) (ds := waitD wj) (d := pairD q) rfl (ev_name rfl) (by simp [waitD]; omega) ⟨rfl, ?_⟩) fun ρ6 S6 => runs_nil ⟨rfl, S6⟩
            rw [farOf_set h]
            have : waitD wj ++ [pairD q] = waitD (wj ++ [(q, t + 1)]) := by simp [waitD]
            rw [this]
            exact .cons rfl (.cons rfl (.cons rfl (.cons rfl (.cons rfl (.cons rfl .nil)))))
          · rw [farOf_isSome] at h
            have hmq : q ∈ wj.map (·.1) := by
              by_cases hm : q ∈ wj.map (·.1)
              · exact hm
              · rw [decide_eq_false hm] at h; cases h
            have hsA : stepA d p t wj = wj := by rw [stepA, hq, if_pos hmq]
            rw [hsA]
            exact runs_nil ⟨rfl, .cons rfl (.cons rfl (.cons rfl (.cons rfl (.cons rfl (.cons rfl .nil)))))⟩
        · intro ρ4 S4
          exact ⟨rfl, S4⟩
        · obtain ⟨g', _⟩ := steps_good (t := t) ⟨hp1, hp2⟩ [d0, d1] w hdeeds gw hmem
          refine ⟨stepsA [d0, d1] p t w, g', ?_, ?_, S3.less fun p hp => List.mem_cons_of_mem _ (List.mem_cons_of_mem _ hp)⟩
          · have : w.length ≤ (stepsA [d0, d1] p t w).length := by
              have one : ∀ d (w : List (P2 × Int)), w.length ≤ (stepA d p t w).length := fun d w => by
                unfold stepA; split
                · exact Nat.le_refl _
                · simp
              exact Nat.le_trans (one d0 w) (one d1 _)
            omega
          · have e2 : n * n + 1 - (i + 1) = n * n - i := by omega
            rw [e2]; exact hrun
      · rintro fl ρ2 hfl h
        cases fl with
        | next => exact absurd rfl hfl
        | brk => exact h.elim
        | cont => exact h.elim
        | ret d => exact h
  · rintro ρ' hnone
    subst hnone
    refine Tree.weaken (ρ' := ⟨[], []⟩) ?_ (fun _ _ e => by cases e) (List.nil_sublist _)
    exact runs_cons (Ψ := fun fl _ => fl = .ret .none) (exec_ret ev_none rfl) (fun _ q => by cases q) (fun fl _ _ q => by subst q; exact .inl rfl)
  · rintro fl ρ' hfl h
    cases fl with
    | next => exact absurd rfl hfl
    | brk => exact h.elim
    | cont => exact h.elim
    | ret d => subst h; exact .inl rfl
end
end

section 
open PySem PySem.W PyProof.Rows
set_option linter.unusedVariables false
set_option maxRecDepth 100000

variable {c : Cx} {env : Env} {ρ : St}

theorem apart_op {n : Nat} {d0 d1 bright : List Int} {one other : Int} (m : Md c) (hA : AOk 1 c.A) (hn : n ≤ 2 ^ 9) (h0 : Deed n d0) (h1 : Deed n d1) (hb : bright.length = n) (ho : 0 ≤ one ∧ one < n) (ht : 0 ≤ other ∧ other < n) :
    Op c (fun vs => call (.ref 58) vs) [intsD bright, .lst [intsD d0, intsD d1], .int one, .int other] (resD (runA bright [d0, d1] (n * n + 1) 0 [((one, other), 0)])) := by
  refine fn_op (l := [("bright", intsD bright), ("deeds", .lst [intsD d0, intsD d1]), ("one", .int one), ("other", .int other)]) m.fApart (by have := hA.depth; omega) (by simp) ?_ ?_ fun L => apart_runs (m.g.deeper _) (hA.deeper _) hn h0 h1 hb ho ht
  · intro k x hx
    simp only [List.mem_cons, List.not_mem_nil, or_false] at hx
    rcases hx with rfl | rfl | rfl | rfl <;> exact .inl (by with_unfolding_all rfl)
  · intro N s vs hB D
    simp only [DenL] at D
    obtain ⟨v1, r1, rfl, D1, v2, r2, rfl, D2, v3, r3, rfl, D3, v4, r4, rfl, D4, rfl⟩ := D
    exact ⟨_, .of_eq (by with_unfolding_all rfl), .cons D1 (.cons D2 (.cons D3 (.cons D4 .nil)))⟩

def addOne (kvs : List (Key × Int)) (k : Key) (v : Int) : List (Key × Int) := setK kvs k (((getK kvs k).getD 0) + v)

theorem getK_none {kvs : List (Key × Int)} {k : Key} (h : k ∉ kvs.map (·.1)) : getK kvs k = none := by
  unfold getK
  rw [List.find?_eq_none.mpr]
  · rfl
  · intro p hp e
    exact h (by rw [← of_decide_eq_true e]; exact List.mem_map_of_mem hp)
theorem setK_new {kvs : List (Key × Int)} {k : Key} {v : Int} (h : k ∉ kvs.map (·.1)) : setK kvs k v = kvs ++ [(k, v)] := by
  unfold setK; rw [getK_none h]; rfl
theorem setK_take {kvs : List (Key × Int)} (hn : (kvs.map (·.1)).Nodup) {i : Nat} {k : Key} {v : Int} (h : kvs[i]? = some (k, v)) : setK (kvs.take i) k v = kvs.take (i + 1) := by
  rw [List.take_add_one, h, setK_new]
  · rfl
  · intro hm
    obtain ⟨hi, hg⟩ := List.getElem?_eq_some_iff.mp h
    have e : kvs = kvs.take i ++ kvs[i] :: kvs.drop (i + 1) := by rw [← List.drop_eq_getElem_cons hi, List.take_append_drop]
    rw [e, List.map_append, List.nodup_append] at hn
    refine hn.2.2 _ hm k ?_ rfl
    rw [List.map_cons, hg]
    exact List.mem_cons_self

section
variable {L : Addr}

theorem add_runs {kvs : List (Key × Int)} {k : Key} {v : Int} (g : Gl c) (hA : AOk 0 c.A) (hn : (kvs.map (·.1)).Nodup) (hz : kvs.length ≤ 2 ^ 19) :
    Runs c (envAdd L) ⟨[("target", .dct c.H kvs), ("source", .dct c.H [(k, v)])], []⟩ (bodyOf (stm 1)) (Ends (.dct c.H (addOne kvs k v))) := by
  have hh := hA.handled
  have hu : c.A.units + 100 < cLine := by have := hA.units; omega
  refine runs_then (R := fun ρ' => ∃ a, SubO [("target", .dct c.H kvs), ("source", .dct c.H [(k, v)]), ("new_callers", .own a)] [(a, .dct [])] ρ')
    (assign_new (evn_dict0 g.stat) (.inl (by with_unfolding_all rfl)) fun a => ⟨rfl, a, .cons rfl (.cons rfl (.cons rfl .nil))⟩) ?_
  rintro ρ1 ⟨a, S1⟩
  refine Tree.fromO S1 ?_
  refine runs_then (R := SubO [("target", .dct c.H kvs), ("source", .dct c.H [(k, v)]), ("new_callers", .own a)] [(a, .dct kvs)])
    (exec_for_items (kvs := kvs) (Inv := fun i ρ' => SubO [("target", .dct c.H kvs), ("source", .dct c.H [(k, v)]), ("new_callers", .own a)] [(a, .dct (kvs.take i))] ρ') hh (ev_name rfl) (by omega) (.inl (by with_unfolding_all rfl)) (.inl (by with_unfolding_all rfl))
      (.cons rfl (.cons rfl (.cons rfl .nil))) ?_ ?_) fun ρ2 S2 => ?_
  · intro i k' v' ρ' hi S
    have S' : SubO [("func", .tup (keyDs k')), ("caller", .int v'), ("target", .dct c.H kvs), ("source", .dct c.H [(k, v)]), ("new_callers", .own a)] [(a, .dct (kvs.take i))] ((ρ'.set "func" (.tup (keyDs k'))).set "caller" (.int v')) := by
      refine .cons ?_ (.cons ?_ ((S.set (by simp)).set (by simp)))
      · rw [St.set, lookup_upd, if_neg (by decide), St.set, lookup_upd, if_pos rfl]
      · rw [St.set, lookup_upd, if_pos rfl]
    refine Tree.fromO S' ?_
    refine runs_then (R := SubO [("target", .dct c.H kvs), ("source", .dct c.H [(k, v)]), ("new_callers", .own a)] [(a, .dct (kvs.take (i + 1)))])
      (exec_dset (l1 := []) (l2 := []) (a := a) (kvs := kvs.take i) (k := k') (i := v') hu (ev_name rfl) rfl (ev_name rfl) (by rw [List.length_take]; omega) ⟨rfl, ?_⟩) fun ρ6 S6 => runs_nil S6
    rw [setK_take hn hi]
    exact .cons rfl (.cons rfl (.cons rfl .nil))
  · intro ρ' S
    rw [List.take_length] at S
    exact ⟨rfl, S⟩
  refine Tree.fromO S2 ?_
  refine runs_then (R := SubO [("new_callers", .own a)] [(a, .dct (addOne kvs k v))])
    (exec_for_items (kvs := [(k, v)]) (Inv := fun i ρ' => SubO [("new_callers", .own a)] [(a, .dct (if i = 0 then kvs else addOne kvs k v))] ρ') hh (ev_name rfl) (by simp) (.inl (by with_unfolding_all rfl)) (.inl (by with_unfolding_all rfl))
      (.cons rfl .nil) ?_ ?_) fun ρ3 S3 => ?_
  · intro i k' v' ρ' hi S
    have hi0 : i = 0 := by
      have := (List.getElem?_eq_some_iff.mp hi).1
      simpa using this
    subst hi0
    simp only [List.getElem?_cons_zero, Option.some.injEq, Prod.mk.injEq] at hi
    obtain ⟨rfl, rfl⟩ := hi
    rw [if_pos rfl] at S
    have S' : SubO [("func", .tup (keyDs k)), ("caller", .int v), ("new_callers", .own a)] [(a, .dct kvs)] ((ρ'.set "func" (.tup (keyDs k))).set "caller" (.int v)) := by
      refine .cons ?_ (.cons ?_ ((S.set (by simp)).set (by simp)))
      · rw [St.set, lookup_upd, if_neg (by decide), St.set, lookup_upd, if_pos rfl]
      · rw [St.set, lookup_upd, if_pos rfl]
    refine Tree.fromO S' ?_
    rw [if_neg (Nat.succ_ne_zero 0)]
    refine runs_then (R := SubO [("new_callers", .own a)] [(a, .dct (addOne kvs k v))])
      (exec_if (bt := (getK kvs k).isSome) (Tests.thaw (l1 := []) (l2 := []) (a := a) (od := .dct kvs) (x := "new_callers") rfl (t_cmp (ev_name rfl) (ev_name rfl) (o_indct hu) (by with_unfolding_all rfl))) (fun h => ?_) fun h => ?_) fun ρ6 S6 => runs_nil S6
    · obtain ⟨i0, hi0⟩ := Option.isSome_iff_exists.mp h
      refine runs_then (R := SubO [("new_callers", .own a)] [(a, .dct (addOne kvs k v))])
        (exec_if (bt := false) (t_val (ev_isinst_int g.isinst g.tuple (ev_name rfl) (by with_unfolding_all rfl) (by with_unfolding_all rfl))) (fun h => (by cases h)) fun h => ?_) fun ρ6 S6 => runs_nil ⟨rfl, S6⟩
      refine runs_then (R := SubO [("new_callers", .own a)] [(a, .dct (addOne kvs k v))])
        (exec_daug (l1 := []) (l2 := []) (a := a) (kvs := kvs) (k := k) (i0 := i0) (i := v) hu (ev_name rfl) rfl (ev_name rfl) hi0 (by omega) ⟨rfl, ?_⟩) fun ρ6 S6 => runs_nil ⟨rfl, S6⟩
      rw [addOne, hi0]
      exact .cons rfl .nil
    · have hnone : getK kvs k = none := by
        cases e : getK kvs k with
        | none => rfl
        | some _ => rw [e] at h; cases h
      refine runs_then (R := SubO [("new_callers", .own a)] [(a, .dct (addOne kvs k v))])
        (exec_dset (l1 := []) (l2 := []) (a := a) (kvs := kvs) (k := k) (i := v) hu (ev_name rfl) rfl (ev_name rfl) (by omega) ⟨rfl, ?_⟩) fun ρ6 S6 => runs_nil ⟨rfl, S6⟩
      rw [addOne, hnone, Option.getD_none, Int.zero_add]
      exact .cons rfl .nil
  · intro ρ' S
    exact ⟨rfl, S⟩
  refine Tree.fromO S3 ?_
  refine Tree.freeze (l1 := []) (l2 := []) (a := a) (od := .dct (addOne kvs k v)) (x := "new_callers") rfl ?_
  exact runs_cons (Ψ := fun fl _ => fl = .ret (.dct c.H (addOne kvs k v))) (exec_ret (ev_name rfl) rfl) (fun _ q => by cases q) (fun fl _ _ q => by subst q; exact .inl rfl)

theorem cnt_runs {kvs : List (Key × Int)} (g : Gl c) (hA : AOk 0 c.A) (hz : kvs.length ≤ 2 ^ 19) :
    Runs c (envCnt L) ⟨[("callers", .dct c.H kvs)], []⟩ (bodyOf (stm 2)) (Ends (.int ((kvs.map (·.2)).foldl (· + ·) 0))) := by
  have hh := hA.handled
  refine runs_then (R := Sub [("callers", .dct c.H kvs), ("nc", .int 0)]) (assign_name ev_int (.inl (by with_unfolding_all rfl)) ⟨rfl, .cons rfl (.cons rfl .nil)⟩) fun ρ1 S1 => ?_
  refine Tree.from S1 ?_
  refine runs_then (R := Sub [("nc", .int ((kvs.map (·.2)).foldl (· + ·) 0))])
    (exec_for (ds := kvs.map fun p => .int p.2) (Inv := fun i ρ' => Sub [("nc", .int (((kvs.map (·.2)).take i).foldl (· + ·) 0))] ρ') (it_values hh (ev_name rfl) (by omega)) (.inl (by with_unfolding_all rfl)) (.cons rfl .nil) ?_ ?_) fun ρ2 S2 => ?_
  · intro i d ρ' hi S
    rw [List.getElem?_map] at hi
    obtain ⟨p, hp, rfl⟩ := Option.map_eq_some_iff.mp hi
    have S' : Sub [("calls", .int p.2), ("nc", .int (((kvs.map (·.2)).take i).foldl (· + ·) 0))] (ρ'.set "calls" (.int p.2)) := .cons (by rw [St.set, lookup_upd, if_pos rfl]) (S.set (by simp))
    refine Tree.from S' ?_
    refine runs_then (R := Sub [("nc", .int (((kvs.map (·.2)).take (i + 1)).foldl (· + ·) 0))]) (aug_name rfl (ev_name rfl) o_iadd (.inl (by with_unfolding_all rfl)) ⟨rfl, ?_⟩) fun ρ6 S6 => runs_nil S6
    rw [List.take_add_one, List.getElem?_map, hp, List.foldl_append]
    exact .cons rfl .nil
  · intro ρ' S
    rw [List.length_map, ← List.length_map (f := (·.2)) (as := kvs), List.take_length] at S
    exact ⟨rfl, S⟩
  refine Tree.from S2 ?_
  exact runs_cons (Ψ := fun fl _ => fl = .ret (.int ((kvs.map (·.2)).foldl (· + ·) 0))) (exec_ret (ev_name rfl) rfl) (fun _ q => by cases q) (fun fl _ _ q => by subst q; exact .inl rfl)
end

theorem add_op {kvs : List (Key × Int)} {k : Key} {v : Int} (m : Md c) (hA : AOk 1 c.A) (hn : (kvs.map (·.1)).Nodup) (hz : kvs.length ≤ 2 ^ 19) :
    Op c (fun vs => call (.ref 21) vs) [.dct c.H kvs, .dct c.H [(k, v)]] (.dct c.H (addOne kvs k v)) := by
  refine fn_op (l := [("target", .dct c.H kvs), ("source", .dct c.H [(k, v)])]) m.fAdd (by have := hA.depth; omega) (by simp) ?_ ?_ fun L => add_runs (c := c.deeper _) (m.g.deeper _) (hA.deeper _) hn hz
  · intro k x hx
    simp only [List.mem_cons, List.not_mem_nil, or_false] at hx
    rcases hx with rfl | rfl <;> exact .inl (by with_unfolding_all rfl)
  · intro N s vs hB D
    simp only [DenL] at D
    obtain ⟨v1, r1, rfl, D1, v2, r2, rfl, D2, rfl⟩ := D
    exact ⟨_, .of_eq (by with_unfolding_all rfl), .cons D1 (.cons D2 .nil)⟩
theorem cnt_op {kvs : List (Key × Int)} (m : Md c) (hA : AOk 1 c.A) (hz : kvs.length ≤ 2 ^ 19) :
    Op c (fun vs => call (.ref 28) vs) [.dct c.H kvs] (.int ((kvs.map (·.2)).foldl (· + ·) 0)) := by
  refine fn_op (l := [("callers", .dct c.H kvs)]) m.fCnt (by have := hA.depth; omega) (by simp) ?_ ?_ fun L => cnt_runs (c := c.deeper _) (m.g.deeper _) (hA.deeper _) hz
  · intro k x hx
    simp only [List.mem_cons, List.not_mem_nil, or_false] at hx
    rcases hx with rfl
    exact .inl (by with_unfolding_all rfl)
  · intro N s vs hB D
    simp only [DenL] at D
    obtain ⟨v1, r1, rfl, D1, rfl⟩ := D
    exact ⟨_, .of_eq (by with_unfolding_all rfl), .cons D1 .nil⟩
end

section 
open PySem PySem.W PyProof.Rows
set_option linter.unusedVariables false
set_option maxRecDepth 100000

variable {c : Cx} {env : Env} {ρ : St}

theorem raw_len {prog : Program} {w : World} {A : Around} {E : Value → Shared → Prop} {s : Shared} {d : Addr} {es : Array DictEntry} {ep : Nat} {Q : Value → Shared → Prop} (hs : (d == sysModules) = false) (x : RawDict s.heap d es ep) (hfit : (es.size : Int) < 2 ^ 63)
    (h : Q (.int es.size (s.toks + 1)) { s with toks := s.toks + 1 + 1 }) : wpAny (model prog w) A (call (.builtin "len") [.ref d]) Q E s := by
  obtain ⟨o, ho, hc, hdat⟩ := id x
  refine Calls.call_function_entry kind_len plain_len entry_len (args_len1 _) ?_
  show wpAny _ _ (oneArg "len" _ >>= _) _ _ s
  refine wpAny_bind (m := oneArg "len" _) (wpAny_pure ?_)
  refine wpAny_bind (m := callSpecial? (.ref d) (Str.ofString "__len__")) (wpAny_callSpecial?_slot (name := Str.ofString "__len__") x.typeIs F.slot_dict_len
    (wpAny_call_entry F.slot_dict_len x.typeIs F.entry_dict_len ?_ (F.args_dict_len_1 _)))
  show wpAny _ _ (dictSize d >>= _) _ _ s
  unfold dictSize
  refine wpAny_bind (wpAny_bind (wpAny_dictEntries ho hdat (wpAny_pure ?_)))
  show wpAny _ _ (Builtin.Dict.pendingCount d >>= _) _ _ s
  refine wpAny_bind (wpAny_pendingCount_other hs ?_)
  refine wpAny_ret_mkInt ?_
  rw [Nat.add_zero]
  show wpAny _ _ _ _ _ { s with toks := s.toks + 1 }
  refine wpAny_bind (wpAny_holding (wpAny_pure ?_))
  refine wpAny_bind (wpAny_letGo ?_)
  show wpAny _ _ (if ((es.size : Nat) : Int) < 0 then _ else _) _ _ _
  rw [if_neg (by omega)]
  show wpAny _ _ (if ((es.size : Nat) : Int) ≥ 2 ^ 63 then _ else _) _ _ _
  rw [if_neg (by omega)]
  exact wpAny_bind (wpAny_mkInt (wpAny_pure ⟨_, rfl, h⟩))

theorem ev_lend {np pos : Pos} {e : Expr} {kvs : List (Key × Int)} (hG : GName c.B ("len" : Str) (.builtin "len")) (h : Evals c env ρ e (.dct c.H kvs)) (hz : kvs.length ≤ 2 ^ 20) (hx : env.kindOf ("len" : Str) = some .globalImplicit)
    (hs : starEach [e] env = [(false, eval e env)] := by with_unfolding_all rfl) : Evals c env ρ (.Call (.Name ("len" : Str) np) [e] [] pos) (.int kvs.length) := by
  refine ev_bcall1 hG h (fun N s Q E v L D hQ => ?_) hx (hs := hs)
  simp only [Den] at D
  obtain ⟨d, rfl, hsm, o, es, ep, xs, ho, hc, hd, he, hk, hv, hxs, hn⟩ := D
  have hes : es.size = kvs.length := by rw [← Array.length_toList, he, hxs, List.length_map, List.length_map]
  refine raw_len hsm ⟨o, ho.1, hc, hd⟩ (by omega) (hQ _ _ (.tok s _) ?_)
  simp only [Den]
  exact ⟨_, by rw [hes]⟩

/-! the plain names of the law -/
def rep (L : List Int) (p : Int) : Int := Int.ofNat (L.idxOf (atI L p))
def leastTo (L : List Int) (k : Nat) : List Int := ((List.range k).filter fun p : Nat => decide (atI L p ∉ L.take p)).map Int.ofNat
def cntLt (l : List Int) (x : Int) : Nat := (l.filter fun y => decide (y < x)).length
def smallOf (L least d : List Int) : List Int := least.map fun p => Int.ofNat (cntLt least (rep L (atI d p)))
def lightsOf (bright least : List Int) : List Int := least.map fun p => atI bright p
def lotKey (v : Int) : Key := [.inr ("in" : Str), .inl v, .inr ("lot" : Str)]
def callsTo (L : List Int) (k : Nat) : List (Key × Int) := (List.range k).foldl (fun acc (p : Nat) => addOne acc (lotKey (atI L p)) 1) []

theorem leastTo_succ (L : List Int) (k : Nat) : leastTo L (k + 1) = leastTo L k ++ (if atI L k ∉ L.take k then [(k : Int)] else []) := by
  unfold leastTo
  rw [List.range_succ, List.filter_append, List.map_append]
  congr 1
  by_cases h : atI L k ∉ L.take k <;> simp [h]
theorem callsTo_succ (L : List Int) (k : Nat) : callsTo L (k + 1) = addOne (callsTo L k) (lotKey (atI L k)) 1 := by
  unfold callsTo
  rw [List.range_succ, List.foldl_append]
  rfl
theorem mem_leastTo {L : List Int} {k : Nat} {x : Int} : x ∈ leastTo L k ↔ ∃ p : Nat, p < k ∧ atI L p ∉ L.take p ∧ x = p := by
  unfold leastTo
  simp only [List.mem_map, List.mem_filter, List.mem_range, decide_eq_true_eq]
  constructor
  · rintro ⟨p, ⟨h1, h2⟩, rfl⟩; exact ⟨p, h1, h2, rfl⟩
  · rintro ⟨p, h1, h2, rfl⟩; exact ⟨p, ⟨h1, h2⟩, rfl⟩
theorem leastTo_lt {L : List Int} {k : Nat} {x : Int} (h : x ∈ leastTo L k) : 0 ≤ x ∧ x < k := by
  obtain ⟨p, h1, _, rfl⟩ := mem_leastTo.mp h
  omega
theorem leastTo_sorted (L : List Int) : ∀ k, (leastTo L k).Pairwise (· < ·)
  | 0 => by simp [leastTo]
  | k + 1 => by
    rw [leastTo_succ, List.pairwise_append]
    refine ⟨leastTo_sorted L k, by split <;> simp, fun a ha b hb => ?_⟩
    split at hb
    · rw [List.mem_singleton] at hb; subst hb; exact (leastTo_lt ha).2
    · cases hb
theorem leastTo_len (L : List Int) (k : Nat) : (leastTo L k).length ≤ k := by
  unfold leastTo
  rw [List.length_map]
  exact Nat.le_trans (List.length_filter_le _ _) (by simp)

/-- a sorted list is cut by how many lie below -/
theorem cntLt_cut : ∀ {l : List Int} {x : Int}, l.Pairwise (· < ·) → ∀ (j : Nat) (h : j < l.length), l[j] < x ↔ j < cntLt l x
  | [], x, _, j, h => by simp at h
  | a :: l, x, hs, j, h => by
    rw [List.pairwise_cons] at hs
    by_cases hax : a < x
    · have e : cntLt (a :: l) x = cntLt l x + 1 := by simp [cntLt, hax]
      rw [e]
      cases j with
      | zero => simp [hax]
      | succ j =>
        have := cntLt_cut (x := x) hs.2 j (by simpa using h)
        simp only [List.getElem_cons_succ]
        omega
    · have hall : ∀ y ∈ l, ¬ y < x := fun y hy => by have := hs.1 y hy; omega
      have e : cntLt (a :: l) x = 0 := by
        unfold cntLt
        rw [List.filter_eq_nil_iff.mpr]
        · rfl
        · intro y hy
          rcases List.mem_cons.mp hy with rfl | hy
          · simpa using hax
          · simpa using hall y hy
      rw [e]
      have : ¬ (a :: l)[j] < x := by
        have hm : (a :: l)[j] ∈ a :: l := List.getElem_mem h
        rcases List.mem_cons.mp hm with q | q
        · rw [q]; exact hax
        · exact hall _ q
      omega
theorem cntLt_le (l : List Int) (x : Int) : cntLt l x ≤ l.length := List.length_filter_le _ _
theorem cntLt_mem {l : List Int} {x : Int} (hs : l.Pairwise (· < ·)) (hx : x ∈ l) : ∃ h : cntLt l x < l.length, l[cntLt l x] = x := by
  obtain ⟨j, hj, e⟩ := List.mem_iff_getElem.mp hx
  have h1 := cntLt_cut (x := x) hs j hj
  have hjc : ¬ j < cntLt l x := fun q => by have := h1.mpr q; omega
  have hc : cntLt l x < l.length := by omega
  refine ⟨hc, ?_⟩
  have h2 := cntLt_cut (x := x) hs (cntLt l x) hc
  have h3 : ¬ l[cntLt l x] < x := fun q => by have := h2.mp q; omega
  by_cases hjj : cntLt l x = j
  · subst hjj; exact e
  · have hlt : cntLt l x < j := by omega
    have := List.pairwise_iff_getElem.mp hs (cntLt l x) j hc hj hlt
    omega

theorem idxOf_firsts {L : List Int} {p : Nat} (hp : p < L.length) : rep L p ∈ leastTo L L.length ∧ atI L (rep L p) = atI L p := by
  have hm : atI L p ∈ L := atI_mem (by omega) (by omega)
  have hlt : L.idxOf (atI L p) < L.length := List.idxOf_lt_length_iff.mpr hm
  have e : atI L (rep L p) = atI L p := by
    unfold rep
    show L.getD (Int.toNat (Int.ofNat _)) 0 = _
    rw [show Int.toNat (Int.ofNat (L.idxOf (atI L p))) = L.idxOf (atI L p) from rfl, List.getD_eq_getElem?_getD, List.getElem?_eq_getElem hlt]
    exact List.getElem_idxOf hlt
  refine ⟨mem_leastTo.mpr ⟨L.idxOf (atI L p), hlt, ?_, rfl⟩, e⟩
  have e' : atI L (Int.ofNat (L.idxOf (atI L p))) = atI L p := e
  show atI L (Int.ofNat (L.idxOf (atI L p))) ∉ _
  rw [e']
  intro hin
  obtain ⟨j, hj, ej⟩ := List.mem_iff_getElem.mp hin
  rw [List.getElem_take] at ej
  rw [List.length_take] at hj
  have hj' : j < L.idxOf (atI L p) := by omega
  have := List.not_of_lt_findIdx (p := fun x => x == atI L p) (xs := L) (i := j) hj'
  rw [ej] at this
  simp at this

structure PL (bright d0 d1 L : List Int) (S : Int) : Prop where
  steps : S ≤ 5
  steps0 : 0 ≤ S
  told : ∀ one other : Nat, one < 6 → other < one → (runA bright [d0, d1] (6 * 6 + 1) 0 [(((one : Int), (other : Int)), 0)] = none ↔ atI L one = atI L other) ∧ ∀ t, runA bright [d0, d1] (6 * 6 + 1) 0 [(((one : Int), (other : Int)), 0)] = some t → t ≤ S + 1
  again : (firstsG (lotsRun (leastTo L 6).length (smallOf L (leastTo L 6) d0) (smallOf L (leastTo L 6) d1) (leastTo L 6).length (lightsOf bright (leastTo L 6)) 0).1).length = (leastTo L 6).length
  light : ∀ p : Nat, p < 6 → atI bright (rep L p) = atI bright p
  deed0 : ∀ p : Nat, p < 6 → rep L (atI d0 (rep L p)) = rep L (atI d0 p)
  deed1 : ∀ p : Nat, p < 6 → rep L (atI d1 (rep L p)) = rep L (atI d1 p)
  turned : ∀ p : Nat, p < 6 → rep (lotsRun 6 d0 d1 6 (bright.map fun x => 1 - x) 0).1 p = rep L p
end

section 
open PySem PySem.W PyProof.Rows
set_option linter.unusedVariables false
set_option maxRecDepth 100000

variable {c : Cx} {env : Env} {ρ : St}

def envLaw (L fa : Addr) (cd : Value) : Env := envOfC "law" (scopeOf (stm 9)) L fa cd

section
variable {L fa : Addr} {cd : Value} {bright d0 d1 Lo : List Int} {S : Int} {Φ : Post}

theorem law_B (m : Md c) (hA : AOk 2 c.A) (h0 : Deed 6 d0) (h1 : Deed 6 d1) (hb : bright.length = 6) (hLo : Lo.length = 6) (P : PL bright d0 d1 Lo S)
    (tail : Runs c (envLaw L fa cd) ⟨[("bright", intsD bright), ("deeds", .lst [intsD d0, intsD d1]), ("lots", intsD Lo)], []⟩ ((bodyOf (stm 9)).drop 6) Φ) :
    Runs c (envLaw L fa cd) ⟨[("bright", intsD bright), ("deeds", .lst [intsD d0, intsD d1]), ("lots", intsD Lo), ("steps", .int S)], []⟩ ((bodyOf (stm 9)).drop 4) Φ := by
  have hh := hA.handled
  obtain ⟨oA, hoA, hdA⟩ := m.fApart.obj
  have g := m.g
  refine runs_then (R := Sub [("bright", intsD bright), ("deeds", .lst [intsD d0, intsD d1]), ("lots", intsD Lo), ("steps", .int S)])
    (exec_if (bt := false) (Tests.to (t_cmp (ev_name rfl) ev_int o_gt (by with_unfolding_all rfl)) (decide_eq_false (by have := P.steps; omega))) (fun h => (by cases h))
      fun _ => runs_nil ⟨rfl, .cons rfl (.cons rfl (.cons rfl (.cons rfl .nil)))⟩) fun ρ1 S1 => ?_
  refine Tree.from S1 ?_
  refine runs_then (R := Sub [("bright", intsD bright), ("deeds", .lst [intsD d0, intsD d1]), ("lots", intsD Lo)])
    (exec_for (ds := rangeD 6) (Inv := fun i ρ' => Sub [("bright", intsD bright), ("deeds", .lst [intsD d0, intsD d1]), ("lots", intsD Lo), ("steps", .int S)] ρ')
      (it_range (k := 6) hh g.range ev_int (by omega) (by omega) (by with_unfolding_all rfl)) (.inl (by with_unfolding_all rfl)) (.cons rfl (.cons rfl (.cons rfl (.cons rfl .nil)))) ?_ ?_) fun ρ2 S2 => Tree.from S2 tail
  · intro i d ρ' hd SS
    obtain ⟨hi, rfl⟩ := get_rangeD hd
    have S' : Sub [("one", .int i), ("bright", intsD bright), ("deeds", .lst [intsD d0, intsD d1]), ("lots", intsD Lo), ("steps", .int S)] (ρ'.set "one" (.int i)) := .cons (by rw [St.set, lookup_upd, if_pos rfl]) (SS.set (by simp))
    refine Tree.from S' ?_
    refine runs_then (R := Sub [("bright", intsD bright), ("deeds", .lst [intsD d0, intsD d1]), ("lots", intsD Lo), ("steps", .int S)])
      (exec_for (ds := rangeD i) (Inv := fun i' ρ' => Sub [("one", .int i), ("bright", intsD bright), ("deeds", .lst [intsD d0, intsD d1]), ("lots", intsD Lo), ("steps", .int S)] ρ')
        (it_range (k := (i : Int)) hh g.range (ev_name rfl) (by omega) (by omega) (by with_unfolding_all rfl)) (.inl (by with_unfolding_all rfl)) (.cons rfl (.cons rfl (.cons rfl (.cons rfl (.cons rfl .nil))))) ?_ ?_) fun ρ3 S3 => runs_nil S3
    · intro j dj ρ4 hj S4
      obtain ⟨hj', rfl⟩ := get_rangeD hj
      obtain ⟨hn, ht⟩ := P.told i j hi hj'
      have S4' : Sub [("other", .int j), ("one", .int i), ("bright", intsD bright), ("deeds", .lst [intsD d0, intsD d1]), ("lots", intsD Lo), ("steps", .int S)] (ρ4.set "other" (.int j)) := .cons (by rw [St.set, lookup_upd, if_pos rfl]) (S4.set (by simp))
      refine Tree.from S4' ?_
      refine runs_then (R := Sub [("told", resD (runA bright [d0, d1] (6 * 6 + 1) 0 [(((i : Int), (j : Int)), 0)])), ("other", .int j), ("one", .int i), ("bright", intsD bright), ("deeds", .lst [intsD d0, intsD d1]), ("lots", intsD Lo), ("steps", .int S)])
        (assign_name (ev_call m.nApart hoA hdA (evl_cons (ev_name rfl) (evl_cons (ev_name rfl) (evl_cons (ev_name rfl) (evl_cons (ev_name rfl) evl_nil))))
          (apart_op (n := 6) m ⟨hA.handled, by have := hA.depth; omega, by have := hA.units; omega⟩ (by decide) h0 h1 hb (by omega) (by omega)) (by with_unfolding_all rfl))
          (.inl (by with_unfolding_all rfl)) ⟨rfl, .cons rfl (.cons rfl (.cons rfl (.cons rfl (.cons rfl (.cons rfl (.cons rfl .nil))))))⟩) fun ρ5 S5 => ?_
      refine Tree.from S5 ?_
      have li : (Lo.map D.int)[((i : Int)).toNat]? = some (.int (atI Lo i)) := item_int (by omega) (by omega)
      have lj : (Lo.map D.int)[((j : Int)).toNat]? = some (.int (atI Lo j)) := item_int (by omega) (by omega)
      refine runs_then (R := Sub [("one", .int i), ("bright", intsD bright), ("deeds", .lst [intsD d0, intsD d1]), ("lots", intsD Lo), ("steps", .int S)])
        (exec_if (bt := false) ?_ (fun h => (by cases h)) fun _ => runs_nil ⟨rfl, .cons rfl (.cons rfl (.cons rfl (.cons rfl (.cons rfl .nil))))⟩) fun ρ6 S6 => runs_nil S6
      refine Tests.to (t_or_cons (b := false) (b' := false) (Tests.to (t_cmp (ev_cmp (ev_name rfl) ev_none o_is (by with_unfolding_all rfl)) (ev_cmp (ev_item (ev_name rfl) (ev_name rfl) (by omega) (by omega) li (by intro _ _; with_unfolding_all rfl)) (ev_item (ev_name rfl) (ev_name rfl) (by omega) (by omega) lj (by intro _ _; with_unfolding_all rfl)) o_eq (by with_unfolding_all rfl)) o_neb (by with_unfolding_all rfl)) ?_) (fun _ => ?_)) rfl
      · cases hr : runA bright [d0, d1] (6 * 6 + 1) 0 [(((i : Int), (j : Int)), 0)] with
        | none => rw [hn.mp hr]; simp [resD, D.isNone]
        | some t =>
          have : atI Lo i ≠ atI Lo j := fun e => by rw [hn.mpr e] at hr; cases hr
          simp [resD, D.isNone, this]
      · cases hr : runA bright [d0, d1] (6 * 6 + 1) 0 [(((i : Int), (j : Int)), 0)] with
        | none =>
          refine Tests.to (t_or_cons (b := false) (b' := false) (Tests.to (t_and_cons (b := false) (b' := false) (t_cmp (ev_name rfl) ev_none o_isnot (by with_unfolding_all rfl)) (fun h => (by cases h))) rfl) fun _ => t_or_nil) rfl
        | some t =>
          have := ht t hr
          refine Tests.to (t_or_cons (b := false) (b' := false) (Tests.to (t_and_cons (b := true) (b' := false) (t_cmp (ev_name rfl) ev_none o_isnot (by with_unfolding_all rfl))
            (fun h => Tests.to (t_and_cons (b := false) (b' := true) (Tests.to (t_cmp (ev_name rfl) (ev_bin (ev_name rfl) ev_int o_add) o_gt (by with_unfolding_all rfl)) (decide_eq_false (by omega))) fun h => t_and_nil) rfl)) rfl) fun _ => t_or_nil) rfl
    · intro ρ4 S4
      exact ⟨rfl, fun p hp => S4.1 p (List.mem_cons_of_mem _ hp), S4.2⟩
  · intro ρ' SS
    exact ⟨rfl, fun p hp => SS.1 p (by simp at hp ⊢; rcases hp with rfl | rfl | rfl <;> simp), SS.2⟩
end
end

section 
open PySem PySem.W PyProof.Rows
set_option linter.unusedVariables false
set_option maxRecDepth 100000

variable {c : Cx} {env : Env} {ρ : St}

def numsOf (ns : List Int) : List Int := (ns ++ List.replicate 18 0).take 18
def brOf (ns : List Int) : List Int := ((numsOf ns).take 6).map (·.fmod 2)
def d0Of (ns : List Int) : List Int := (((numsOf ns).drop 6).take 6).map (·.fmod 6)
def d1Of (ns : List Int) : List Int := ((numsOf ns).drop 12).map (·.fmod 6)

theorem length_numsOf (ns : List Int) : (numsOf ns).length = 18 := by simp [numsOf]
theorem length_brOf (ns : List Int) : (brOf ns).length = 6 := by simp [brOf, length_numsOf]
theorem deed_fmod (l : List Int) (h : l.length = 6) : Deed 6 (l.map (·.fmod 6)) := by
  refine ⟨by simp [h], fun x hx => ?_⟩
  obtain ⟨y, _, rfl⟩ := List.mem_map.mp hx
  exact ⟨Int.fmod_nonneg_of_pos _ (by decide), Int.fmod_lt_of_pos _ (by decide)⟩
theorem deed_d0 (ns : List Int) : Deed 6 (d0Of ns) := deed_fmod _ (by simp [length_numsOf])
theorem deed_d1 (ns : List Int) : Deed 6 (d1Of ns) := deed_fmod _ (by simp [length_numsOf])
theorem bright_01 (ns : List Int) : ∀ x ∈ brOf ns, x = 0 ∨ x = 1 := by
  intro x hx
  obtain ⟨y, _, rfl⟩ := List.mem_map.mp hx
  have h1 := Int.fmod_nonneg_of_pos y (b := 2) (by decide)
  have h2 := Int.fmod_lt_of_pos y (b := 2) (by decide)
  omega

def modF (k : Int) : D → D
  | .int i => .int (i.fmod k)
  | _ => .none
theorem mod_made (k : Int) (l : List Int) : ((l.map D.int).filter fun _ => true).map (modF k) = (l.map (·.fmod k)).map D.int := by
  rw [filt, List.map_map, List.map_map]
  rfl
theorem cut_map (l : List Int) (lo hi : Option Int) : cut (l.map D.int) lo hi = (cut l lo hi).map D.int := by
  simp [cut, List.map_take, List.map_drop]

section
variable {L fa : Addr} {cd : Value} {Φ : Post} {ns : List Int}

theorem ev_mods {iter : Expr} {env : Env} {ρ : St} {l : List Int} {k : Int} {px p1 p2 p3 pos : Pos} {n : Nat} {scope : Scope} (hh : c.A.handled = none) (hk : k ≠ 0) (hi : Evals c env ρ iter (.lst (l.map .int))) (hz : l.length ≤ 2 ^ 20) (ok : CompOk env ρ scope [] "number" [])
    (hs : ∀ x, foldedSetIterable iter env x = pure x := by intro _; with_unfolding_all rfl) :
    Evals c env ρ (.ListComp (.BinOp (.Name ("number" : Str) p1) .Mod (.Constant (.int k) n p2) p3) [⟨.Name (Str.ofString "number") px, iter, [], 0⟩] scope pos) (intsD (l.map (·.fmod k))) := by
  refine Evals.to (ev_listcomp (ds := l.map D.int) (p := fun _ => true) (f := modF k) (ρc := []) (it_list hh hi (by rw [List.length_map]; exact Nat.le_trans hz (by decide))) ok (by rw [List.length_map]; exact Nat.le_trans hz (by decide)) (fun C d hd => ta_nil) (fun C d hd _ => ?_) hs) (by rw [mod_made]; rfl)
  obtain ⟨x, hx, rfl⟩ := List.mem_map.mp hd
  exact ev_bin (ev_name rfl) ev_int (o_mod hk)

theorem law_A (m : Md c) (hA : AOk 2 c.A) (hns : ns.length ≤ 63)
    (tail : Runs c (envLaw L fa cd) ⟨[("bright", intsD (brOf ns)), ("deeds", .lst [intsD (d0Of ns), intsD (d1Of ns)]), ("lots", intsD (lotsRun 6 (d0Of ns) (d1Of ns) 6 (brOf ns) 0).1), ("steps", .int (lotsRun 6 (d0Of ns) (d1Of ns) 6 (brOf ns) 0).2)], []⟩ ((bodyOf (stm 9)).drop 4) Φ) :
    Runs c (envLaw L fa cd) ⟨[("script", intsD ns)], []⟩ (bodyOf (stm 9)) Φ := by
  have hh := hA.handled
  obtain ⟨oA, hoA, hdA⟩ := m.fLots.obj
  have g := m.g
  have hl18 := length_numsOf ns
  have c0 : cut (ns ++ List.replicate 18 0) none (some 18) = numsOf ns := by
    have : clipAt (ns ++ List.replicate 18 0).length 18 = 18 := by
      unfold clipAt
      rw [if_neg (by decide), List.length_append, List.length_replicate]
      omega
    show ((ns ++ List.replicate 18 0).drop 0).take (clipAt (ns ++ List.replicate 18 0).length 18 - 0) = _
    rw [this]; rfl
  have c1 : cut (numsOf ns) none (some 6) = (numsOf ns).take 6 := by
    show ((numsOf ns).drop 0).take (clipAt (numsOf ns).length 6 - 0) = _
    rw [hl18]; rfl
  have c2 : cut (numsOf ns) (some 6) (some 12) = ((numsOf ns).drop 6).take 6 := by
    show ((numsOf ns).drop (clipAt (numsOf ns).length 6)).take (clipAt (numsOf ns).length 12 - clipAt (numsOf ns).length 6) = _
    rw [hl18]; rfl
  have c3 : cut (numsOf ns) (some 12) none = (numsOf ns).drop 12 := by
    show ((numsOf ns).drop (clipAt (numsOf ns).length 12)).take ((numsOf ns).length - clipAt (numsOf ns).length 12) = _
    have e : clipAt 18 12 = 12 := rfl
    rw [hl18, e]
    exact List.take_of_length_le (by rw [List.length_drop, hl18]; exact Nat.le_refl _)
  refine runs_then (R := Sub [("numbers", intsD (numsOf ns))])
    (assign_name (Evals.to (ev_slice (ds := (ns ++ List.replicate 18 0).map D.int) (Evals.to (ev_bin (ev_name rfl) (ev_bin (ev_list (evl_cons ev_int evl_nil)) ev_int (o_mull (by decide) (by decide) (by simp) (by simp))) (o_addl (by simp; omega))) (by simp))
      ep_none (ep_some ev_int) (by simp; omega)) (by rw [cut_map, c0]; rfl)) (.inl (by with_unfolding_all rfl)) ⟨rfl, .cons rfl .nil⟩) fun ρ1 S1 => ?_
  refine Tree.from S1 ?_
  refine runs_then (R := Sub [("numbers", intsD (numsOf ns)), ("bright", intsD (brOf ns))])
    (assign_name (ev_mods (l := (numsOf ns).take 6) hh (by decide) (Evals.to (ev_slice (ev_name rfl) ep_none (ep_some ev_int) (by rw [List.length_map, hl18]; decide)) (by rw [cut_map, c1])) (by simp [hl18])
      (CompOk.make (by with_unfolding_all rfl) rfl (by decide) .nil (by with_unfolding_all rfl) (.inl (by with_unfolding_all rfl)) .nil)) (.inr ⟨by with_unfolding_all rfl, _, by with_unfolding_all rfl⟩) ⟨rfl, .cons rfl (.cons rfl .nil)⟩) fun ρ2 S2 => ?_
  refine Tree.from S2 ?_
  refine runs_then (R := Sub [("bright", intsD (brOf ns)), ("deeds", .lst [intsD (d0Of ns), intsD (d1Of ns)])])
    (assign_name (ev_list (evl_cons (ev_mods (l := ((numsOf ns).drop 6).take 6) hh (by decide) (Evals.to (ev_slice (ev_name rfl) (ep_some ev_int) (ep_some ev_int) (by rw [List.length_map, hl18]; decide)) (by rw [cut_map, c2])) (by simp [hl18])
        (CompOk.make (by with_unfolding_all rfl) rfl (by decide) .nil (by with_unfolding_all rfl) (.inl (by with_unfolding_all rfl)) .nil))
      (evl_cons (ev_mods (l := (numsOf ns).drop 12) hh (by decide) (Evals.to (ev_slice (ev_name rfl) (ep_some ev_int) ep_none (by rw [List.length_map, hl18]; decide)) (by rw [cut_map, c3])) (by simp [hl18])
        (CompOk.make (by with_unfolding_all rfl) rfl (by decide) .nil (by with_unfolding_all rfl) (.inl (by with_unfolding_all rfl)) .nil)) evl_nil))) (.inl (by with_unfolding_all rfl)) ⟨rfl, .cons rfl (.cons rfl .nil)⟩) fun ρ3 S3 => ?_
  refine Tree.from S3 ?_
  refine runs_then (R := Sub [("bright", intsD (brOf ns)), ("deeds", .lst [intsD (d0Of ns), intsD (d1Of ns)]), ("lots", intsD (lotsRun 6 (d0Of ns) (d1Of ns) 6 (brOf ns) 0).1), ("steps", .int (lotsRun 6 (d0Of ns) (d1Of ns) 6 (brOf ns) 0).2)])
    (assign_tup (ev_call m.nLots hoA hdA (evl_cons (ev_name rfl) (evl_cons (ev_name rfl) (evl_cons ev_int evl_nil)))
      (lots_op (n := 6) m ⟨hA.handled, by have := hA.depth; omega, by have := hA.units; omega⟩ (by decide) (deed_d0 ns) (deed_d1 ns) (length_brOf ns)) (by with_unfolding_all rfl))
      (st_tup2 hh (st_name (.inr ⟨by with_unfolding_all rfl, _, by with_unfolding_all rfl⟩)) (st_name (.inl (by with_unfolding_all rfl)))) ⟨rfl, .cons rfl (.cons rfl (.cons rfl (.cons rfl .nil)))⟩) fun ρ4 S4 => Tree.from S4 tail
end
end

section 
open PySem PySem.W PyProof.Rows
set_option linter.unusedVariables false
set_option maxRecDepth 100000

variable {c : Cx} {env : Env} {ρ : St}

theorem getK_isSome {kvs : List (Key × Int)} {k : Key} (h : k ∈ kvs.map (·.1)) : (getK kvs k).isSome = true := by
  obtain ⟨p, hp, e⟩ := List.mem_map.mp h
  unfold getK
  rw [Option.isSome_map, List.find?_isSome]
  exact ⟨p, hp, decide_eq_true e⟩
theorem setK_in {kvs : List (Key × Int)} {k : Key} {v : Int} (h : k ∈ kvs.map (·.1)) : (setK kvs k v).map (·.1) = kvs.map (·.1) := by
  unfold setK
  rw [getK_isSome h, if_pos rfl, List.map_map]
  refine List.map_congr_left fun p _ => ?_
  simp only [Function.comp]
  split <;> rfl
theorem setK_out {kvs : List (Key × Int)} {k : Key} {v : Int} (h : k ∉ kvs.map (·.1)) : (setK kvs k v).map (·.1) = kvs.map (·.1) ++ [k] := by
  rw [setK_new h]; simp
theorem setK_nodup {kvs : List (Key × Int)} {k : Key} {v : Int} (h : (kvs.map (·.1)).Nodup) : ((setK kvs k v).map (·.1)).Nodup := by
  by_cases hk : k ∈ kvs.map (·.1)
  · rw [setK_in hk]; exact h
  · rw [setK_out hk, List.nodup_append]
    refine ⟨h, by simp, fun x hx y hy e => ?_⟩
    rw [List.mem_singleton] at hy
    subst hy
    exact hk (e ▸ hx)
theorem foldl_sum (l : List Int) : ∀ a : Int, l.foldl (· + ·) a = a + l.foldl (· + ·) 0 := by
  induction l with
  | nil => intro a; simp
  | cons x l ih =>
    intro a
    rw [List.foldl_cons, List.foldl_cons, ih (a + x), ih (0 + x)]
    omega
theorem sum_cons (x : Int) (l : List Int) : (x :: l).foldl (· + ·) 0 = x + l.foldl (· + ·) 0 := by
  rw [List.foldl_cons, foldl_sum]; omega
theorem sum_upd {k : Key} {w : Int} : ∀ {kvs : List (Key × Int)} {i : Int}, (kvs.map (·.1)).Nodup → getK kvs k = some i →
    ((kvs.map fun p => if p.1 = k then (p.1, w) else p).map (·.2)).foldl (· + ·) 0 = (kvs.map (·.2)).foldl (· + ·) 0 - i + w
  | [], i, _, h => by cases h
  | (k', j) :: kvs, i, hn, h => by
    rw [List.map_cons, List.nodup_cons] at hn
    rw [List.map_cons, List.map_cons, List.map_cons, sum_cons, sum_cons]
    by_cases e : k' = k
    · subst e
      have hij : i = j := by
        unfold getK at h
        rw [List.find?_cons] at h
        simpa using h.symm
      subst hij
      have hid : (kvs.map fun p => if p.1 = k' then (p.1, w) else p) = kvs := by
        conv => rhs; rw [← List.map_id kvs]
        refine List.map_congr_left fun p hp => ?_
        have : p.1 ≠ k' := fun e => hn.1 (by rw [← e]; exact List.mem_map_of_mem (f := (·.1)) hp)
        rw [if_neg this]; rfl
      rw [hid, if_pos rfl]
      show w + _ = _
      omega
    · have h' : getK kvs k = some i := by
        unfold getK at h ⊢
        rw [List.find?_cons, decide_eq_false e] at h
        exact h
      rw [sum_upd hn.2 h', if_neg e]
      show j + _ = _
      omega
theorem sum_addOne {kvs : List (Key × Int)} {k : Key} {v : Int} (h : (kvs.map (·.1)).Nodup) : ((addOne kvs k v).map (·.2)).foldl (· + ·) 0 = (kvs.map (·.2)).foldl (· + ·) 0 + v := by
  unfold addOne setK
  cases hg : getK kvs k with
  | some i =>
    rw [show (some i).isSome = true from rfl, if_pos rfl, Option.getD_some, sum_upd h hg]
    omega
  | none =>
    rw [if_neg (by simp), List.map_append, List.foldl_append]
    simp

theorem calls_nodup (L : List Int) : ∀ k, ((callsTo L k).map (·.1)).Nodup
  | 0 => by simp [callsTo]
  | k + 1 => by rw [callsTo_succ]; exact setK_nodup (calls_nodup L k)
theorem calls_sum (L : List Int) : ∀ k : Nat, ((callsTo L k).map (·.2)).foldl (· + ·) 0 = (k : Int)
  | 0 => by simp [callsTo]
  | k + 1 => by rw [callsTo_succ, sum_addOne (calls_nodup L k), calls_sum L k]; omega
theorem lotKey_inj {a b : Int} (h : lotKey a = lotKey b) : a = b := by
  simp only [lotKey, List.cons.injEq, Sum.inl.injEq, and_true, true_and] at h
  exact h
theorem lot_seen {L : List Int} : ∀ {k : Nat}, k ≤ L.length → ∀ {v : Int}, v ∈ (leastTo L k).map (fun p => atI L p) ↔ v ∈ L.take k
  | 0, _, v => by simp [leastTo]
  | k + 1, hk, v => by
    have ih := lot_seen (L := L) (k := k) (by omega) (v := v)
    have hat : atI L k = L[k] := by
      rw [atI, Int.toNat_natCast, List.getD_eq_getElem?_getD, List.getElem?_eq_getElem (by omega)]; rfl
    rw [leastTo_succ, List.map_append, List.mem_append, ih, List.take_add_one, List.getElem?_eq_getElem (by omega), List.mem_append]
    simp only [Option.toList_some, List.mem_singleton]
    by_cases h : atI L k ∈ L.take k
    · rw [if_neg (by simpa using h)]
      simp only [List.map_nil, List.not_mem_nil, or_false]
      constructor
      · exact .inl
      · rintro (q | q)
        · exact q
        · rw [q, ← hat]; exact h
    · rw [if_pos h]
      simp only [List.map_cons, List.map_nil, List.mem_singleton]
      rw [hat]
theorem calls_keys {L : List Int} : ∀ {k : Nat}, k ≤ L.length → (callsTo L k).map (·.1) = (leastTo L k).map fun p => lotKey (atI L p)
  | 0, _ => by simp [callsTo, leastTo]
  | k + 1, hk => by
    have ih := calls_keys (L := L) (k := k) (by omega)
    have hm : lotKey (atI L k) ∈ (leastTo L k).map (fun p => lotKey (atI L p)) ↔ atI L k ∈ L.take k := by
      rw [← lot_seen (k := k) (by omega)]
      simp only [List.mem_map]
      constructor
      · rintro ⟨p, hp, e⟩; exact ⟨p, hp, lotKey_inj e⟩
      · rintro ⟨p, hp, e⟩; exact ⟨p, hp, by rw [e]⟩
    rw [callsTo_succ, addOne, leastTo_succ, List.map_append]
    by_cases h : atI L k ∈ L.take k
    · rw [setK_in (by rw [ih]; exact hm.mpr h), ih, if_neg (by simpa using h)]; simp
    · rw [setK_out (by rw [ih]; exact fun q => h (hm.mp q)), ih, if_pos h]; simp
theorem calls_len {L : List Int} {k : Nat} (hk : k ≤ L.length) : (callsTo L k).length = (leastTo L k).length := by
  have := congrArg List.length (calls_keys hk)
  rwa [List.length_map, List.length_map] at this

section
variable {L fa : Addr} {cd : Value} {bright d0 d1 Lo : List Int} {S : Int} {Φ : Post}

set_option maxHeartbeats 4000000 in
theorem law_C (m : Md c) (hA : AOk 2 c.A) (hLo : Lo.length = 6)
    (tail : Runs c (envLaw L fa cd) ⟨[("bright", intsD bright), ("deeds", .lst [intsD d0, intsD d1]), ("lots", intsD Lo), ("least", intsD (leastTo Lo 6))], []⟩ ((bodyOf (stm 9)).drop 9) Φ) :
    Runs c (envLaw L fa cd) ⟨[("bright", intsD bright), ("deeds", .lst [intsD d0, intsD d1]), ("lots", intsD Lo)], []⟩ ((bodyOf (stm 9)).drop 6) Φ := by
  have hh := hA.handled
  have hu : c.A.units + 100 < cLine := by have := hA.units; omega
  have hA1 : AOk 1 c.A := ⟨hA.handled, by have := hA.depth; omega, by have := hA.units; omega⟩
  obtain ⟨oA, hoA, hdA⟩ := m.fAdd.obj
  obtain ⟨oC, hoC, hdC⟩ := m.fCnt.obj
  have g := m.g
  refine runs_then (R := fun ρ' => ∃ a1 a2, SubO [("bright", intsD bright), ("deeds", .lst [intsD d0, intsD d1]), ("lots", intsD Lo), ("calls", .own a1), ("least", .own a2)] [(a2, .lst []), (a1, .dct [])] ρ')
    (assign_pair_new hh (evn_dict0 g.stat) (fun a1 => evn_list evl_nil) (.inl (by with_unfolding_all rfl)) (.inr ⟨by with_unfolding_all rfl, _, by with_unfolding_all rfl⟩)
      (fun a1 a2 => ⟨rfl, a1, a2, .cons rfl (.cons rfl (.cons rfl (.cons rfl (.cons rfl .nil))))⟩)) ?_
  rintro ρ1 ⟨a1, a2, S1⟩
  refine Tree.fromO S1 ?_
  refine Tree.freeze (l1 := [(a2, .lst [])]) (l2 := []) (a := a1) (od := .dct []) (x := "calls") rfl ?_
  refine runs_then (R := SubO [("bright", intsD bright), ("deeds", .lst [intsD d0, intsD d1]), ("lots", intsD Lo), ("calls", .dct c.H (callsTo Lo 6)), ("least", .own a2)] [(a2, .lst ((leastTo Lo 6).map .int))])
    (exec_for (ds := rangeD 6) (Inv := fun i ρ' => SubO [("bright", intsD bright), ("deeds", .lst [intsD d0, intsD d1]), ("lots", intsD Lo), ("calls", .dct c.H (callsTo Lo i)), ("least", .own a2)] [(a2, .lst ((leastTo Lo i).map .int))] ρ')
      (it_range (k := 6) hh g.range ev_int (by omega) (by omega) (by with_unfolding_all rfl)) (.inl (by with_unfolding_all rfl)) (.cons rfl (.cons rfl (.cons rfl (.cons rfl (.cons rfl .nil))))) ?_ ?_) fun ρ2 S2 => ?_
  · intro i d ρ' hd SS
    obtain ⟨hi, rfl⟩ := get_rangeD hd
    have li : (Lo.map D.int)[((i : Int)).toNat]? = some (.int (atI Lo i)) := item_int (by omega) (by omega)
    have hll : (leastTo Lo i).length ≤ 6 := Nat.le_trans (leastTo_len Lo i) (by omega)
    have S' : SubO [("place", .int i), ("bright", intsD bright), ("deeds", .lst [intsD d0, intsD d1]), ("lots", intsD Lo), ("calls", .dct c.H (callsTo Lo i)), ("least", .own a2)] [(a2, .lst ((leastTo Lo i).map .int))] (ρ'.set "place" (.int i)) :=
      .cons (by rw [St.set, lookup_upd, if_pos rfl]) (SS.set (by simp))
    refine Tree.fromO S' ?_
    refine runs_then (R := SubO [("place", .int i), ("bright", intsD bright), ("deeds", .lst [intsD d0, intsD d1]), ("lots", intsD Lo), ("calls", .dct c.H (callsTo Lo (i + 1))), ("least", .own a2)] [(a2, .lst ((leastTo Lo i).map .int))])
      (assign_name (ev_call m.nAdd hoA hdA (evl_cons (ev_name rfl) (evl_cons (ev_new (evn_dict1 (k := lotKey (atI Lo i)) (i := 1) g.stat hu
          (ev_tup (evl_cons ev_str (evl_cons (ev_item (ev_name rfl) (ev_name rfl) (by omega) (by omega) li (by intro _ _; with_unfolding_all rfl)) (evl_cons ev_str evl_nil))) (by simp [keyDs, lotKey, sizeLine])) ev_int)) evl_nil))
          (add_op m hA1 (calls_nodup Lo i) (by rw [calls_len (by omega)]; omega)) (by with_unfolding_all rfl))
        (.inl (by with_unfolding_all rfl)) ⟨rfl, by rw [← callsTo_succ]; exact .cons rfl (.cons rfl (.cons rfl (.cons rfl (.cons rfl (.cons rfl .nil)))))⟩) fun ρ3 S3 => ?_
    refine Tree.fromO S3 ?_
    have hcut : cut (Lo.map D.int) none (some (i : Int)) = (Lo.take i).map D.int := by
      rw [cut_map]
      have : clipAt Lo.length i = i := by unfold clipAt; rw [if_neg (by omega)]; omega
      show ((Lo.drop 0).take (clipAt Lo.length i - 0)).map _ = _
      rw [this]; rfl
    refine runs_then (R := SubO [("bright", intsD bright), ("deeds", .lst [intsD d0, intsD d1]), ("lots", intsD Lo), ("calls", .dct c.H (callsTo Lo (i + 1))), ("least", .own a2)] [(a2, .lst ((leastTo Lo (i + 1)).map .int))])
      (exec_if (bt := decide (atI Lo i ∉ Lo.take i)) ?_ (fun h => ?_) fun h => ?_) fun ρ4 S4 => runs_nil S4
    · exact Tests.to (t_cmp (ev_item (ev_name rfl) (ev_name rfl) (by omega) (by omega) li (by intro _ _; with_unfolding_all rfl)) (Evals.to (ev_slice (ev_name rfl) ep_none (ep_some (ev_name rfl)) (by rw [List.length_map]; omega)) (by rw [hcut]))
        (o_notin 5 rfl (lvl_ints 4 _) (by decide) hu) (by with_unfolding_all rfl)) (by rw [any_ints]; simp)
    · have h' := of_decide_eq_true h
      refine runs_then (R := SubO [("bright", intsD bright), ("deeds", .lst [intsD d0, intsD d1]), ("lots", intsD Lo), ("calls", .dct c.H (callsTo Lo (i + 1))), ("least", .own a2)] [(a2, .lst ((leastTo Lo (i + 1)).map .int))])
        (exec_insort (l1 := []) (l2 := []) (a := a2) (x := "least") (l := leastTo Lo i) (v := (i : Int)) (r := (leastTo Lo i).length) m hA rfl (ev_name rfl) (Nat.le_refl _) (by omega)
          (fun j hj => ⟨fun _ => hj, fun _ => (leastTo_lt (List.getElem_mem hj)).2⟩) ⟨rfl, ?_⟩ (by with_unfolding_all rfl)) fun ρ5 S5 => runs_nil ⟨rfl, S5⟩
      rw [leastTo_succ, if_pos h', List.take_length, List.drop_length]
      exact .cons rfl (.cons rfl (.cons rfl (.cons rfl (.cons rfl .nil))))
    · have h' := of_decide_eq_false h
      rw [leastTo_succ, if_neg h', List.append_nil]
      exact runs_nil ⟨rfl, .cons rfl (.cons rfl (.cons rfl (.cons rfl (.cons rfl .nil))))⟩
  · intro ρ' SS
    exact ⟨rfl, SS⟩
  refine Tree.fromO S2 ?_
  refine Tree.freeze (l1 := []) (l2 := []) (a := a2) (od := .lst ((leastTo Lo 6).map .int)) (x := "least") rfl ?_
  have hll : (leastTo Lo 6).length ≤ 6 := leastTo_len Lo 6
  refine runs_then (R := Sub [("bright", intsD bright), ("deeds", .lst [intsD d0, intsD d1]), ("lots", intsD Lo), ("least", intsD (leastTo Lo 6))])
    (exec_if (bt := false) ?_ (fun h => (by cases h)) fun _ => runs_nil ⟨rfl, .cons rfl (.cons rfl (.cons rfl (.cons rfl .nil)))⟩) fun ρ3 S3 => Tree.from S3 tail
  refine Tests.to (t_or_cons (b := false) (b' := false) (Tests.to (t_cmp (ev_call m.nCnt hoC hdC (evl_cons (ev_name rfl) evl_nil) (cnt_op m hA1 (by rw [calls_len (by omega)]; omega)) (by with_unfolding_all rfl)) ev_int o_ne (by with_unfolding_all rfl)) (by rw [calls_sum]; rfl)) fun _ => ?_) rfl
  refine Tests.to (t_or_cons (b := false) (b' := false) (Tests.to (t_cmp (ev_name rfl) (ev_sorted (ns := leastTo Lo 6) g.sorted (ev_name rfl) (by omega) ((leastTo_sorted Lo 6).imp fun h => Int.le_of_lt h) (by with_unfolding_all rfl)) (o_ned 5 (lvl_ints 4 _) (lvl_ints 4 _) (by decide) hu) (by with_unfolding_all rfl)) ?_) fun _ => ?_) rfl
  · have : ∀ l : List Int, eqb (intsD l) (intsD l) = true := by
      intro l
      simp only [eqb, intsD, D.py]
      induction l with
      | nil => rfl
      | cons a l ih => simpa [D.pys, D.py, PyData.eqv, PyData.eqvAll] using ih
    show (!eqb (intsD _) (intsD _)) = false
    rw [this]; rfl
  · refine Tests.to (t_or_cons (b := false) (b' := false) (Tests.to (t_cmp (ev_lend g.len (ev_name rfl) (by rw [calls_len (by omega)]; omega) (by with_unfolding_all rfl)) (ev_len g.len (ev_name rfl) (by rw [List.length_map]; omega) (by with_unfolding_all rfl)) o_ne (by with_unfolding_all rfl)) ?_) fun _ => t_or_nil) rfl
    rw [calls_len (by omega), List.length_map]
    simp
end
end

section 
open PySem PySem.W PyProof.Rows
set_option linter.unusedVariables false
set_option maxRecDepth 100000

variable {c : Cx} {env : Env} {ρ : St}

def unints : D → List Int
  | .lst ds => ds.map fun | .int i => i | _ => 0
  | _ => []
theorem unints_ints (l : List Int) : unints (intsD l) = l := by
  show (l.map D.int).map _ = l
  rw [List.map_map]
  conv => rhs; rw [← List.map_id l]
  rfl
theorem lotsRun_len {n : Nat} {d0 d1 : List Int} : ∀ (k : Nat) (lots : List Int) (s : Int), lots.length = n → (lotsRun n d0 d1 k lots s).1.length = n
  | 0, lots, s, h => h
  | k + 1, lots, s, h => by
    rw [lotsRun]
    split
    · rw [length_afterOf, length_rowsOf]
    · exact lotsRun_len k _ _ (by rw [length_afterOf, length_rowsOf])

def bisF (Lo least d : List Int) : D → D
  | .int p => .int (cntLt least (rep Lo (atI d p)))
  | _ => .none
theorem small_made (Lo least d : List Int) : ((least.map D.int).filter fun _ => true).map (bisF Lo least d) = (smallOf Lo least d).map D.int := by
  rw [filt, List.map_map, smallOf, List.map_map]
  rfl
def litF (bright : List Int) : D → D
  | .int p => .int (atI bright p)
  | _ => .none
theorem lights_made (bright least : List Int) : ((least.map D.int).filter fun _ => true).map (litF bright) = (lightsOf bright least).map D.int := by
  rw [filt, List.map_map, lightsOf, List.map_map]
  rfl

theorem deed_at {n : Nat} {d : List Int} (h : Deed n d) {p : Int} (h0 : 0 ≤ p) (h1 : p < n) : 0 ≤ atI d p ∧ atI d p < n := h.2 _ (atI_mem h0 (by rw [h.1]; exact h1))
theorem rep_eq_idx {Lo : List Int} {p : Int} : Int.ofNat (idx (.int (atI Lo p)) (Lo.map D.int)) = rep Lo p := by rw [idx_ints]; rfl
theorem idx_lt {Lo : List Int} {p : Int} (h0 : 0 ≤ p) (h1 : p < Lo.length) : idx (.int (atI Lo p)) (Lo.map D.int) < (Lo.map D.int).length := by
  rw [idx_ints, List.length_map]
  exact List.idxOf_lt_length_iff.mpr (atI_mem h0 h1)

/-- bisect_left(least, lots.index(lots[e])) -/
theorem ev_bis {env : Env} {ρ : St} {Lo least : List Int} {p : Int} {np lp p2 p3 p4 p5 p6 p7 : Pos} {e : Expr} (m : Md c) (hA : AOk 2 c.A) (hLo : Lo.length ≤ 2 ^ 9) (hs : least.Pairwise (· < ·)) (hl : least.length ≤ 2 ^ 9)
    (h0 : 0 ≤ p) (h1 : p < Lo.length) (hlots : ρ.vars.lookup "lots" = some (intsD Lo)) (hleast : ρ.vars.lookup "least" = some (intsD least)) (he : Evals c env ρ e (.int p)) (hx : env.kindOf ("bisect_left" : Str) = some .globalImplicit)
    (hsub : ∀ o i, subscripted e false o i = operate [o, i] (getItem o i) := by intro _ _; with_unfolding_all rfl)
    (hbase : attributeBase (.Name (Str.ofString "lots") p2) ("index" : Str) env (eval (.Name (Str.ofString "lots") p2) env) = eval (.Name (Str.ofString "lots") p2) env := by with_unfolding_all rfl) (hline : (p3.endLine == p6.line) = true := by with_unfolding_all rfl) :
    Evals c env ρ (.Call (.Name ("bisect_left" : Str) np) [.Name (Str.ofString "least") lp, .Call (.Attribute (.Name (Str.ofString "lots") p2) ("index" : Str) p3) [.Subscript (.Name (Str.ofString "lots") p4) e p5] [] p6] [] p7) (.int (cntLt least (rep Lo p))) := by
  obtain ⟨oB, hoB, hdB⟩ := m.fBis.obj
  have hu : c.A.units + 100 < cLine := by have := hA.units; omega
  have hA1 : AOk 1 c.A := ⟨hA.handled, by have := hA.depth; omega, by have := hA.units; omega⟩
  refine ev_call m.nBis hoB hdB (evl_cons (ev_name hleast) (evl_cons (Evals.to (ev_index 5 (ev_name hlots) (ev_item (ev_name hlots) he h0 (by omega) (item_int h0 h1) hsub) rfl (lvl_ints 4 _) (by decide) hu (idx_lt h0 h1) (by rw [List.length_map]; omega) hbase hline) ?_) evl_nil))
    (bis_op2 m hA1 (cntLt_le _ _) hl (cntLt_cut hs)) hx
  exact congrArg D.int rep_eq_idx

section
variable {L fa : Addr} {cd : Value} {bright d0 d1 Lo : List Int} {S : Int} {Φ : Post}

theorem small_deed (hLo : Lo.length = 6) {d : List Int} (hd : Deed 6 d) : Deed (leastTo Lo 6).length (smallOf Lo (leastTo Lo 6) d) := by
  refine ⟨by simp [smallOf], fun x hx => ?_⟩
  obtain ⟨p, hp, rfl⟩ := List.mem_map.mp hx
  obtain ⟨h0, h1⟩ := leastTo_lt hp
  obtain ⟨h2, h3⟩ := deed_at hd h0 h1
  have hm := (idxOf_firsts (L := Lo) (p := (atI d p).toNat) (by omega)).1
  rw [show ((atI d p).toNat : Int) = atI d p by omega] at hm
  rw [hLo] at hm
  obtain ⟨hc, _⟩ := cntLt_mem (leastTo_sorted Lo 6) hm
  refine ⟨by show (0 : Int) ≤ Int.ofNat _; exact Int.natCast_nonneg _, ?_⟩
  show ((cntLt _ _ : Nat) : Int) < _
  omega

set_option maxHeartbeats 4000000 in
theorem law_D (m : Md c) (hA : AOk 2 c.A) (h0 : Deed 6 d0) (h1 : Deed 6 d1) (hb : bright.length = 6) (hLo : Lo.length = 6) (P : PL bright d0 d1 Lo S)
    (tail : Runs c (envLaw L fa cd) ⟨[("bright", intsD bright), ("deeds", .lst [intsD d0, intsD d1]), ("lots", intsD Lo), ("least", intsD (leastTo Lo 6)), ("small", .lst [intsD (smallOf Lo (leastTo Lo 6) d0), intsD (smallOf Lo (leastTo Lo 6) d1)]), ("lights", intsD (lightsOf bright (leastTo Lo 6)))], []⟩ ((bodyOf (stm 9)).drop 13) Φ) :
    Runs c (envLaw L fa cd) ⟨[("bright", intsD bright), ("deeds", .lst [intsD d0, intsD d1]), ("lots", intsD Lo), ("least", intsD (leastTo Lo 6))], []⟩ ((bodyOf (stm 9)).drop 9) Φ := by
  have hh := hA.handled
  have hu : c.A.units + 100 < cLine := by have := hA.units; omega
  have hA1 : AOk 1 c.A := ⟨hA.handled, by have := hA.depth; omega, by have := hA.units; omega⟩
  obtain ⟨oL, hoL, hdL⟩ := m.fLots.obj
  have g := m.g
  have hll : (leastTo Lo 6).length ≤ 6 := leastTo_len Lo 6
  have hsrt := leastTo_sorted Lo 6
  have hin : ∀ p ∈ leastTo Lo 6, 0 ≤ p ∧ p < (6 : Nat) := fun p hp => leastTo_lt hp
  have hs0 := small_deed hLo h0
  have hs1 := small_deed hLo h1
  have hag := P.again
  generalize leastTo Lo 6 = least at *
  have hdm : ([intsD d0, intsD d1].filter fun _ => true).map (fun d => intsD (smallOf Lo least (unints d))) = [intsD (smallOf Lo least d0), intsD (smallOf Lo least d1)] := by
    rw [filt]
    simp only [List.map_cons, List.map_nil, unints_ints]
  -- small
  refine runs_then (R := Sub [("bright", intsD bright), ("deeds", .lst [intsD d0, intsD d1]), ("lots", intsD Lo), ("least", intsD least), ("small", .lst [intsD (smallOf Lo least d0), intsD (smallOf Lo least d1)])])
    (assign_listcomp (ds := [intsD d0, intsD d1]) (p := fun _ => true) (f := fun d => intsD (smallOf Lo least (unints d))) (ρc := [("least", intsD least), ("lots", intsD Lo)])
      (it_list hh (ev_name rfl) (by simp [sizeLine]))
      (CompOk.make (by with_unfolding_all rfl) rfl (by decide) (.cons (by with_unfolding_all rfl) (.cons (by with_unfolding_all rfl) .nil)) (by with_unfolding_all rfl) (.inr ⟨by with_unfolding_all rfl, by with_unfolding_all rfl⟩)
        (.cons (by decide) rfl (.inl (by with_unfolding_all rfl)) (by with_unfolding_all rfl) (by with_unfolding_all rfl) (.inl (by with_unfolding_all rfl)) (.cons (by decide) rfl (.inl (by with_unfolding_all rfl)) (by with_unfolding_all rfl) (by with_unfolding_all rfl) (.inl (by with_unfolding_all rfl)) .nil)))
      (by simp [sizeLine]) (fun C d hd => ta_nil) (fun C d hd _ => ?_)
      (.inl (by with_unfolding_all rfl)) ⟨rfl, by rw [hdm]; exact .cons rfl (.cons rfl (.cons rfl (.cons rfl (.cons rfl .nil))))⟩) fun ρ1 S1 => ?_
  · obtain ⟨dl, hdl, rfl⟩ : ∃ dl, Deed 6 dl ∧ d = intsD dl := by
      simp only [List.mem_cons, List.not_mem_nil, or_false] at hd
      rcases hd with rfl | rfl
      · exact ⟨d0, h0, rfl⟩
      · exact ⟨d1, h1, rfl⟩
    rw [unints_ints]
    refine Evals.to (ev_listcomp (ds := least.map D.int) (p := fun _ => true) (f := bisF Lo least dl) (ρc := [("deed", intsD dl), ("least", intsD least), ("lots", intsD Lo)])
      (it_list hh (ev_name rfl) (by rw [List.length_map]; exact Nat.le_trans hll (by decide)))
      (CompOk.make (by with_unfolding_all rfl) rfl (by decide) (.cons (by with_unfolding_all rfl) (.cons (by with_unfolding_all rfl) (.cons (by with_unfolding_all rfl) .nil))) (by with_unfolding_all rfl) (.inl (by with_unfolding_all rfl))
        (.cons (by decide) rfl (.inl (by with_unfolding_all rfl)) (by with_unfolding_all rfl) (by with_unfolding_all rfl) (.inl (by with_unfolding_all rfl)) (.cons (by decide) rfl (.inl (by with_unfolding_all rfl)) (by with_unfolding_all rfl) (by with_unfolding_all rfl) (.inl (by with_unfolding_all rfl)) (.cons (by decide) rfl (.inl (by with_unfolding_all rfl)) (by with_unfolding_all rfl) (by with_unfolding_all rfl) (.inl (by with_unfolding_all rfl)) .nil))))
      (by rw [List.length_map]; exact Nat.le_trans hll (by decide)) (fun C' d' hd' => ta_nil) (fun C' d' hd' _ => ?_)) (by rw [small_made]; rfl)
    obtain ⟨p, hp, rfl⟩ := List.mem_map.mp hd'
    obtain ⟨hp0, hp1⟩ := hin p hp
    obtain ⟨hq0, hq1⟩ := deed_at hdl hp0 hp1
    exact ev_bis m hA (by omega) hsrt (by omega) hq0 (by omega) rfl rfl (ev_item (ev_name rfl) (ev_name rfl) hp0 (by omega) (item_int hp0 (by rw [hdl.1]; exact hp1)) (by intro _ _; with_unfolding_all rfl)) (by with_unfolding_all rfl)
      (by intro _ _; with_unfolding_all rfl) (by with_unfolding_all rfl) (by with_unfolding_all rfl)
  refine Tree.from S1 ?_
  -- lights
  refine runs_then (R := Sub [("bright", intsD bright), ("deeds", .lst [intsD d0, intsD d1]), ("lots", intsD Lo), ("least", intsD least), ("small", .lst [intsD (smallOf Lo least d0), intsD (smallOf Lo least d1)]), ("lights", intsD (lightsOf bright least))])
    (assign_listcomp (ds := least.map D.int) (p := fun _ => true) (f := litF bright) (ρc := [("bright", intsD bright)])
      (it_list hh (ev_name rfl) (by rw [List.length_map]; exact Nat.le_trans hll (by decide)))
      (CompOk.make (by with_unfolding_all rfl) rfl (by decide) (.cons (by with_unfolding_all rfl) .nil) (by with_unfolding_all rfl) (.inl (by with_unfolding_all rfl))
        (.cons (by decide) rfl (.inl (by with_unfolding_all rfl)) (by with_unfolding_all rfl) (by with_unfolding_all rfl) (.inl (by with_unfolding_all rfl)) .nil))
      (by rw [List.length_map]; exact Nat.le_trans hll (by decide)) (fun C d hd => ta_nil) (fun C d hd _ => by
        obtain ⟨p, hp, rfl⟩ := List.mem_map.mp hd
        obtain ⟨hp0, hp1⟩ := hin p hp
        exact ev_item (ev_name rfl) (ev_name rfl) hp0 (by omega) (item_int hp0 (by rw [hb]; exact hp1)) (by intro _ _; with_unfolding_all rfl))
      (.inl (by with_unfolding_all rfl)) ⟨rfl, by rw [lights_made]; exact .cons rfl (.cons rfl (.cons rfl (.cons rfl (.cons rfl (.cons rfl .nil)))))⟩) fun ρ2 S2 => ?_
  refine Tree.from S2 ?_
  -- again
  have hlen : (lightsOf bright least).length = least.length := by simp [lightsOf]
  have hal := lotsRun_len (n := least.length) (d0 := smallOf Lo least d0) (d1 := smallOf Lo least d1) least.length (lightsOf bright least) 0 hlen
  refine runs_then (R := Sub [("bright", intsD bright), ("deeds", .lst [intsD d0, intsD d1]), ("lots", intsD Lo), ("least", intsD least), ("small", .lst [intsD (smallOf Lo least d0), intsD (smallOf Lo least d1)]), ("lights", intsD (lightsOf bright least)), ("again", intsD (lotsRun least.length (smallOf Lo least d0) (smallOf Lo least d1) least.length (lightsOf bright least) 0).1)])
    (assign_name (ev_titem (ev_call m.nLots hoL hdL (evl_cons (ev_name rfl) (evl_cons (ev_name rfl) (evl_cons (Evals.to (ev_len g.len (ev_name rfl) (by rw [List.length_map]; omega) (by with_unfolding_all rfl)) (by rw [List.length_map])) evl_nil)))
        (lots_op (n := least.length) m hA1 (by omega) hs0 hs1 hlen) (by with_unfolding_all rfl)) ev_int (by decide) (by decide) rfl (by intro _ _; with_unfolding_all rfl))
      (.inl (by with_unfolding_all rfl)) ⟨rfl, .cons rfl (.cons rfl (.cons rfl (.cons rfl (.cons rfl (.cons rfl (.cons rfl .nil))))))⟩) fun ρ3 S3 => ?_
  refine Tree.from S3 ?_
  generalize (lotsRun least.length (smallOf Lo least d0) (smallOf Lo least d1) least.length (lightsOf bright least) 0).1 = again at *
  refine runs_then (R := Sub [("bright", intsD bright), ("deeds", .lst [intsD d0, intsD d1]), ("lots", intsD Lo), ("least", intsD least), ("small", .lst [intsD (smallOf Lo least d0), intsD (smallOf Lo least d1)]), ("lights", intsD (lightsOf bright least))])
    (exec_if (bt := false) (Tests.to (t_cmp
      (ev_lendict (ks := again) g.len g.dict hh g.stat (Evals.to (ev_listcomp (ds := again.map D.int) (p := fun _ => true) (f := pairF) (ρc := []) (it_list hh (ev_name rfl) (by rw [List.length_map, hal]; exact Nat.le_trans hll (by decide)))
              (CompOk.make (by with_unfolding_all rfl) rfl (by decide) .nil (by with_unfolding_all rfl) (.inl (by with_unfolding_all rfl)) .nil)
              (by rw [List.length_map, hal]; exact Nat.le_trans hll (by decide)) (fun C d hd => ta_nil) (fun C d hd _ => by
                obtain ⟨k, hk, rfl⟩ := List.mem_map.mp hd
                exact ev_tup (evl_cons (ev_name rfl) (evl_cons ev_int evl_nil)))) (by rw [pairs_made])) (by rw [hal]; omega) (by with_unfolding_all rfl) (by with_unfolding_all rfl))
      (Evals.to (ev_len g.len (ev_name rfl) (by rw [List.length_map]; omega) (by with_unfolding_all rfl)) (by rw [List.length_map])) o_ne (by with_unfolding_all rfl)) (by rw [firsts_eq, hag]; simp)) (fun h => (by cases h))
      fun _ => runs_nil ⟨rfl, .cons rfl (.cons rfl (.cons rfl (.cons rfl (.cons rfl (.cons rfl .nil)))))⟩) fun ρ4 S4 => Tree.from S4 tail
end
end

section 
open PySem PySem.W PyProof.Rows
set_option linter.unusedVariables false
set_option maxRecDepth 100000

variable {c : Cx} {env : Env} {ρ : St}

def negF : D → D
  | .int i => .int (1 - i)
  | _ => .none
theorem neg_made (l : List Int) : ((l.map D.int).filter fun _ => true).map negF = (l.map fun x => 1 - x).map D.int := by
  rw [filt, List.map_map, List.map_map]
  rfl

section
variable {L fa : Addr} {cd : Value} {bright d0 d1 Lo : List Int} {S : Int} {Φ : Post}

set_option maxHeartbeats 4000000 in
theorem law_E1 (m : Md c) (hA : AOk 2 c.A) (h0 : Deed 6 d0) (h1 : Deed 6 d1) (hb : bright.length = 6) (hLo : Lo.length = 6) (P : PL bright d0 d1 Lo S)
    (tail : Runs c (envLaw L fa cd) ⟨[("bright", intsD bright), ("deeds", .lst [intsD d0, intsD d1]), ("lots", intsD Lo)], []⟩ ((bodyOf (stm 9)).drop 14) Φ) :
    Runs c (envLaw L fa cd) ⟨[("bright", intsD bright), ("deeds", .lst [intsD d0, intsD d1]), ("lots", intsD Lo), ("least", intsD (leastTo Lo 6)), ("small", .lst [intsD (smallOf Lo (leastTo Lo 6) d0), intsD (smallOf Lo (leastTo Lo 6) d1)]), ("lights", intsD (lightsOf bright (leastTo Lo 6)))], []⟩ ((bodyOf (stm 9)).drop 13) Φ := by
  have hh := hA.handled
  have hu : c.A.units + 100 < cLine := by have := hA.units; omega
  have g := m.g
  have hll : (leastTo Lo 6).length ≤ 6 := leastTo_len Lo 6
  have hsrt := leastTo_sorted Lo 6
  have hrep : ∀ p : Nat, p < 6 → rep Lo p ∈ leastTo Lo 6 := fun p hp => by
    have := (idxOf_firsts (L := Lo) (p := p) (by omega)).1
    rwa [hLo] at this
  generalize leastTo Lo 6 = least at *
  refine runs_then (R := Sub [("bright", intsD bright), ("deeds", .lst [intsD d0, intsD d1]), ("lots", intsD Lo)])
    (exec_for (ds := rangeD 6) (Inv := fun i ρ' => Sub [("bright", intsD bright), ("deeds", .lst [intsD d0, intsD d1]), ("lots", intsD Lo), ("least", intsD least), ("small", .lst [intsD (smallOf Lo least d0), intsD (smallOf Lo least d1)]), ("lights", intsD (lightsOf bright least))] ρ')
      (it_range (k := 6) hh g.range ev_int (by omega) (by omega) (by with_unfolding_all rfl)) (.inl (by with_unfolding_all rfl)) (.cons rfl (.cons rfl (.cons rfl (.cons rfl (.cons rfl (.cons rfl .nil)))))) ?_ ?_) fun ρ2 S2 => Tree.from S2 tail
  · intro i d ρ' hd SS
    obtain ⟨hi, rfl⟩ := get_rangeD hd
    have S' : Sub [("place", .int i), ("bright", intsD bright), ("deeds", .lst [intsD d0, intsD d1]), ("lots", intsD Lo), ("least", intsD least), ("small", .lst [intsD (smallOf Lo least d0), intsD (smallOf Lo least d1)]), ("lights", intsD (lightsOf bright least))] (ρ'.set "place" (.int i)) := .cons (by rw [St.set, lookup_upd, if_pos rfl]) (SS.set (by simp))
    refine Tree.from S' ?_
    have hm := hrep i hi
    obtain ⟨hT, hTe⟩ := cntLt_mem hsrt hm
    have hlt2 : i < Lo.length := by omega
    have li : (Lo.map D.int)[((i : Int)).toNat]? = some (.int (atI Lo i)) := item_int (by omega) (by omega)
    have bi : (bright.map D.int)[((i : Int)).toNat]? = some (.int (atI bright i)) := item_int (by omega) (by omega)
    refine runs_then (R := Sub [("there", .int (cntLt least (rep Lo i))), ("place", .int i), ("bright", intsD bright), ("deeds", .lst [intsD d0, intsD d1]), ("lots", intsD Lo), ("least", intsD least), ("small", .lst [intsD (smallOf Lo least d0), intsD (smallOf Lo least d1)]), ("lights", intsD (lightsOf bright least))])
      (assign_name (ev_bis m hA (by omega) hsrt (by omega) (p := (i : Int)) (by omega) (by omega) rfl rfl (ev_name rfl) (by with_unfolding_all rfl) (by intro _ _; with_unfolding_all rfl) (by with_unfolding_all rfl) (by with_unfolding_all rfl))
        (.inl (by with_unfolding_all rfl)) ⟨rfl, .cons rfl (.cons rfl (.cons rfl (.cons rfl (.cons rfl (.cons rfl (.cons rfl (.cons rfl .nil)))))))⟩) fun ρ3 S3 => ?_
    refine Tree.from S3 ?_
    generalize hTT : cntLt least (rep Lo i) = T at *
    have leT : (least.map D.int)[((T : Int)).toNat]? = some (.int (rep Lo i)) := by
      rw [Int.toNat_natCast, List.getElem?_map, List.getElem?_eq_getElem hT, hTe]; rfl
    have ltT : ((lightsOf bright least).map D.int)[((T : Int)).toNat]? = some (.int (atI bright i)) := by
      rw [Int.toNat_natCast, List.getElem?_map, lightsOf, List.getElem?_map, List.getElem?_eq_getElem hT, hTe, ← P.light i hi]; rfl
    refine runs_then (R := Sub [("there", .int T), ("place", .int i), ("bright", intsD bright), ("deeds", .lst [intsD d0, intsD d1]), ("lots", intsD Lo), ("least", intsD least), ("small", .lst [intsD (smallOf Lo least d0), intsD (smallOf Lo least d1)]), ("lights", intsD (lightsOf bright least))])
      (exec_if (bt := false) ?_ (fun h => (by cases h)) fun _ => runs_nil ⟨rfl, .cons rfl (.cons rfl (.cons rfl (.cons rfl (.cons rfl (.cons rfl (.cons rfl (.cons rfl .nil)))))))⟩) fun ρ4 S4 => ?_
    · refine Tests.to (t_or_cons (b := false) (b' := false) (Tests.to (t_cmp (ev_name rfl) (ev_len g.len (ev_name rfl) (by rw [List.length_map]; omega) (by with_unfolding_all rfl)) o_eq (by with_unfolding_all rfl)) (by rw [List.length_map, beq_eq_false_iff_ne]; omega)) fun _ => ?_) rfl
      refine Tests.to (t_or_cons (b := false) (b' := false) (Tests.to (t_cmp (ev_item (ev_name rfl) (ev_name rfl) (by omega) (by omega) leT (by intro _ _; with_unfolding_all rfl))
        (Evals.to (ev_index 5 (ev_name rfl) (ev_item (ev_name rfl) (ev_name rfl) (by omega) (by omega) li (by intro _ _; with_unfolding_all rfl)) rfl (lvl_ints 4 _) (by decide) hu (idx_lt (by omega) (by omega)) (by rw [List.length_map]; omega) (by with_unfolding_all rfl) (by with_unfolding_all rfl) (by with_unfolding_all rfl)) (congrArg D.int rep_eq_idx))
        o_ne (by with_unfolding_all rfl)) (by simp)) fun _ => ?_) rfl
      exact Tests.to (t_or_cons (b := false) (b' := false) (Tests.to (t_cmp (ev_item (ev_name rfl) (ev_name rfl) (by omega) (by omega) ltT (by intro _ _; with_unfolding_all rfl)) (ev_item (ev_name rfl) (ev_name rfl) (by omega) (by omega) bi (by intro _ _; with_unfolding_all rfl)) o_ne (by with_unfolding_all rfl)) (by simp)) fun _ => t_or_nil) rfl
    refine Tree.from S4 ?_
    refine runs_then (R := Sub [("bright", intsD bright), ("deeds", .lst [intsD d0, intsD d1]), ("lots", intsD Lo), ("least", intsD least), ("small", .lst [intsD (smallOf Lo least d0), intsD (smallOf Lo least d1)]), ("lights", intsD (lightsOf bright least))])
      (exec_for (ds := rangeD 2) (Inv := fun k ρ' => Sub [("there", .int T), ("place", .int i), ("bright", intsD bright), ("deeds", .lst [intsD d0, intsD d1]), ("lots", intsD Lo), ("least", intsD least), ("small", .lst [intsD (smallOf Lo least d0), intsD (smallOf Lo least d1)]), ("lights", intsD (lightsOf bright least))] ρ')
        (it_range (k := 2) hh g.range ev_int (by omega) (by omega) (by with_unfolding_all rfl)) (.inl (by with_unfolding_all rfl)) (.cons rfl (.cons rfl (.cons rfl (.cons rfl (.cons rfl (.cons rfl (.cons rfl (.cons rfl .nil)))))))) ?_ ?_) fun ρ5 S5 => runs_nil S5
    · intro k dk ρ5 hk S5
      obtain ⟨hk', rfl⟩ := get_rangeD hk
      obtain ⟨dd, hdd, e1, e2, e3⟩ : ∃ dd, Deed 6 dd ∧ [intsD d0, intsD d1][((k : Int)).toNat]? = some (intsD dd) ∧ [intsD (smallOf Lo least d0), intsD (smallOf Lo least d1)][((k : Int)).toNat]? = some (intsD (smallOf Lo least dd)) ∧ rep Lo (atI dd (rep Lo i)) = rep Lo (atI dd i) := by
        match k, hk' with
        | 0, _ => exact ⟨d0, h0, rfl, rfl, P.deed0 i hi⟩
        | 1, _ => exact ⟨d1, h1, rfl, rfl, P.deed1 i hi⟩
      have hq := deed_at hdd (p := (i : Int)) (by omega) (by omega)
      have sT : ((smallOf Lo least dd).map D.int)[((T : Int)).toNat]? = some (.int (cntLt least (rep Lo (atI dd i)))) := by
        rw [Int.toNat_natCast, List.getElem?_map, smallOf, List.getElem?_map, List.getElem?_eq_getElem hT, hTe, ← e3]; rfl
      have di : (dd.map D.int)[((i : Int)).toNat]? = some (.int (atI dd i)) := item_int (by omega) (by rw [hdd.1]; omega)
      have S5' : Sub [("k", .int k), ("there", .int T), ("place", .int i), ("bright", intsD bright), ("deeds", .lst [intsD d0, intsD d1]), ("lots", intsD Lo), ("least", intsD least), ("small", .lst [intsD (smallOf Lo least d0), intsD (smallOf Lo least d1)]), ("lights", intsD (lightsOf bright least))] (ρ5.set "k" (.int k)) := .cons (by rw [St.set, lookup_upd, if_pos rfl]) (S5.set (by simp))
      refine Tree.from S5' ?_
      refine runs_then (R := Sub [("there", .int T), ("place", .int i), ("bright", intsD bright), ("deeds", .lst [intsD d0, intsD d1]), ("lots", intsD Lo), ("least", intsD least), ("small", .lst [intsD (smallOf Lo least d0), intsD (smallOf Lo least d1)]), ("lights", intsD (lightsOf bright least))])
        (exec_if (bt := false) (Tests.to (t_cmp (ev_item (ev_item (ev_name rfl) (ev_name rfl) (by omega) (by omega) e2 (by intro _ _; with_unfolding_all rfl)) (ev_name rfl) (by omega) (by omega) sT (by intro _ _; with_unfolding_all rfl))
          (ev_bis m hA (by omega) hsrt (by omega) (p := atI dd i) hq.1 (by omega) rfl rfl (ev_item (ev_item (ev_name rfl) (ev_name rfl) (by omega) (by omega) e1 (by intro _ _; with_unfolding_all rfl)) (ev_name rfl) (by omega) (by omega) di (by intro _ _; with_unfolding_all rfl))
            (by with_unfolding_all rfl) (by intro _ _; with_unfolding_all rfl) (by with_unfolding_all rfl) (by with_unfolding_all rfl)) o_ne (by with_unfolding_all rfl)) (by simp)) (fun h => (by cases h))
          fun _ => runs_nil ⟨rfl, .cons rfl (.cons rfl (.cons rfl (.cons rfl (.cons rfl (.cons rfl (.cons rfl (.cons rfl .nil)))))))⟩) fun ρ6 S6 => runs_nil S6
    · intro ρ5 S5
      exact ⟨rfl, fun p hp => S5.1 p (List.mem_cons_of_mem _ (List.mem_cons_of_mem _ hp)), S5.2⟩
  · intro ρ' SS
    exact ⟨rfl, fun p hp => SS.1 p (by simp at hp ⊢; rcases hp with rfl | rfl | rfl <;> simp), SS.2⟩

set_option maxHeartbeats 4000000 in
theorem law_E2 (m : Md c) (hA : AOk 2 c.A) (h0 : Deed 6 d0) (h1 : Deed 6 d1) (hb : bright.length = 6) (hLo : Lo.length = 6) (P : PL bright d0 d1 Lo S) :
    Runs c (envLaw L fa cd) ⟨[("bright", intsD bright), ("deeds", .lst [intsD d0, intsD d1]), ("lots", intsD Lo)], []⟩ ((bodyOf (stm 9)).drop 14) (Ends (.bool true)) := by
  have hh := hA.handled
  have hu : c.A.units + 100 < cLine := by have := hA.units; omega
  have hA1 : AOk 1 c.A := ⟨hA.handled, by have := hA.depth; omega, by have := hA.units; omega⟩
  obtain ⟨oL, hoL, hdL⟩ := m.fLots.obj
  have g := m.g
  have hnl : (bright.map fun x => 1 - x).length = 6 := by simp [hb]
  have htl := lotsRun_len (n := 6) (d0 := d0) (d1 := d1) 6 (bright.map fun x => 1 - x) 0 hnl
  have hturn := P.turned
  refine runs_then (R := Sub [("lots", intsD Lo), ("turned", intsD (lotsRun 6 d0 d1 6 (bright.map fun x => 1 - x) 0).1)])
    (assign_name (ev_titem (ev_call m.nLots hoL hdL (evl_cons (Evals.to (ev_listcomp (ds := bright.map D.int) (p := fun _ => true) (f := negF) (ρc := []) (it_list hh (ev_name rfl) (by rw [List.length_map, hb]; decide))
              (CompOk.make (by with_unfolding_all rfl) rfl (by decide) .nil (by with_unfolding_all rfl) (.inl (by with_unfolding_all rfl)) .nil)
              (by rw [List.length_map, hb]; decide) (fun C d hd => ta_nil) (fun C d hd _ => by
                obtain ⟨k, hk, rfl⟩ := List.mem_map.mp hd
                exact ev_bin ev_int (ev_name rfl) o_sub)) (by rw [neg_made]; rfl)) (evl_cons (ev_name rfl) (evl_cons ev_int evl_nil)))
        (lots_op (n := 6) m hA1 (by omega) h0 h1 hnl) (by with_unfolding_all rfl)) ev_int (by decide) (by decide) rfl (by intro _ _; with_unfolding_all rfl))
      (.inr ⟨by with_unfolding_all rfl, _, by with_unfolding_all rfl⟩) ⟨rfl, .cons rfl (.cons rfl .nil)⟩) fun ρ1 S1 => ?_
  refine Tree.from S1 ?_
  generalize (lotsRun 6 d0 d1 6 (bright.map fun x => 1 - x) 0).1 = turned at *
  have hid : ((rangeD 6).filter fun _ => false).map id = [] := by simp
  refine runs_cons (Ψ := fun fl _ => fl = .ret (.bool true)) (exec_ret (Evals.to (ev_cmp (Evals.to (ev_listcomp (ds := rangeD 6) (p := fun _ => false) (f := id) (ρc := [("lots", intsD Lo), ("turned", intsD turned)])
      (it_range (k := 6) hh g.range ev_int (by omega) (by omega) (by with_unfolding_all rfl))
      (CompOk.make (by with_unfolding_all rfl) rfl (by decide) (.cons (by with_unfolding_all rfl) (.cons (by with_unfolding_all rfl) .nil)) (by with_unfolding_all rfl) (.inl (by with_unfolding_all rfl))
        (.cons (by decide) rfl (.inl (by with_unfolding_all rfl)) (by with_unfolding_all rfl) (by with_unfolding_all rfl) (.inl (by with_unfolding_all rfl)) (.cons (by decide) rfl (.inl (by with_unfolding_all rfl)) (by with_unfolding_all rfl) (by with_unfolding_all rfl) (.inl (by with_unfolding_all rfl)) .nil)))
      (by rw [length_rangeD]; decide) (fun C d hd => ?_) (fun C d hd h => (by cases h))) (congrArg D.lst hid)) (ev_list evl_nil) (o_eqd 5 rfl rfl (by decide) hu) (by with_unfolding_all rfl)) rfl) rfl) (fun _ q => by cases q) (fun fl _ _ q => by subst q; exact .inl rfl)
  obtain ⟨p, hp, rfl⟩ := mem_rangeD hd
  have li : (Lo.map D.int)[((p : Int)).toNat]? = some (.int (atI Lo p)) := item_int (by omega) (by omega)
  have ti : (turned.map D.int)[((p : Int)).toNat]? = some (.int (atI turned p)) := item_int (by omega) (by omega)
  exact ta_one (Tests.to (t_cmp
    (Evals.to (ev_index 5 (ev_name rfl) (ev_item (ev_name rfl) (ev_name rfl) (by omega) (by omega) ti (by intro _ _; with_unfolding_all rfl)) rfl (lvl_ints 4 _) (by decide) hu (idx_lt (by omega) (by omega)) (by rw [List.length_map]; omega) (by with_unfolding_all rfl) (by with_unfolding_all rfl) (by with_unfolding_all rfl)) (congrArg D.int rep_eq_idx))
    (Evals.to (ev_index 5 (ev_name rfl) (ev_item (ev_name rfl) (ev_name rfl) (by omega) (by omega) li (by intro _ _; with_unfolding_all rfl)) rfl (lvl_ints 4 _) (by decide) hu (idx_lt (by omega) (by omega)) (by rw [List.length_map]; omega) (by with_unfolding_all rfl) (by with_unfolding_all rfl) (by with_unfolding_all rfl)) (congrArg D.int rep_eq_idx))
    o_ne (by with_unfolding_all rfl)) (by rw [hturn p hp]; simp))

theorem law_runs {ns : List Int} (m : Md c) (hA : AOk 2 c.A) (hns : ns.length ≤ 63) (P : PL (brOf ns) (d0Of ns) (d1Of ns) (lotsRun 6 (d0Of ns) (d1Of ns) 6 (brOf ns) 0).1 (lotsRun 6 (d0Of ns) (d1Of ns) 6 (brOf ns) 0).2) :
    Runs c (envLaw L fa cd) ⟨[("script", intsD ns)], []⟩ (bodyOf (stm 9)) (Ends (.bool true)) := by
  have hLo := lotsRun_len (n := 6) (d0 := d0Of ns) (d1 := d1Of ns) 6 (brOf ns) 0 (length_brOf ns)
  exact law_A m hA hns (law_B m hA (deed_d0 ns) (deed_d1 ns) (length_brOf ns) hLo P (law_C m hA hLo (law_D m hA (deed_d0 ns) (deed_d1 ns) (length_brOf ns) hLo P (law_E1 m hA (deed_d0 ns) (deed_d1 ns) (length_brOf ns) hLo P (law_E2 m hA (deed_d0 ns) (deed_d1 ns) (length_brOf ns) hLo P)))))
end
end

section 
open PySem PySem.W PyProof.Rows
set_option linter.unusedVariables false
set_option maxRecDepth 100000

theorem law_cells {L fa : Addr} {cd : Value} : (envLaw L fa cd).cells = [(("turned" : Str), L + 4), (("least" : Str), L + 3), (("lots" : Str), L + 2), (("bright" : Str), L + 1)] := by with_unfolding_all rfl

theorem law_fm {c : Cx} {s : Shared} {fa : Addr} {cd : Value} {m cm : Str → Option Value} {cells : List (Addr × Obj)} {a : Addr} {vs : List Value} {ns : List Int} (F : Fr c.B c.B.objs.size s.heap m) (hm : m "script" = some (.ref a))
    (N : News c.B c.B.objs.size s.heap cells) (X : CellsAre cm (envLaw c.B.objs.size fa cd).cells cells) (hobj : c.B.get? a = some { cls := .type "list", data := .seq vs.toArray }) (hI : IntsAre vs ns) :
    c.Fm (envLaw c.B.objs.size fa cd) (fun _ => False) ⟨[("script", intsD ns)], []⟩ s := by
  have hc := law_cells (L := c.B.objs.size) (fa := fa) (cd := cd)
  have hlook : ∀ x k, (envLaw c.B.objs.size fa cd).cells.lookup x = some k → (x, k) ∈ [(("turned" : Str), c.B.objs.size + 4), (("least" : Str), c.B.objs.size + 3), (("lots" : Str), c.B.objs.size + 2), (("bright" : Str), c.B.objs.size + 1)] := fun x k h => by rw [hc] at h; exact mem_of_lookup h
  have habove : ∀ x k, (envLaw c.B.objs.size fa cd).cells.lookup x = some k → c.B.objs.size < k := fun x k h => by
    have := hlook x k h
    simp only [List.mem_cons, List.not_mem_nil, or_false, Prod.mk.injEq] at this
    rcases this with ⟨_, rfl⟩ | ⟨_, rfl⟩ | ⟨_, rfl⟩ | ⟨_, rfl⟩
    · exact Nat.lt_add_of_pos_right (by decide)
    · exact Nat.lt_add_of_pos_right (by decide)
    · exact Nat.lt_add_of_pos_right (by decide)
    · exact Nat.lt_add_of_pos_right (by decide)
  have fresh : ∀ b, c.B.objs.size ≤ b → c.B.get? b = none := fun b hb => by
    cases e : c.B.get? b with
    | none => rfl
    | some o => exact absurd (Heap.lt_size e) (Nat.not_lt.mpr hb)
  have hw : ∀ b, Wr (envLaw c.B.objs.size fa cd) ⟨[("script", intsD ns)], []⟩ b → c.B.get? b = none := by
    rintro b (rfl | ⟨n, q⟩ | q)
    · exact fresh _ (Nat.le_refl _)
    · exact fresh _ (Nat.le_of_lt (habove n b q))
    · cases q
  have hcell : ∀ (cs : List (Str × Addr)) (cells : List (Addr × Obj)), CellsAre cm cs cells → ∀ x k, (x, k) ∈ cs → ∃ o, (k, o) ∈ cells ∧ o.data = .cell (cm x) := by
    intro cs cells h
    induction h with
    | nil => intro x k h; cases h
    | cons hd _ ih =>
      intro x k hm
      rcases List.mem_cons.mp hm with e | hm
      · cases e; exact ⟨_, List.mem_cons_self, hd⟩
      · obtain ⟨o, h1, h2⟩ := ih x k hm
        exact ⟨o, List.mem_cons_of_mem _ h1, h2⟩
  exact {
    ok := {
      kind := rfl
      glob := rfl
      blt := rfl
      sep := fun x y k h1 h2 => by
        have a1 := hlook x k h1
        have a2 := hlook y k h2
        simp only [List.mem_cons, List.not_mem_nil, or_false, Prod.mk.injEq] at a1 a2
        have ne : ∀ i j : Nat, i ≠ j → c.B.objs.size + i ≠ c.B.objs.size + j := fun i j h e => h (Nat.add_left_cancel e)
        rcases a1 with ⟨rfl, rfl⟩ | ⟨rfl, rfl⟩ | ⟨rfl, rfl⟩ | ⟨rfl, rfl⟩ <;> rcases a2 with ⟨rfl, e⟩ | ⟨rfl, e⟩ | ⟨rfl, e⟩ | ⟨rfl, e⟩ <;> first | rfl | exact absurd e (ne _ _ (by decide))
      apart := fun x k h e => by have := habove x k h; rw [e] at this; exact Nat.lt_irrefl _ this }
    base := F.keep
    newW := hw
    live := fun _ h => h.elim
    ns := ⟨_, F.ns⟩
    cells := fun x k h => by
      obtain ⟨o, h1, h2⟩ := hcell _ _ X x k (by rw [hc]; exact hlook x k h)
      exact ⟨_, o, N.get h1, h2⟩
    vars := fun x d h => by
      have := memOfLookup h
      simp only [List.mem_cons, List.not_mem_nil, or_false, Prod.mk.injEq] at this
      obtain ⟨rfl, rfl⟩ := this
      refine ⟨.ref a, .inl ⟨by with_unfolding_all rfl, _, F.ns, hm⟩, ?_⟩
      simp only [intsD, Den]
      refine ⟨a, vs.toArray, _, rfl, ⟨F.keep _ _ hobj, ?_⟩, ints_denL hI⟩
      rintro (q | q)
      · exact q
      · rw [hw a q] at hobj; cases hobj
    owns := fun _ _ h => by cases h
    ownsN := List.nodup_nil
    ownsL := fun _ h => by cases h
    ownsM := fun _ h => by cases h }

theorem callerA_ok (env : Env) : AOk 2 (callerA.deeper env) := ⟨rfl, by show callerA.depth + 1 + 2 < recursionLimit; decide, by show callerA.units + 3 + 10 * 2 + 100 < cLine; decide⟩
end

section 
open PySem PySem.W PyProof.Rows
set_option linter.unusedVariables false

/-! the plain law: lists -/
section
variable {α β : Type} [DecidableEq α] [DecidableEq β]

theorem revInd {α : Type} {P : List α → Prop} (h0 : P []) (h1 : ∀ l a, P l → P (l ++ [a])) (l : List α) : P l := by
  rw [← List.reverse_reverse l]
  induction l.reverse with
  | nil => exact h0
  | cons a r ih => rw [List.reverse_cons]; exact h1 _ _ ih

theorem firstsG_nodup (l : List α) : (firstsG l).Nodup := by
  induction l using revInd with
  | h0 => simp [firstsG]
  | h1 l a ih =>
    rw [firstsG_snoc]
    split
    · exact ih
    · rename_i h
      rw [List.nodup_append]
      refine ⟨ih, by simp, fun x hx y hy e => ?_⟩
      rw [List.mem_singleton] at hy
      subst hy
      exact h (e ▸ hx)
theorem nodup_of_firstsG {l : List α} (h : (firstsG l).length = l.length) : l.Nodup := by
  induction l using revInd with
  | h0 => simp
  | h1 l a ih =>
    rw [firstsG_snoc] at h
    have hle := firstsG_le l
    split at h
    · simp only [List.length_append, List.length_cons, List.length_nil] at h; omega
    · rename_i hn
      rw [List.length_append, List.length_append] at h
      have h2 := ih (by simpa using h)
      rw [mem_firstsG] at hn
      rw [List.nodup_append]
      refine ⟨h2, by simp, fun x hx y hy e => ?_⟩
      rw [List.mem_singleton] at hy
      subst hy
      exact hn (e ▸ hx)
theorem firstsG_of_nodup {l : List α} (h : l.Nodup) : (firstsG l).length = l.length := by
  induction l using revInd with
  | h0 => simp [firstsG]
  | h1 l a ih =>
    rw [List.nodup_append] at h
    rw [firstsG_snoc, if_neg, List.length_append, List.length_append, ih h.1]
    rw [mem_firstsG]
    intro hm
    exact h.2.2 a hm a (by simp) rfl
theorem subLen {α : Type} [DecidableEq α] : ∀ {l m : List α}, l.Nodup → (∀ x ∈ l, x ∈ m) → l.length ≤ m.length
  | [], m, _, _ => Nat.zero_le _
  | a :: l, m, hn, hs => by
    rw [List.nodup_cons] at hn
    have ha := hs a List.mem_cons_self
    have := subLen (l := l) (m := m.erase a) hn.2 fun x hx => (List.mem_erase_of_ne (fun e : x = a => hn.1 (by rw [← e]; exact hx))).mpr (hs x (List.mem_cons_of_mem _ hx))
    rw [List.length_erase_of_mem ha] at this
    have hp : 0 < m.length := List.length_pos_of_mem ha
    simp only [List.length_cons]
    omega
theorem nodup_cover {l m : List α} (hl : l.Nodup) (hs : ∀ x ∈ l, x ∈ m) (hlen : m.length ≤ l.length) : m.Nodup := by
  refine nodup_of_firstsG ?_
  have h1 := subLen hl (m := firstsG m) fun x hx => (mem_firstsG x m).mpr (hs x hx)
  have h2 := firstsG_le m
  omega
theorem nodup_map_inj {f : α → β} {l : List α} : (l.map f).Nodup → ∀ {a b : α}, a ∈ l → b ∈ l → f a = f b → a = b := by
  induction l with
  | nil => intro _ a b h; cases h
  | cons x l ih =>
    intro hn a b ha hb e
    rw [List.map_cons, List.nodup_cons] at hn
    rcases List.mem_cons.mp ha with rfl | ha' <;> rcases List.mem_cons.mp hb with rfl | hb'
    · rfl
    · exact absurd (by rw [e]; exact List.mem_map_of_mem hb') hn.1
    · exact absurd (by rw [← e]; exact List.mem_map_of_mem ha') hn.1
    · exact ih hn.2 ha' hb' e
theorem nodup_map_of_inj {f : α → β} {l : List α} (hn : l.Nodup) (hf : ∀ a ∈ l, ∀ b ∈ l, f a = f b → a = b) : (l.map f).Nodup := by
  induction l with
  | nil => simp
  | cons x l ih =>
    rw [List.nodup_cons] at hn
    rw [List.map_cons, List.nodup_cons]
    refine ⟨fun h => ?_, ih hn.2 fun a ha b hb => hf a (List.mem_cons_of_mem _ ha) b (List.mem_cons_of_mem _ hb)⟩
    obtain ⟨y, hy, e⟩ := List.mem_map.mp h
    have := hf y (List.mem_cons_of_mem _ hy) x List.mem_cons_self e
    subst this
    exact hn.1 hy

/-- counts of a list and of its image -/
theorem count_le (f : α → β) (l : List α) : (firstsG (l.map f)).length ≤ (firstsG l).length := by
  have := subLen (firstsG_nodup (l.map f)) (m := (firstsG l).map f) fun x hx => by
    rw [mem_firstsG] at hx
    obtain ⟨y, hy, rfl⟩ := List.mem_map.mp hx
    exact List.mem_map_of_mem ((mem_firstsG y l).mpr hy)
  rwa [List.length_map] at this
theorem count_inj (f : α → β) (l : List α) (h : (firstsG l).length ≤ (firstsG (l.map f)).length) {a b : α} (ha : a ∈ l) (hb : b ∈ l) (e : f a = f b) : a = b := by
  have hn : ((firstsG l).map f).Nodup := nodup_cover (firstsG_nodup (l.map f)) (fun x hx => by
    rw [mem_firstsG] at hx
    obtain ⟨y, hy, rfl⟩ := List.mem_map.mp hx
    exact List.mem_map_of_mem ((mem_firstsG y l).mpr hy)) (by rw [List.length_map]; exact h)
  exact nodup_map_inj hn ((mem_firstsG a l).mpr ha) ((mem_firstsG b l).mpr hb) e
theorem count_ge (f : α → β) (l : List α) (hf : ∀ a ∈ l, ∀ b ∈ l, f a = f b → a = b) : (firstsG l).length ≤ (firstsG (l.map f)).length := by
  have hn : ((firstsG l).map f).Nodup := nodup_map_of_inj (firstsG_nodup l) fun a ha b hb => hf a ((mem_firstsG a l).mp ha) b ((mem_firstsG b l).mp hb)
  have := subLen hn (m := firstsG (l.map f)) fun x hx => by
    obtain ⟨y, hy, rfl⟩ := List.mem_map.mp hx
    exact (mem_firstsG _ _).mpr (List.mem_map_of_mem ((mem_firstsG y l).mp hy))
  rwa [List.length_map] at this
theorem idxOf_inj' {α : Type} [BEq α] [LawfulBEq α] {l : List α} {a b : α} (ha : a ∈ l) (hb : b ∈ l) (e : l.idxOf a = l.idxOf b) : a = b := by
  have h1 := List.idxOf_lt_length_iff.mpr ha
  have h2 := List.idxOf_lt_length_iff.mpr hb
  have g1 := List.getElem_idxOf h1
  have g2 := List.getElem_idxOf h2
  rw [← g1, ← g2]
  congr 1
end

/-! Moore's relations -/
def InN (n : Nat) (p : Int) : Prop := 0 ≤ p ∧ p < n
def Ek (bright d0 d1 : List Int) : Nat → Int → Int → Prop
  | 0, p, q => atI bright p = atI bright q
  | k + 1, p, q => Ek bright d0 d1 k p q ∧ Ek bright d0 d1 k (atI d0 p) (atI d0 q) ∧ Ek bright d0 d1 k (atI d1 p) (atI d1 q)

section
variable {bright d0 d1 : List Int} {n : Nat}

theorem Ek.refl : ∀ (k : Nat) (p : Int), Ek bright d0 d1 k p p
  | 0, p => rfl
  | k + 1, p => ⟨Ek.refl k p, Ek.refl k _, Ek.refl k _⟩
theorem Ek.symm : ∀ {k : Nat} {p q : Int}, Ek bright d0 d1 k p q → Ek bright d0 d1 k q p
  | 0, _, _, h => Eq.symm h
  | k + 1, _, _, h => ⟨Ek.symm h.1, Ek.symm h.2.1, Ek.symm h.2.2⟩
theorem Ek.trans : ∀ {k : Nat} {p q r : Int}, Ek bright d0 d1 k p q → Ek bright d0 d1 k q r → Ek bright d0 d1 k p r
  | 0, _, _, _, h, h' => Eq.trans h h'
  | k + 1, _, _, _, h, h' => ⟨Ek.trans h.1 h'.1, Ek.trans h.2.1 h'.2.1, Ek.trans h.2.2 h'.2.2⟩
theorem Ek.down : ∀ {k j : Nat} {p q : Int}, j ≤ k → Ek bright d0 d1 k p q → Ek bright d0 d1 j p q
  | k, j, p, q, hj, h => by
    induction k with
    | zero => have : j = 0 := by omega
              subst this; exact h
    | succ k ih =>
      by_cases e : j = k + 1
      · subst e; exact h
      · exact ih (by omega) h.1
/-- stable at k: stable ever after -/
theorem Ek.up {k : Nat} (hd0 : Deed n d0) (hd1 : Deed n d1) (hst : ∀ p q, InN n p → InN n q → Ek bright d0 d1 k p q → Ek bright d0 d1 (k + 1) p q) : ∀ (j : Nat) {p q : Int}, InN n p → InN n q → Ek bright d0 d1 k p q → Ek bright d0 d1 j p q := by
  have hin0 : ∀ {p : Int}, InN n p → InN n (atI d0 p) := fun {p} h => hd0.2 _ (atI_mem h.1 (by rw [hd0.1]; exact h.2))
  have hin1 : ∀ {p : Int}, InN n p → InN n (atI d1 p) := fun {p} h => hd1.2 _ (atI_mem h.1 (by rw [hd1.1]; exact h.2))
  intro j
  induction j with
  | zero => intro p q _ _ h; exact h.down (Nat.zero_le _)
  | succ j ih =>
    intro p q hp hq h
    have h' := hst p q hp hq h
    exact ⟨ih hp hq h, ih (hin0 hp) (hin0 hq) h'.2.1, ih (hin1 hp) (hin1 hq) h'.2.2⟩

/-- a labelling of the places by what k steps tell -/
def Lab (n : Nat) (L : List Int) (R : Int → Int → Prop) : Prop := ∀ p q, InN n p → InN n q → (atI L p = atI L q ↔ R p q)

theorem rows_get {lots : List Int} {p : Int} (hp : InN n p) : (rowsOf n d0 d1 lots)[p.toNat]? = some (rowAt d0 d1 lots p) := by
  have h1 : p.toNat < n := by have := hp.1; have := hp.2; omega
  rw [rowsOf, List.getElem?_map, List.getElem?_range h1]
  show some (rowAt d0 d1 lots ((p.toNat : Nat) : Int)) = _
  rw [Int.toNat_of_nonneg hp.1]
theorem row_mem {lots : List Int} {p : Int} (hp : InN n p) : rowAt d0 d1 lots p ∈ rowsOf n d0 d1 lots := List.mem_of_getElem? (rows_get hp)
theorem after_get {lots : List Int} {p : Int} (hp : InN n p) : atI (afterOf (rowsOf n d0 d1 lots)) p = Int.ofNat ((firstsG (rowsOf n d0 d1 lots)).idxOf (rowAt d0 d1 lots p)) := by
  rw [atI, List.getD_eq_getElem?_getD, afterOf, List.getElem?_map, rows_get hp]
  rfl
theorem after_lab {lots : List Int} : Lab n (afterOf (rowsOf n d0 d1 lots)) fun p q => rowAt d0 d1 lots p = rowAt d0 d1 lots q := by
  intro p q hp hq
  rw [after_get hp, after_get hq]
  constructor
  · intro h
    exact idxOf_inj' ((mem_firstsG _ _).mpr (row_mem hp)) ((mem_firstsG _ _).mpr (row_mem hq)) (Int.ofNat.inj h)
  · intro h; rw [h]
theorem lots_rows {lots : List Int} (hl : lots.length = n) : (rowsOf n d0 d1 lots).map (·.1) = lots := by
  apply List.ext_getElem
  · simp [rowsOf, hl]
  · intro i h1 h2
    simp only [rowsOf, List.getElem_map, List.getElem_range, rowAt]
    rw [atI, List.getD_eq_getElem?_getD]
    show (lots[Int.toNat (Int.ofNat i)]?).getD 0 = _
    rw [show Int.toNat (Int.ofNat i) = i from rfl, List.getElem?_eq_getElem h2]
    rfl
theorem rows_eq {lots : List Int} {k : Nat} (hd0 : Deed n d0) (hd1 : Deed n d1) (hL : Lab n lots (Ek bright d0 d1 k)) {p q : Int} (hp : InN n p) (hq : InN n q) : rowAt d0 d1 lots p = rowAt d0 d1 lots q ↔ Ek bright d0 d1 (k + 1) p q := by
  have hin0 : ∀ {p : Int}, InN n p → InN n (atI d0 p) := fun {p} h => hd0.2 _ (atI_mem h.1 (by rw [hd0.1]; exact h.2))
  have hin1 : ∀ {p : Int}, InN n p → InN n (atI d1 p) := fun {p} h => hd1.2 _ (atI_mem h.1 (by rw [hd1.1]; exact h.2))
  simp only [rowAt, Prod.mk.injEq]
  rw [hL p q hp hq, hL _ _ (hin0 hp) (hin0 hq), hL _ _ (hin1 hp) (hin1 hq)]
  rfl

theorem run_lab (hd0 : Deed n d0) (hd1 : Deed n d1) : ∀ (f k : Nat) (lots : List Int), lots.length = n → f + k = n → Lab n lots (Ek bright d0 d1 k) → k + 1 ≤ (firstsG lots).length →
    ∃ k' : Nat, (lotsRun n d0 d1 f lots k).2 = (k' : Int) ∧ k' < n ∧ Lab n (lotsRun n d0 d1 f lots k).1 (Ek bright d0 d1 k') ∧ (∀ p q, InN n p → InN n q → Ek bright d0 d1 k' p q → Ek bright d0 d1 (k' + 1) p q)
  | 0, k, lots, hl, hf, hL, hc => by have := firstsG_le lots; omega
  | f + 1, k, lots, hl, hf, hL, hc => by
    have hle := firstsG_le lots
    have hmap := lots_rows (d0 := d0) (d1 := d1) hl
    have hcnt := count_le (·.1) (rowsOf n d0 d1 lots)
    rw [hmap] at hcnt
    rw [lotsRun]
    by_cases he : (firstsG (rowsOf n d0 d1 lots)).length = (firstsG lots).length
    · rw [if_pos he]
      have hst : ∀ p q, InN n p → InN n q → Ek bright d0 d1 k p q → Ek bright d0 d1 (k + 1) p q := fun p q hp hq h => by
        refine (rows_eq hd0 hd1 hL hp hq).mp (count_inj (·.1) (rowsOf n d0 d1 lots) (by rw [hmap]; omega) (row_mem hp) (row_mem hq) ?_)
        exact (hL p q hp hq).mpr h
      refine ⟨k, rfl, by omega, fun p q hp hq => ?_, hst⟩
      show atI (afterOf (rowsOf n d0 d1 lots)) p = atI (afterOf (rowsOf n d0 d1 lots)) q ↔ _
      refine ((after_lab p q hp hq).trans (rows_eq hd0 hd1 hL hp hq)).trans ⟨fun h => h.1, hst p q hp hq⟩
    · rw [if_neg he]
      have hlab : Lab n (afterOf (rowsOf n d0 d1 lots)) (Ek bright d0 d1 (k + 1)) := fun p q hp hq => (after_lab p q hp hq).trans (rows_eq hd0 hd1 hL hp hq)
      have hge := count_ge (fun r => Int.ofNat ((firstsG (rowsOf n d0 d1 lots)).idxOf r)) (rowsOf n d0 d1 lots) (fun a ha b hb e => idxOf_inj' ((mem_firstsG _ _).mpr ha) ((mem_firstsG _ _).mpr hb) (Int.ofNat.inj e))
      have := run_lab hd0 hd1 f (k + 1) (afterOf (rowsOf n d0 d1 lots)) (by rw [length_afterOf, length_rowsOf]) (by omega) hlab (by
        show _ ≤ (firstsG ((rowsOf n d0 d1 lots).map _)).length
        omega)
      exact this

theorem firsts_pos {l : List Int} (h : 0 < l.length) : 1 ≤ (firstsG l).length := by
  cases l with
  | nil => simp at h
  | cons a l => exact List.length_pos_of_mem ((mem_firstsG a _).mpr List.mem_cons_self)

/-- what the lots are -/
theorem lots_are (hd0 : Deed n d0) (hd1 : Deed n d1) (hb : bright.length = n) (hn : 0 < n) :
    ∃ k : Nat, (lotsRun n d0 d1 n bright 0).2 = (k : Int) ∧ k < n ∧ Lab n (lotsRun n d0 d1 n bright 0).1 (Ek bright d0 d1 k) ∧ (∀ p q, InN n p → InN n q → Ek bright d0 d1 k p q → Ek bright d0 d1 (k + 1) p q) :=
  run_lab hd0 hd1 n 0 bright hb rfl (fun p q _ _ => Iff.rfl) (firsts_pos (by omega))
end
end

section 
open PySem PySem.W PyProof.Rows
set_option linter.unusedVariables false

theorem idxOf_le {l : List Int} {a : Int} {i : Nat} (h : i < l.length) (e : l[i] = a) : l.idxOf a ≤ i := by
  refine Nat.le_of_not_lt fun q => ?_
  have := List.not_of_lt_findIdx (p := fun x => x == a) (xs := l) (i := i) q
  rw [e] at this
  simp at this
theorem atI_nat {l : List Int} {i : Nat} (h : i < l.length) : atI l i = l[i] := by
  rw [atI, Int.toNat_natCast, List.getD_eq_getElem?_getD, List.getElem?_eq_getElem h]; rfl
theorem rep_congr {L : List Int} {a b : Int} (h : atI L a = atI L b) : rep L a = rep L b := by unfold rep; rw [h]
theorem rep_in {L : List Int} {p : Int} (hp : InN L.length p) : InN L.length (rep L p) ∧ atI L (rep L p) = atI L p ∧ rep L p ∈ leastTo L L.length := by
  have h1 : p.toNat < L.length := by have := hp.1; have := hp.2; omega
  have h2 := idxOf_firsts h1
  rw [show ((p.toNat : Nat) : Int) = p from Int.toNat_of_nonneg hp.1] at h2
  exact ⟨leastTo_lt h2.1, h2.2, h2.1⟩
theorem rep_same {L T : List Int} {n : Nat} (hL : L.length = n) (hT : T.length = n) (h : ∀ p q, InN n p → InN n q → (atI T p = atI T q ↔ atI L p = atI L q)) {p : Int} (hp : InN n p) : rep T p = rep L p := by
  have key : ∀ {A B : List Int}, A.length = n → B.length = n → (∀ p q, InN n p → InN n q → (atI A p = atI A q ↔ atI B p = atI B q)) → (B.idxOf (atI B p)) ≤ A.idxOf (atI A p) := by
    intro A B hA hB hAB
    have hm : atI A p ∈ A := atI_mem hp.1 (by rw [hA]; exact hp.2)
    have hi := List.idxOf_lt_length_iff.mpr hm
    have g := List.getElem_idxOf hi
    rw [← atI_nat hi] at g
    have hin : InN n ((A.idxOf (atI A p) : Nat) : Int) := ⟨Int.natCast_nonneg _, by omega⟩
    have g2 := (hAB _ _ hin hp).mp g
    rw [atI_nat (by omega)] at g2
    exact idxOf_le (by omega) g2
  unfold rep
  exact congrArg Int.ofNat (Nat.le_antisymm (key hL hT fun p q a b => (h p q a b).symm) (key hT hL h))

theorem leastTo_fix {L : List Int} {x : Int} (h : x ∈ leastTo L L.length) : rep L x = x := by
  obtain ⟨p, h1, h2, rfl⟩ := mem_leastTo.mp h
  have hp : InN L.length (p : Int) := ⟨Int.natCast_nonneg _, by omega⟩
  have hm : atI L p ∈ L := atI_mem hp.1 hp.2
  have hi := List.idxOf_lt_length_iff.mpr hm
  have hle := idxOf_le (l := L) h1 (atI_nat h1).symm
  unfold rep
  by_cases e : L.idxOf (atI L p) = p
  · rw [e]; rfl
  · have hlt : L.idxOf (atI L p) < p := by omega
    refine absurd ?_ h2
    rw [← List.getElem_idxOf hi]
    have : (L.take p)[L.idxOf (atI L p)]'(by rw [List.length_take]; omega) = L[L.idxOf (atI L p)] := List.getElem_take
    rw [← this]
    exact List.getElem_mem _

section
variable {bright d0 d1 : List Int}

theorem neg_at {l : List Int} {p : Int} (hp : InN l.length p) : atI (l.map fun x => 1 - x) p = 1 - atI l p := by
  have h1 : p.toNat < l.length := by have := hp.1; have := hp.2; omega
  rw [atI, atI, List.getD_eq_getElem?_getD, List.getD_eq_getElem?_getD, List.getElem?_map, List.getElem?_eq_getElem h1]
  rfl
theorem Ek.neg {n : Nat} (hb : bright.length = n) (hd0 : Deed n d0) (hd1 : Deed n d1) : ∀ (k : Nat) {p q : Int}, InN n p → InN n q → (Ek (bright.map fun x => 1 - x) d0 d1 k p q ↔ Ek bright d0 d1 k p q) := by
  have hin0 : ∀ {p : Int}, InN n p → InN n (atI d0 p) := fun {p} h => hd0.2 _ (atI_mem h.1 (by rw [hd0.1]; exact h.2))
  have hin1 : ∀ {p : Int}, InN n p → InN n (atI d1 p) := fun {p} h => hd1.2 _ (atI_mem h.1 (by rw [hd1.1]; exact h.2))
  intro k
  induction k with
  | zero =>
    intro p q hp hq
    show atI _ p = atI _ q ↔ atI bright p = atI bright q
    rw [neg_at (by rw [hb]; exact hp), neg_at (by rw [hb]; exact hq)]
    omega
  | succ k ih =>
    intro p q hp hq
    show _ ∧ _ ∧ _ ↔ _ ∧ _ ∧ _
    rw [ih hp hq, ih (hin0 hp) (hin0 hq), ih (hin1 hp) (hin1 hq)]

variable (hb : bright.length = 6) (hd0 : Deed 6 d0) (hd1 : Deed 6 d1)
include hb hd0 hd1

theorem pl_turned {p : Nat} (hp : p < 6) : rep (lotsRun 6 d0 d1 6 (bright.map fun x => 1 - x) 0).1 p = rep (lotsRun 6 d0 d1 6 bright 0).1 p := by
  obtain ⟨k, _, _, hL, hst⟩ := lots_are hd0 hd1 hb (by decide)
  have hb' : (bright.map fun x => 1 - x).length = 6 := by simp [hb]
  obtain ⟨k', _, _, hT, hst'⟩ := lots_are hd0 hd1 hb' (by decide)
  refine rep_same (n := 6) (lotsRun_len _ _ _ hb) (lotsRun_len _ _ _ hb') (fun a b ha hbb => ?_) ⟨Int.natCast_nonneg _, by omega⟩
  rw [hL a b ha hbb, hT a b ha hbb]
  constructor
  · intro h
    exact (Ek.neg hb hd0 hd1 k ha hbb).mp (Ek.up hd0 hd1 hst' k ha hbb h)
  · intro h
    exact (Ek.neg hb hd0 hd1 k' ha hbb).mpr (Ek.up hd0 hd1 hst k' ha hbb h)

theorem pl_again : (firstsG (lotsRun (leastTo (lotsRun 6 d0 d1 6 bright 0).1 6).length (smallOf (lotsRun 6 d0 d1 6 bright 0).1 (leastTo (lotsRun 6 d0 d1 6 bright 0).1 6) d0) (smallOf (lotsRun 6 d0 d1 6 bright 0).1 (leastTo (lotsRun 6 d0 d1 6 bright 0).1 6) d1)
    (leastTo (lotsRun 6 d0 d1 6 bright 0).1 6).length (lightsOf bright (leastTo (lotsRun 6 d0 d1 6 bright 0).1 6)) 0).1).length = (leastTo (lotsRun 6 d0 d1 6 bright 0).1 6).length := by
  obtain ⟨k, _, _, hL, hst⟩ := lots_are hd0 hd1 hb (by decide)
  have hlen := lotsRun_len (n := 6) (d0 := d0) (d1 := d1) 6 bright 0 hb
  generalize (lotsRun 6 d0 d1 6 bright 0).1 = L at *
  have hs0 := small_deed hlen hd0
  have hs1 := small_deed hlen hd1
  have hsrt := leastTo_sorted L 6
  have hfix : ∀ x ∈ leastTo L 6, rep L x = x := fun x hx => leastTo_fix (by rw [hlen]; exact hx)
  have hin : ∀ x ∈ leastTo L 6, InN 6 x := fun x hx => leastTo_lt hx
  have hrep : ∀ x, InN 6 x → InN 6 (rep L x) ∧ atI L (rep L x) = atI L x ∧ rep L x ∈ leastTo L 6 := fun x hx => by
    have := rep_in (L := L) (p := x) (by rw [hlen]; exact hx)
    rw [hlen] at this; exact this
  have hpos : 0 < (leastTo L 6).length := List.length_pos_of_mem (hrep 0 ⟨by decide, by decide⟩).2.2
  generalize leastTo L 6 = least at *
  have hin0 : ∀ {p : Int}, InN 6 p → InN 6 (atI d0 p) := fun {p} h => hd0.2 _ (atI_mem h.1 (by rw [hd0.1]; exact h.2))
  have hin1 : ∀ {p : Int}, InN 6 p → InN 6 (atI d1 p) := fun {p} h => hd1.2 _ (atI_mem h.1 (by rw [hd1.1]; exact h.2))
  have hlm : ∀ i, InN least.length i → atI least i ∈ least := fun i hi => atI_mem hi.1 hi.2
  -- rep x ~ x at every depth
  have hrx : ∀ j x, InN 6 x → Ek bright d0 d1 j (rep L x) x := fun j x hx => Ek.up hd0 hd1 hst j (hrep x hx).1 hx ((hL _ _ (hrep x hx).1 hx).mp (hrep x hx).2.1)
  have hsm : ∀ (d : List Int), Deed 6 d → ∀ i, InN least.length i → atI least (atI (smallOf L least d) i) = rep L (atI d (atI least i)) := by
    intro d hd i hi
    have h1 : i.toNat < least.length := by have := hi.1; have := hi.2; omega
    have e : atI (smallOf L least d) i = Int.ofNat (cntLt least (rep L (atI d (atI least i)))) := by
      rw [atI, List.getD_eq_getElem?_getD, smallOf, List.getElem?_map, List.getElem?_eq_getElem h1]
      have : atI least i = least[i.toNat] := by
        rw [atI, List.getD_eq_getElem?_getD, List.getElem?_eq_getElem h1]; rfl
      rw [this]; rfl
    have hx : InN 6 (atI d (atI least i)) := by
      have := hin _ (hlm i hi)
      exact hd.2 _ (atI_mem this.1 (by rw [hd.1]; exact this.2))
    obtain ⟨hc, he⟩ := cntLt_mem hsrt (hrep _ hx).2.2
    rw [e]
    show atI least ((cntLt least (rep L (atI d (atI least i))) : Nat) : Int) = _
    rw [atI_nat hc, he]
  have hE : ∀ j i i', InN least.length i → InN least.length i' → (Ek (lightsOf bright least) (smallOf L least d0) (smallOf L least d1) j i i' → Ek bright d0 d1 j (atI least i) (atI least i')) := by
    intro j
    induction j with
    | zero =>
      intro i i' hi hi' h
      have ev : ∀ i, InN least.length i → atI (lightsOf bright least) i = atI bright (atI least i) := by
        intro i hi
        have h1 : i.toNat < least.length := by have := hi.1; have := hi.2; omega
        have e2 : atI least i = least[i.toNat] := by
          rw [atI, List.getD_eq_getElem?_getD, List.getElem?_eq_getElem h1]; rfl
        rw [e2, atI, List.getD_eq_getElem?_getD, lightsOf, List.getElem?_map, List.getElem?_eq_getElem h1]
        rfl
      have h' : atI (lightsOf bright least) i = atI (lightsOf bright least) i' := h
      rw [ev i hi, ev i' hi'] at h'
      exact h'
    | succ j ih =>
      intro i i' hi hi' h
      obtain ⟨h1, h2, h3⟩ := h
      have s0 := fun i (hi : InN least.length i) => (⟨(deed_at hs0 hi.1 hi.2).1, (deed_at hs0 hi.1 hi.2).2⟩ : InN least.length _)
      have s1 := fun i (hi : InN least.length i) => (⟨(deed_at hs1 hi.1 hi.2).1, (deed_at hs1 hi.1 hi.2).2⟩ : InN least.length _)
      have g2 := ih _ _ (s0 i hi) (s0 i' hi') h2
      have g3 := ih _ _ (s1 i hi) (s1 i' hi') h3
      rw [hsm d0 hd0 i hi, hsm d0 hd0 i' hi'] at g2
      rw [hsm d1 hd1 i hi, hsm d1 hd1 i' hi'] at g3
      have a := hin _ (hlm i hi)
      have a' := hin _ (hlm i' hi')
      exact ⟨ih i i' hi hi' h1, ((hrx j _ (hin0 a)).symm.trans g2).trans (hrx j _ (hin0 a')), ((hrx j _ (hin1 a)).symm.trans g3).trans (hrx j _ (hin1 a'))⟩
  have hbl : (lightsOf bright least).length = least.length := by simp [lightsOf]
  obtain ⟨k2, _, _, hL2, hst2⟩ := lots_are hs0 hs1 hbl hpos
  have hlen2 := lotsRun_len (n := least.length) (d0 := smallOf L least d0) (d1 := smallOf L least d1) least.length (lightsOf bright least) 0 hbl
  generalize (lotsRun least.length (smallOf L least d0) (smallOf L least d1) least.length (lightsOf bright least) 0).1 = L2 at *
  have hne : ∀ i j : Nat, i < j → j < least.length → atI L2 i ≠ atI L2 j := by
    intro i j hij hj e
    have hi' : InN least.length (i : Int) := ⟨Int.natCast_nonneg _, by omega⟩
    have hj' : InN least.length (j : Int) := ⟨Int.natCast_nonneg _, by omega⟩
    have h1 := (hL2 _ _ hi' hj').mp e
    have h2 := hE k _ _ hi' hj' (Ek.up hs0 hs1 hst2 k hi' hj' h1)
    have h3 := (hL _ _ (hin _ (hlm _ hi')) (hin _ (hlm _ hj'))).mpr h2
    have h4 := rep_congr h3
    rw [hfix _ (hlm _ hi'), hfix _ (hlm _ hj')] at h4
    rw [atI_nat (by omega), atI_nat hj] at h4
    have := List.pairwise_iff_getElem.mp hsrt i j (by omega) hj hij
    omega
  rw [← hlen2]
  refine firstsG_of_nodup (List.pairwise_iff_getElem.mpr fun i j hi hj hij => ?_)
  have := hne i j hij (by omega)
  rwa [atI_nat hi, atI_nat hj] at this
end
end

section 
open PySem PySem.W PyProof.Rows
set_option linter.unusedVariables false

def nx (d : List Int) (p : P2) : P2 := (atI d p.1, atI d p.2)
def Rch (d0 d1 : List Int) : Nat → P2 → P2 → Prop
  | 0, p, q => p = q
  | m + 1, p, q => Rch d0 d1 m (nx d0 p) q ∨ Rch d0 d1 m (nx d1 p) q

section
variable {bright d0 d1 : List Int}

theorem Rch.snoc : ∀ {m : Nat} {p r q : P2}, Rch d0 d1 m p r → (q = nx d0 r ∨ q = nx d1 r) → Rch d0 d1 (m + 1) p q
  | 0, p, r, q, h, h' => by
    have e : p = r := h
    subst e
    rcases h' with h' | h'
    · exact .inl h'.symm
    · exact .inr h'.symm
  | m + 1, p, r, q, h, h' => by
    rcases h with h | h
    · exact .inl (Rch.snoc h h')
    · exact .inr (Rch.snoc h h')
theorem Rch.unsnoc : ∀ {m : Nat} {p q : P2}, Rch d0 d1 (m + 1) p q → ∃ r, Rch d0 d1 m p r ∧ (q = nx d0 r ∨ q = nx d1 r)
  | 0, p, q, h => by
    rcases h with h | h
    · exact ⟨p, rfl, .inl (Eq.symm h)⟩
    · exact ⟨p, rfl, .inr (Eq.symm h)⟩
  | m + 1, p, q, h => by
    rcases h with h | h
    · obtain ⟨r, h1, h2⟩ := Rch.unsnoc h
      exact ⟨r, .inl h1, h2⟩
    · obtain ⟨r, h1, h2⟩ := Rch.unsnoc h
      exact ⟨r, .inr h1, h2⟩
theorem Ek.lit : ∀ {j m : Nat} {p q : P2}, j ≤ m → Ek bright d0 d1 m p.1 p.2 → Rch d0 d1 j p q → atI bright q.1 = atI bright q.2
  | 0, m, p, q, _, h, hr => by
    have e : p = q := hr
    subst e
    exact h.down (Nat.zero_le _)
  | j + 1, m + 1, p, q, hj, h, hr => by
    rcases hr with hr | hr
    · exact Ek.lit (p := nx d0 p) (by omega) h.2.1 hr
    · exact Ek.lit (p := nx d1 p) (by omega) h.2.2 hr
theorem Ek.of : ∀ {m : Nat} {p : P2}, (∀ j q, j ≤ m → Rch d0 d1 j p q → atI bright q.1 = atI bright q.2) → Ek bright d0 d1 m p.1 p.2
  | 0, p, h => h 0 p (Nat.le_refl _) rfl
  | m + 1, p, h => ⟨Ek.of fun j q hj hr => h j q (by omega) hr, Ek.of (p := nx d0 p) fun j q hj hr => h (j + 1) q (by omega) (.inl hr), Ek.of (p := nx d1 p) fun j q hj hr => h (j + 1) q (by omega) (.inr hr)⟩

/-- how far the search is: the first i have been seen -/
structure BI (bright d0 d1 : List Int) (st : P2) (i : Nat) (w : List (P2 × Int)) : Prop where
  good : GoodW2 6 w
  reach : ∀ x ∈ w, ∃ m : Nat, x.2 = m ∧ Rch d0 d1 m st x.1
  start : (st, (0 : Int)) ∈ w
  eq : ∀ j x, j < i → w[j]? = some x → atI bright x.1.1 = atI bright x.1.2
  succ : ∀ j x, j < i → w[j]? = some x → ∀ d, d = d0 ∨ d = d1 → ∃ y ∈ w, y.1 = nx d x.1 ∧ y.2 ≤ x.2 + 1
  sorted : ∀ (j j' : Nat) (x y : P2 × Int), j ≤ j' → w[j]? = some x → w[j']? = some y → x.2 ≤ y.2

theorem app_get {α : Type} {w : List α} {z x : α} {j : Nat} (h : (w ++ [z])[j]? = some x) : (j < w.length ∧ w[j]? = some x) ∨ (j = w.length ∧ x = z) := by
  by_cases hj : j < w.length
  · rw [List.getElem?_append_left hj] at h; exact .inl ⟨hj, h⟩
  · rw [List.getElem?_append_right (by omega)] at h
    have : j - w.length = 0 := by
      by_cases e : j - w.length = 0
      · exact e
      · rw [List.getElem?_eq_none (by simp; omega)] at h; cases h
    rw [this] at h
    simp only [List.getElem?_cons_zero, Option.some.injEq] at h
    exact .inr ⟨by omega, h.symm⟩

theorem BI.step {st p : P2} {t : Int} {i : Nat} {w : List (P2 × Int)} {d : List Int} (b : BI bright d0 d1 st i w) (hd : Deed 6 d) (hdd : d = d0 ∨ d = d1) (hx : w[i]? = some (p, t)) (hnear : ∀ y ∈ w, y.2 ≤ t + 1) :
    BI bright d0 d1 st i (stepA d p t w) ∧ (stepA d p t w)[i]? = some (p, t) ∧ (∀ y ∈ stepA d p t w, y.2 ≤ t + 1) ∧ (∃ y ∈ stepA d p t w, y.1 = nx d p ∧ y.2 ≤ t + 1) := by
  have hm : (p, t) ∈ w := List.mem_of_getElem? hx
  have hil : i < w.length := (List.getElem?_eq_some_iff.mp hx).1
  have hp := b.good.inn _ hm
  have hg := b.good.step (t := t) hd hp
  by_cases h : (atI d p.1, atI d p.2) ∈ w.map (·.1)
  · have e : stepA d p t w = w := by rw [stepA, if_pos h]
    rw [e]
    obtain ⟨y, hy, hye⟩ := List.mem_map.mp h
    exact ⟨b, hx, hnear, y, hy, hye, hnear y hy⟩
  · have e : stepA d p t w = w ++ [(nx d p, t + 1)] := by rw [stepA, if_neg h]; rfl
    rw [e] at hg ⊢
    have hlow : ∀ j x, j < i → (w ++ [(nx d p, t + 1)])[j]? = some x → w[j]? = some x := fun j x hj hjx => by
      rcases app_get hjx with q | q
      · exact q.2
      · omega
    refine ⟨⟨hg, fun x hx' => ?_, List.mem_append_left _ b.start, fun j x hj hjx => b.eq j x hj (hlow j x hj hjx), fun j x hj hjx d' hd' => ?_, fun j j' x y hjj hjx hjy => ?_⟩, ?_, fun y hy => ?_, ?_⟩
    · rcases List.mem_append.mp hx' with hx' | hx'
      · exact b.reach x hx'
      · rw [List.mem_singleton] at hx'
        subst hx'
        obtain ⟨m, hm1, hm2⟩ := b.reach _ hm
        refine ⟨m + 1, ?_, hm2.snoc (by rcases hdd with rfl | rfl; exact .inl rfl; exact .inr rfl)⟩
        show t + 1 = _
        have hm1' : t = (m : Int) := hm1
        omega
    · obtain ⟨y, hy, h1, h2⟩ := b.succ j x hj (hlow j x hj hjx) d' hd'
      exact ⟨y, List.mem_append_left _ hy, h1, h2⟩
    · rcases app_get hjx with q | q <;> rcases app_get hjy with q' | q'
      · exact b.sorted j j' x y hjj q.2 q'.2
      · rw [q'.2]; exact hnear x (List.mem_of_getElem? q.2)
      · omega
      · rw [q.2, q'.2]; exact Int.le_refl _
    · rw [List.getElem?_append_left hil]; exact hx
    · rcases List.mem_append.mp hy with hy | hy
      · exact hnear y hy
      · rw [List.mem_singleton] at hy; subst hy; exact Int.le_refl _
    · exact ⟨_, List.mem_append_right _ (List.mem_singleton.mpr rfl), rfl, Int.le_refl _⟩

theorem told_run {st : P2} (hd0 : Deed 6 d0) (hd1 : Deed 6 d1) : ∀ (f i : Nat) (w : List (P2 × Int)), f + i = 6 * 6 + 1 → i ≤ w.length → BI bright d0 d1 st i w → (∀ x, w[i]? = some x → ∀ y ∈ w, y.2 ≤ x.2 + 1) →
    (runA bright [d0, d1] f i w = none → ∀ m, Ek bright d0 d1 m st.1 st.2) ∧ (∀ t, runA bright [d0, d1] f i w = some t → ∃ m : Nat, t = m ∧ ¬ Ek bright d0 d1 m st.1 st.2 ∧ (m = 0 ∨ Ek bright d0 d1 (m - 1) st.1 st.2))
  | 0, i, w, hf, hi, b, hn => by have := b.good.len; omega
  | f + 1, i, w, hf, hi, b, hn => by
    rw [runA]
    cases hx : w[i]? with
    | none =>
      simp only
      refine ⟨fun _ m => ?_, fun t h => by cases h⟩
      have hil : w.length ≤ i := List.getElem?_eq_none_iff.mp hx
      have all : ∀ m, ∀ x ∈ w, Ek bright d0 d1 m x.1.1 x.1.2 := by
        intro m
        induction m with
        | zero =>
          intro x hxm
          obtain ⟨j, hj, e⟩ := List.mem_iff_getElem.mp hxm
          exact b.eq j x (by omega) (by rw [List.getElem?_eq_getElem hj, e])
        | succ m ih =>
          intro x hxm
          obtain ⟨j, hj, e⟩ := List.mem_iff_getElem.mp hxm
          have hjx : w[j]? = some x := by rw [List.getElem?_eq_getElem hj, e]
          obtain ⟨y0, hy0, e0, _⟩ := b.succ j x (by omega) hjx d0 (.inl rfl)
          obtain ⟨y1, hy1, e1, _⟩ := b.succ j x (by omega) hjx d1 (.inr rfl)
          have g0 := ih y0 hy0
          have g1 := ih y1 hy1
          rw [e0] at g0
          rw [e1] at g1
          exact ⟨ih x hxm, g0, g1⟩
      exact all m _ b.start
    | some x =>
      obtain ⟨p, t⟩ := x
      simp only
      have hm : (p, t) ∈ w := List.mem_of_getElem? hx
      have hil : i < w.length := (List.getElem?_eq_some_iff.mp hx).1
      by_cases hbr : atI bright p.1 = atI bright p.2
      · rw [if_neg (fun q => q hbr)]
        obtain ⟨b1, x1, n1, s1⟩ := b.step hd0 (.inl rfl) hx (hn _ hx)
        obtain ⟨b2, x2, n2, s2⟩ := b1.step hd1 (.inr rfl) x1 n1
        have hst : stepsA [d0, d1] p t w = stepA d1 p t (stepA d0 p t w) := rfl
        rw [hst]
        obtain ⟨y0, hy0, e0, l0⟩ := s1
        have b3 : BI bright d0 d1 st (i + 1) (stepA d1 p t (stepA d0 p t w)) := {
          good := b2.good
          reach := b2.reach
          start := b2.start
          eq := fun j x hj hjx => by
            by_cases e : j = i
            · subst e
              rw [x2] at hjx; cases hjx
              exact hbr
            · exact b2.eq j x (by omega) hjx
          succ := fun j x hj hjx d hd => by
            by_cases e : j = i
            · subst e
              rw [x2] at hjx; cases hjx
              rcases hd with rfl | rfl
              · exact ⟨y0, mem_stepA hy0, e0, l0⟩
              · exact s2
            · exact b2.succ j x (by omega) hjx d hd
          sorted := b2.sorted }
        refine told_run hd0 hd1 f (i + 1) _ (by omega) ?_ b3 fun x hx' y hy => ?_
        · have := (List.getElem?_eq_some_iff.mp x2).1
          omega
        · have h1 := n2 y hy
          have h2 := b2.sorted i (i + 1) _ _ (Nat.le_succ _) x2 hx'
          have h2' : t ≤ x.2 := h2
          omega
      · rw [if_pos hbr]
        refine ⟨fun h => (by cases h), fun t' h => ?_⟩
        cases h
        obtain ⟨m, hm1, hm2⟩ := b.reach _ hm
        refine ⟨m, hm1, fun hE => hbr (hE.lit (Nat.le_refl _) hm2), ?_⟩
        by_cases hm0 : m = 0
        · exact .inl hm0
        · refine .inr (Ek.of fun j q hj hr => ?_)
          have hmt : t = (m : Int) := hm1
          have seen : ∀ j q, j ≤ m - 1 → Rch d0 d1 j st q → ∃ y ∈ w, y.1 = q ∧ y.2 ≤ (j : Int) := by
            intro j
            induction j with
            | zero =>
              intro q _ hr
              have e : st = q := hr
              subst e
              exact ⟨_, b.start, rfl, by simp⟩
            | succ j ih =>
              intro q hj hr
              obtain ⟨r, hr1, hr2⟩ := hr.unsnoc
              obtain ⟨y, hy, e, hle⟩ := ih r (by omega) hr1
              obtain ⟨j', hj', e'⟩ := List.mem_iff_getElem.mp hy
              have hjy : w[j']? = some y := by rw [List.getElem?_eq_getElem hj', e']
              have hji : j' < i := by
                refine Nat.lt_of_not_le fun q => ?_
                have := b.sorted i j' _ _ q hx hjy
                have h2 : t ≤ y.2 := this
                omega
              subst e
              rcases hr2 with rfl | rfl
              · obtain ⟨z, hz, e1, e2⟩ := b.succ j' y hji hjy d0 (.inl rfl)
                exact ⟨z, hz, e1, by omega⟩
              · obtain ⟨z, hz, e1, e2⟩ := b.succ j' y hji hjy d1 (.inr rfl)
                exact ⟨z, hz, e1, by omega⟩
          obtain ⟨y, hy, e, hle⟩ := seen j q hj hr
          obtain ⟨j', hj', e'⟩ := List.mem_iff_getElem.mp hy
          have hjy : w[j']? = some y := by rw [List.getElem?_eq_getElem hj', e']
          have hji : j' < i := by
            refine Nat.lt_of_not_le fun q => ?_
            have := b.sorted i j' _ _ q hx hjy
            have h2 : t ≤ y.2 := this
            omega
          have := b.eq j' y hji hjy
          rw [e] at this
          exact this

theorem plain {bright d0 d1 : List Int} (hb : bright.length = 6) (hd0 : Deed 6 d0) (hd1 : Deed 6 d1) : PL bright d0 d1 (lotsRun 6 d0 d1 6 bright 0).1 (lotsRun 6 d0 d1 6 bright 0).2 := by
  have hag := pl_again hb hd0 hd1
  have htu := fun p hp => pl_turned hb hd0 hd1 (p := p) hp
  obtain ⟨k, hS, hk, hL, hst⟩ := lots_are hd0 hd1 hb (by decide)
  have hlen := lotsRun_len (n := 6) (d0 := d0) (d1 := d1) 6 bright 0 hb
  generalize (lotsRun 6 d0 d1 6 bright 0).2 = S at *
  generalize (lotsRun 6 d0 d1 6 bright 0).1 = L at *
  have hin0 : ∀ {p : Int}, InN 6 p → InN 6 (atI d0 p) := fun {p} h => hd0.2 _ (atI_mem h.1 (by rw [hd0.1]; exact h.2))
  have hin1 : ∀ {p : Int}, InN 6 p → InN 6 (atI d1 p) := fun {p} h => hd1.2 _ (atI_mem h.1 (by rw [hd1.1]; exact h.2))
  have hrep : ∀ x, InN 6 x → InN 6 (rep L x) ∧ Ek bright d0 d1 k (rep L x) x := fun x hx => by
    have := rep_in (L := L) (p := x) (by rw [hlen]; exact hx)
    rw [hlen] at this
    exact ⟨this.1, (hL _ _ this.1 hx).mp this.2.1⟩
  have nat6 : ∀ p : Nat, p < 6 → InN 6 (p : Int) := fun p hp => ⟨Int.natCast_nonneg _, by omega⟩
  refine ⟨by omega, by omega, fun one other h1 h2 => ?_, hag, fun p hp => ?_, fun p hp => ?_, fun p hp => ?_, htu⟩
  · have ho := nat6 one h1
    have ht := nat6 other (by omega)
    have b0 : BI bright d0 d1 ((one : Int), (other : Int)) 0 [(((one : Int), (other : Int)), 0)] := {
      good := ⟨fun x hx => by rw [List.mem_singleton] at hx; subst hx; exact ⟨ho, ht⟩, by simp⟩
      reach := fun x hx => by rw [List.mem_singleton] at hx; subst hx; exact ⟨0, rfl, rfl⟩
      start := List.mem_singleton.mpr rfl
      eq := fun j x hj _ => absurd hj (Nat.not_lt_zero _)
      succ := fun j x hj _ => absurd hj (Nat.not_lt_zero _)
      sorted := fun j j' x y _ hx hy => by
        have e1 := List.mem_of_getElem? hx
        have e2 := List.mem_of_getElem? hy
        rw [List.mem_singleton] at e1 e2
        rw [e1, e2]; exact Int.le_refl _ }
    obtain ⟨hn, hs⟩ := told_run hd0 hd1 (6 * 6 + 1) 0 _ rfl (Nat.zero_le _) b0 (fun x hx y hy => by
      have e1 := List.mem_of_getElem? hx
      rw [List.mem_singleton] at e1 hy
      rw [e1, hy]; show (0 : Int) ≤ 0 + 1; decide)
    refine ⟨⟨fun h => (hL _ _ ho ht).mpr (hn h k), fun h => ?_⟩, fun t h => ?_⟩
    · cases hr : runA bright [d0, d1] (6 * 6 + 1) 0 [(((one : Int), (other : Int)), 0)] with
      | none => rfl
      | some t =>
        obtain ⟨m, _, hm, _⟩ := hs t hr
        exact absurd (Ek.up hd0 hd1 hst m ho ht ((hL _ _ ho ht).mp h)) hm
    · obtain ⟨m, rfl, hm, hm'⟩ := hs t h
      rcases hm' with rfl | hm'
      · rw [hS]; omega
      · have : m - 1 < k := Nat.lt_of_not_le fun q => hm (Ek.up hd0 hd1 hst m ho ht (hm'.down q))
        rw [hS]; omega
  · exact (hrep _ (nat6 p hp)).2.down (Nat.zero_le _)
  · have hp' := nat6 p hp
    obtain ⟨h1, h2⟩ := hrep _ hp'
    exact rep_congr ((hL _ _ (hin0 h1) (hin0 hp')).mpr (hst _ _ h1 hp' h2).2.1)
  · have hp' := nat6 p hp
    obtain ⟨h1, h2⟩ := hrep _ hp'
    exact rep_congr ((hL _ _ (hin1 h1) (hin1 hp')).mpr (hst _ _ h1 hp' h2).2.2)
end
end

/-! the join -/
section
open PySem PySem.W PyProof.Rows
theorem dflK_in {T D : Addr} {t u : Tok} {hs : Int} {n ep : Nat} {h : Heap} (h1 : h.get? T = some { cls := .type "tuple", data := .seq #[.int 0 t, .none] n }) (h2 : h.get? D = some { cls := .type "dict", data := .dict #[⟨hs, .str ("key" : Str) u, .none⟩] ep }) :
    (dflK T D t u hs n ep).In h := by
  intro a o e
  unfold dflK at e
  rw [List.lookup_cons] at e
  cases ha : a == T with
  | true =>
    rw [ha] at e
    cases e
    rw [beq_iff_eq.mp ha]; exact h1
  | false =>
    rw [ha, List.lookup_cons] at e
    cases hb : a == D with
    | true =>
      rw [hb] at e
      cases e
      rw [beq_iff_eq.mp hb]; exact h2
    | false => rw [hb] at e; cases e

theorem exact_list {P : Params} {h : Heap} {a : Addr} {vs : List Value} {xs : List WData} (w1 : Well P h (.ref a) (.list xs)) (hL : h.IsList a vs.toArray) : h.get? a = some { cls := .type "list", data := .seq vs.toArray } := by
  obtain ⟨o, ho, hc, n, hd⟩ := hL
  cases w1 with
  | list ho' _ =>
    rw [ho'] at ho
    cases ho
    simp only [Data.seq.injEq] at hd
    rw [ho', hd.1]


theorem gU {K : Frag} {h : Heap} {mg : Str → Option Value} {f : Str} {v : Value} (X : K.In h) (G : h.Ns mainGlobals mg) (e : nsIn K mainGlobals f = some (some v)) : GName h f v := .inl ⟨mg, G, mg_of X G e⟩
theorem gB {K : Frag} {h : Heap} {mg mb : Str → Option Value} {f : Str} {v : Value} (X : K.In h) (G : h.Ns mainGlobals mg) (Gb : h.Ns builtinsNs mb) (hb : ∀ x : Str, x ≠ "__name__" → mb x = bootBuiltins x) (e : nsIn K mainGlobals f = some none)
    (h1 : f ≠ "__name__") (h2 : bootBuiltins f = some v) : GName h f v := .inr ⟨mg, mb, G, mg_none_of X G e, Gb, by rw [hb _ h1]; exact h2⟩
end
end Mine

open PySem PySem.W PyProof.Rows Mine
set_option maxRecDepth 100000 in
set_option maxHeartbeats 8000000 in
theorem PySem.Challenge.cw_hl0001_01_holds : PySem.Challenge.rw_hl0001_01.Holds := by
  open_k0
  rename_i w s0 s1 mg mb G Y fa o pm doc ho hg KX X V GL T B TE TW w13 w12 M w11 w10 hcd ns hs hlay0 hL1 hr1 hl2 w8 w7 a vs w4 hL ra w1 r0 hI hr hcond1 hcond K0 hD h1 tk1 F c3 c2 c1 c0 e3 e2 e1 e0 N0 X0
  clear G Y X V GL B TE TW M hcd hs hlay0 hL1 hr1 hl2 ra r0 hr K0 hD e3 e2 e1 e0
  have hobj := exact_list w1 hL
  clear w1
  have hst : ∃ o, s1.heap.get? cStatics = some o := by
    obtain ⟨mc, ⟨o, _, _, ho, _⟩, _⟩ := T.nodigits
    exact ⟨o, ho⟩
  have hnl := T.nolimit
  have gl : Gl ⟨PySem.Challenge.rw_hl0001_01.row.prog, w, s1.heap, callerA.deeper (envLaw s1.heap.objs.size fa (.ref w11))⟩ := ⟨Mine.gB KX T.g T.b T.builtins (by k_is) (by decide) (by boot_by_name), Mine.gB KX T.g T.b T.builtins (by k_is) (by decide) (by boot_by_name), Mine.gB KX T.g T.b T.builtins (by k_is) (by decide) (by boot_by_name), Mine.gB KX T.g T.b T.builtins (by k_is) (by decide) (by boot_by_name),
    Mine.gB KX T.g T.b T.builtins (by k_is) (by decide) (by boot_by_name), Mine.gB KX T.g T.b T.builtins (by k_is) (by decide) (by boot_by_name), Mine.gB KX T.g T.b T.builtins (by k_is) (by decide) (by boot_by_name), hst⟩
  have fAdd : FnOk s1.heap 21 fdAdd (bodyOf (stm 1)) := ⟨⟨_, KX 21 _ (by k_is), by with_unfolding_all rfl⟩, rfl, rfl, codeRec_of KX (by k_is), hnl, rfl, rfl, by with_unfolding_all rfl, by with_unfolding_all rfl, by with_unfolding_all rfl⟩
  have fCnt : FnOk s1.heap 28 fdCnt (bodyOf (stm 2)) := ⟨⟨_, KX 28 _ (by k_is), by with_unfolding_all rfl⟩, rfl, rfl, codeRec_of KX (by k_is), hnl, rfl, rfl, by with_unfolding_all rfl, by with_unfolding_all rfl, by with_unfolding_all rfl⟩
  have fIns : FnOk s1.heap 37 fdIns (bodyOf (stm 4)) := ⟨⟨_, KX 37 _ (by k_is), by with_unfolding_all rfl⟩, rfl, rfl, codeRec_of KX (by k_is), hnl, rfl, rfl, by with_unfolding_all rfl, by with_unfolding_all rfl, by with_unfolding_all rfl⟩
  have fBis : FnOk s1.heap 46 fdBis (bodyOf (stm 5)) := ⟨⟨_, KX 46 _ (by k_is), by with_unfolding_all rfl⟩, rfl, rfl, codeRec_of KX (by k_is), hnl, rfl, rfl, by with_unfolding_all rfl, by with_unfolding_all rfl, by with_unfolding_all rfl⟩
  have fLots : FnOk s1.heap 51 fdLots (bodyOf (stm 7)) := ⟨⟨_, KX 51 _ (by k_is), by with_unfolding_all rfl⟩, rfl, rfl, codeRec_of KX (by k_is), hnl, rfl, rfl, by with_unfolding_all rfl, by with_unfolding_all rfl, by with_unfolding_all rfl⟩
  have fApart : FnOk s1.heap 58 fdApart (bodyOf (stm 8)) := ⟨⟨_, KX 58 _ (by k_is), by with_unfolding_all rfl⟩, rfl, rfl, codeRec_of KX (by k_is), hnl, rfl, rfl, by with_unfolding_all rfl, by with_unfolding_all rfl, by with_unfolding_all rfl⟩
  have md : Md ⟨PySem.Challenge.rw_hl0001_01.row.prog, w, s1.heap, callerA.deeper (envLaw s1.heap.objs.size fa (.ref w11))⟩ :=
    ⟨gl, Mine.gU KX T.g (by k_is), Mine.gU KX T.g (by k_is), Mine.gU KX T.g (by k_is), Mine.gU KX T.g (by k_is), Mine.gU KX T.g (by k_is), Mine.gU KX T.g (by k_is), fAdd, fCnt, fIns, fBis, fLots, fApart,
      ⟨_, _, _, _, _, dflK_in (KX 38 _ (by k_is)) (KX 39 _ (by k_is))⟩, ⟨_, _, _, _, _, dflK_in (KX 29 _ (by k_is)) (KX 30 _ (by k_is))⟩⟩
  have FF : Cx.Fm ⟨PySem.Challenge.rw_hl0001_01.row.prog, w, s1.heap, callerA.deeper (envLaw s1.heap.objs.size fa (.ref w11))⟩ (envLaw s1.heap.objs.size fa (.ref w11)) (fun _ => False) ⟨[("script", intsD ns)], []⟩ { s1 with heap := h1, toks := tk1 } :=
    law_fm (s := { s1 with heap := h1, toks := tk1 }) F (by with_unfolding_all rfl) N0 X0 hobj hI
  have hlen : ns.length ≤ 63 := by omega
  refine law_runs (L := s1.heap.objs.size) (fa := fa) (cd := .ref w11) md (callerA_ok _) hlen (Mine.plain (Mine.length_brOf ns) (Mine.deed_d0 ns) (Mine.deed_d1 ns)) _ _ _ _ FF ?_
  intro fl f ρ' h' tk p F' st fd
  rcases p with rfl | p
  · obtain ⟨v, rfl, hv⟩ := fd
    simp only [Den] at hv
    subst hv
    obtain ⟨m', hm'⟩ := F'.ns
    have Fr' : Fr s1.heap s1.heap.objs.size h' m' := ⟨hm', F'.base, Nat.le_refl _⟩
    show GoodW _ _ _ _ _ (.ok (.ret (.bool true))) _
    refine goodW_bool Fr' hg (raisesW_false ?_) ?_
    · wrow_none_raised
    · wrow_post
  · cases p.1
