import PyProof.Rows.All
import Wide.All
import OpenK.AllK
import Wide.FinOn
import Lean
import PySem.Challenge.RW_ke0002_01
set_option compiler.extract_closed false
section
open PySem PySem.W PyProof.Rows
set_option Elab.async false
namespace Mine

/-- a tree of objects, laid one behind the other; `none` where a place falls -/
def toTree : List Obj → BT → Nat → Option BT
  | [], t, _ => some t
  | o :: r, t, n => match ((t.ins n o).get n).isSome with
    | true => toTree r (t.ins n o) (n + 1)
    | false => none

theorem toTree_abs {life : Life} : ∀ (l : List Obj) (t : BT) (n : Nat) (t' : BT), toTree l t n = some t' →
    absHeap t' (n + l.length) life = ⟨(absHeap t n life).objs ++ l.toArray, life⟩
  | [], t, n, t', h => by
    cases h
    simp only [List.length_nil, Nat.add_zero]
    show Heap.mk _ _ = Heap.mk _ _
    congr 1
  | o :: r, t, n, t', h => by
    unfold toTree at h
    cases g : ((t.ins n o).get n).isSome with
    | false => rw [g] at h; cases h
    | true =>
      rw [g] at h
      have e := toTree_abs (life := life) r (t.ins n o) (n + 1) t' h
      rw [absHeap_ins g] at e
      rw [show n + (o :: r).length = n + 1 + r.length by simp [List.length_cons]; omega, e]
      show Heap.mk _ _ = Heap.mk _ _
      congr 1
      show ((absHeap t n life).objs.push o) ++ r.toArray = _
      apply Array.ext'
      simp

def toT (s : Shared) : Option SharedT := (toTree s.heap.objs.toList .nil 0).map fun t => ⟨t, s.heap.objs.toList.length, s.heap.life, s.gens, s.drawn, s.toks, s.os⟩

theorem toT_abs {s : Shared} {t : SharedT} (h : toT s = some t) : t.abs = s := by
  obtain ⟨⟨objs, life⟩, gens, drawn, toks, os⟩ := s
  obtain ⟨t', e, rfl⟩ := Option.map_eq_some_iff.mp h
  have a := toTree_abs (life := life) _ _ _ _ e
  unfold SharedT.abs
  simp only [Nat.zero_add] at a
  simp only [a]
  congr 2
  apply Array.ext'
  simp [absHeap, BT.list]

theorem topRun_of_seg {tb : String → Option Builtin} {p : Program} {w : World} {n₀ : Nat} {ann : Option Value} : ∀ {n : Nat} {s s' : Shared} {t : Thread} {f : Flow} {c : Code} {q : Pos},
    segRun tb p w n₀ ann 0 n s t = some (f, s', c, q) → topRun tb p w n₀ ann n s t = some s'
  | 0, _, _, _, _, _, _, h => by cases h
  | n + 1, s, s', t, f, c, q, h => by
    unfold segRun at h
    unfold topRun
    cases he : endAt 0 t with
    | some x =>
      rw [he] at h
      cases h
      have : through t = true := by
        unfold endAt at he
        unfold through
        split at he
        · rename_i a b
          have : t.stack = [] := List.length_eq_zero_iff.mp (by simpa using a)
          rw [this, b]; rfl
        · cases he
      rw [this]
    | none =>
      rw [he] at h
      have : through t = false := by
        cases ht : through t with
        | false => rfl
        | true =>
          exfalso
          unfold through at ht
          simp only [Bool.and_eq_true] at ht
          obtain ⟨a, b⟩ := ht
          have a' : t.stack = [] := List.isEmpty_iff.mp a
          split at b
          · rename_i x hx
            unfold endAt at he
            rw [a', hx] at he
            cases he
          · cases b
      rw [this]
      cases hk : stepOk n₀ ann t with
      | false => rw [hk] at h; cases h
      | true =>
        rw [hk] at h
        cases hs : step (denote tb) p w s t with
        | halt o s₂ => rw [hs] at h; cases h
        | go s₂ t₂ => rw [hs] at h; exact topRun_of_seg h

/-- what `topFrom` says, the run over a tree -/
def topFromT (tb : String → Option Builtin) (p : Program) (w : World) (N : Nat) (s₀ : Shared) : Option Shared :=
  match s₀.heap.isNs mainGlobals && s₀.gens.size == 0 with
  | true => (toT s₀).bind fun t₀ => (segRunT tb p w s₀.heap.objs.size (s₀.heap.nsMap mainGlobals "__annotations__") 0 N t₀ (topStub p)).bind fun r =>
      match staticsOk (importedModules p.main.body) s₀.heap r.2.1.abs.heap && namesBound p r.2.1.abs.heap && gensDone r.2.1.abs && laidKept s₀.heap r.2.1.abs.heap with
      | true => some r.2.1.abs
      | false => none
  | false => none

theorem topFrom_of {tb : String → Option Builtin} {p : Program} {w : World} {N : Nat} {s₀ s : Shared} (h : topFromT tb p w N s₀ = some s) : topFrom tb p w N s₀ = some s := by
  unfold topFromT at h
  unfold topFrom
  split at h
  · rename_i e
    rw [e]
    obtain ⟨t₀, e₀, h⟩ := Option.bind_eq_some_iff.mp h
    obtain ⟨⟨f, s', c, q⟩, e₁, h⟩ := Option.bind_eq_some_iff.mp h
    have e₂ := topRun_of_seg (segRun_of e₁)
    rw [toT_abs e₀] at e₂
    split at h
    · rename_i e₃
      cases h
      dsimp only
      rw [e₂]
      dsimp only [Option.bind]
      rw [e₃]
    · cases h
  · cases h

theorem left_of {p q : Program} {loose : List Str} {Xt : Shared → Bool} {α : Type} {Yf : Shared → α} {Ya : World → α} {N : Nat} {g0 : Bool}
    (h : ∀ w : World, ((fencedOpening treeTable p w N).bind (topFromT treeTable p w N)).map (fun s => (openSeen q loose (importedModules p.main.body) Xt g0 s, Yf s)) = some (openGood q loose, Ya w)) :
    LeftO p q loose Xt Yf Ya N g0 := fun w => by
  obtain ⟨s, a, b⟩ := Option.map_eq_some_iff.mp (h w)
  obtain ⟨s₀, a₀, a₁⟩ := Option.bind_eq_some_iff.mp a
  unfold openEnds
  rw [a₀]
  dsimp only [Option.bind]
  rw [topFrom_of a₁]
  exact congrArg some b

theorem left_of2 {p q : Program} {loose : List Str} {Xt : Shared → Bool} {α : Type} {Yf : Shared → α} {Ya : World → α} {N : Nat} {g0 : Bool}
    (h : ∀ w : World, ((fencedOpening treeTable p w N).bind (topFromT treeTable p w N)).map (fun s => openSeen q loose (importedModules p.main.body) Xt g0 s) = some (openGood q loose))
    (h' : ∀ w : World, ((fencedOpening treeTable p w N).bind (topFromT treeTable p w N)).map Yf = some (Ya w)) :
    LeftO p q loose Xt Yf Ya N g0 := left_of fun w => by
  obtain ⟨s, a, b⟩ := Option.map_eq_some_iff.mp (h w)
  have c := h' w
  rw [a] at c ⊢
  exact congrArg some (Prod.ext b (Option.some.inj c))
end Mine
end

section
open PySem PySem.W PyProof.Rows
/-- between two texts: the walk forgets the lines of the text before, as a fresh process has none -/
theorem Mine.calm1 : ∀ (prog : Program) (w : World) (A : Around) (env : Env) (E : Value → Shared → Prop) (s : Shared) (Q : Flow → Shared → Prop), Q .next s → wpAny (model prog w) A (execs [] env) Q E s := by
  w_top off
  intro prog w A env E s Q h
  walk1
  exact h
end

section
open PySem PySem.W PyProof.Rows PySem.Calls
set_option Elab.async false
set_option maxRecDepth 100000
set_option maxHeartbeats 1000000
namespace Mine
/-- one object was changed, the rest stands -/
def Chg (a : Addr) (o : Obj) (news news' : List (Addr × Obj)) : Prop := (a, o) ∈ news' ∧ ∀ q ∈ news, q.1 ≠ a → q ∈ news'
def rest (a : Addr) (news : List (Addr × Obj)) : List (Addr × Obj) := news.filter fun q => q.1 != a
theorem rest_ne {a : Addr} {news : List (Addr × Obj)} : ∀ q ∈ rest a news, q.1 ≠ a := fun q hq => by
  have h := (List.mem_filter.mp hq).2
  simpa using h
theorem mem_rest {a : Addr} {news : List (Addr × Obj)} {q : Addr × Obj} (h : q ∈ news) (n : q.1 ≠ a) : q ∈ rest a news := List.mem_filter.mpr ⟨h, by simpa using n⟩
theorem news_rest {h₀ h : Heap} {L a : Addr} {o : Obj} {news : List (Addr × Obj)} (N : News h₀ L h news) (hm : (a, o) ∈ news) : News h₀ L h ((a, o) :: rest a news) := fun q hq => by
  rcases List.mem_cons.mp hq with rfl | hq
  · exact N _ hm
  · exact N _ (List.mem_filter.mp hq).1
/-- two entries of one ledger at one address are one -/
theorem news_eq {h₀ h : Heap} {L a : Addr} {o o' : Obj} {news : List (Addr × Obj)} (N : News h₀ L h news) (x : (a, o) ∈ news) (y : (a, o') ∈ news) : o = o' := Option.some.inj ((N _ x).1.symm.trans (N _ y).1)
theorem news_ne {h₀ h : Heap} {L a b : Addr} {o o' : Obj} {news : List (Addr × Obj)} (N : News h₀ L h news) (x : (a, o) ∈ news) (y : (b, o') ∈ news) (n : o ≠ o') : a ≠ b := fun e => n (news_eq N x (e ▸ y))
section
variable {prog : Program} {w : World} {A : Around} {E : Value → Shared → Prop} {s : Shared} {h₀ : Heap} {L D : Addr} {m : Str → Option Value} {news : List (Addr × Obj)}
end
end Mine
end

section
open PySem PySem.W PyProof.Rows
/-- between two texts: the walk forgets the lines of the text before, as a fresh process has none -/
theorem Mine.calm3 : ∀ (prog : Program) (w : World) (A : Around) (env : Env) (E : Value → Shared → Prop) (s : Shared) (Q : Flow → Shared → Prop), Q .next s → wpAny (model prog w) A (execs [] env) Q E s := by
  w_top off
  intro prog w A env E s Q h
  walk1
  exact h
end

section
open PySem PySem.W PyProof.Rows PySem.Calls
set_option Elab.async false
set_option maxRecDepth 100000
set_option maxHeartbeats 1000000
namespace Mine
section
variable {prog : Program} {w : World} {A : Around} {E : Value → Shared → Prop} {s : Shared} {h₀ : Heap} {L D : Addr} {m : Str → Option Value} {news : List (Addr × Obj)}
end
end Mine
end

section
open PySem PySem.W PyProof.Rows
/-- between two texts: the walk forgets the lines of the text before, as a fresh process has none -/
theorem Mine.calm5 : ∀ (prog : Program) (w : World) (A : Around) (env : Env) (E : Value → Shared → Prop) (s : Shared) (Q : Flow → Shared → Prop), Q .next s → wpAny (model prog w) A (execs [] env) Q E s := by
  w_top off
  intro prog w A env E s Q h
  walk1
  exact h
end

section
open PySem PySem.W PyProof.Rows PySem.Calls
set_option Elab.async false
set_option maxRecDepth 100000
set_option maxHeartbeats 1000000
namespace Mine
section
variable {prog : Program} {w : World} {A : Around} {E : Value → Shared → Prop} {s : Shared} {h₀ : Heap} {L D : Addr} {m : Str → Option Value} {news : List (Addr × Obj)}
theorem item_at {value slice : PySem.Expr} {vs : List Value} {n p : Nat} {t : Tok} {v : Value} {Q : Value → Shared → Prop} (N : News h₀ L s.heap news) (hm : (D, W.listOf vs.toArray n) ∈ news) (hv : vs[p]? = some v) (hz : vs.length < 1000) (h : Q v s)
    (hs : subscripted slice false (.ref D) (.int p t) = operate [.ref D, .int p t] (getItem (.ref D) (.int p t)) := by with_unfolding_all rfl) (hg : ∀ r, letTemporaryGo value (.ref D) r = pure () := by intro _; with_unfolding_all rfl) :
    wpAny (model prog w) A (subscriptTail value slice (.ref D) (.int p t)) Q E s := by
  have hl : s.heap.IsList D vs.toArray := PySem.IsL.isList (n := n) (N _ hm).1
  have hp : p < vs.length := (List.getElem?_eq_some_iff.mp hv).1
  exact subscriptTail_builtin hl.typeIs slot_list_getitem.lookup (wpAny_getItem_list hl (by omega) (by omega) (by simpa using hv) h) hs hg
theorem method_val {K : Frag} {x C : Addr} {ox : Obj} {od : Option Obj} {name : Str} {pl : Sem Bool} {Q : Value × List Value → Shared → Prop} (F : Fr h₀ L s.heap m) (X₀ : K.In h₀) (I : InstAt s.heap x ox C od) (hg : plainGet K C name = true)
    (hf : findIn K (.ref C) name = some (some .none)) (h : wpAny (model prog w) A (getAttr (.ref x) name) (fun v => Q (v, [])) E s) : wpAny (model prog w) A (getMethod (.ref x) name pl) Q E s := by
  have X := X₀.keeps F.keep
  unfold getMethod
  refine wpAny_bind (wpAny_bind (I.type.here ((looks_findIn X (plainGet_of hg).1).here ?_)))
  dsimp only
  rw [if_neg (by decide)]
  refine wpAny_bind (wpAny_bind (I.type.here ((looks_findIn X (plainGet_of hg).2).here ?_)))
  rw [if_neg (by decide)]
  refine wpAny_bind (wpAny_bind (I.type.here ((looks_findIn X hf).here ?_)))
  dsimp only
  refine wpAny_bind (wpAny_of_eq (a := Value.type "NoneType") rfl ?_)
  rw [if_pos (by decide)]
  exact wpAny_bind (wpAny_mono h (fun v s' q => wpAny_pure q) fun _ _ e => e)
end
end Mine
end

section
open PySem PySem.W PyProof.Rows
/-- between two texts: the walk forgets the lines of the text before, as a fresh process has none -/
theorem Mine.calm7 : ∀ (prog : Program) (w : World) (A : Around) (env : Env) (E : Value → Shared → Prop) (s : Shared) (Q : Flow → Shared → Prop), Q .next s → wpAny (model prog w) A (execs [] env) Q E s := by
  w_top off
  intro prog w A env E s Q h
  walk1
  exact h
end

section
open PySem PySem.W PyProof.Rows PySem.Calls
set_option Elab.async false
set_option maxRecDepth 100000
set_option maxHeartbeats 1000000
namespace Mine
def OneOf (l : List Addr) (C : Addr) : Prop := C ∈ l
theorem OneOf.two {a b C : Addr} {P : Addr → Prop} (h : OneOf [a, b] C) (x : P a) (y : P b) : P C := by
  rcases List.mem_cons.mp h with rfl | h
  · exact x
  · rw [List.mem_singleton.mp h]; exact y
theorem OneOf.four {a b c d C : Addr} {P : Addr → Prop} (h : OneOf [a, b, c, d] C) (x : P a) (y : P b) (z : P c) (u : P d) : P C := by
  simp only [OneOf, List.mem_cons, List.not_mem_nil, or_false] at h
  rcases h with rfl | rfl | rfl | rfl <;> assumption
theorem OneOf.find2 {a b C : Addr} {K : Frag} {name : Str} {v : Option Value} (h : OneOf [a, b] C) (x : findIn K (.ref a) name = some v) (y : findIn K (.ref b) name = some v) : findIn K (.ref C) name = some v :=
  OneOf.two (P := fun C => findIn K (.ref C) name = some v) h x y
theorem OneOf.find4 {a b c d C : Addr} {K : Frag} {name : Str} {v : Option Value} (h : OneOf [a, b, c, d] C) (x : findIn K (.ref a) name = some v) (y : findIn K (.ref b) name = some v) (z : findIn K (.ref c) name = some v) (u : findIn K (.ref d) name = some v) : findIn K (.ref C) name = some v :=
  OneOf.four (P := fun C => findIn K (.ref C) name = some v) h x y z u
theorem OneOf.dict2 {a b C : Addr} {K : Frag} {v : Bool} (h : OneOf [a, b] C) (x : hasDictIn K a = v) (y : hasDictIn K b = v) : hasDictIn K C = v :=
  OneOf.two (P := fun C => hasDictIn K C = v) h x y
theorem OneOf.dict4 {a b c d C : Addr} {K : Frag} {v : Bool} (h : OneOf [a, b, c, d] C) (x : hasDictIn K a = v) (y : hasDictIn K b = v) (z : hasDictIn K c = v) (u : hasDictIn K d = v) : hasDictIn K C = v :=
  OneOf.four (P := fun C => hasDictIn K C = v) h x y z u
theorem OneOf.plain2 {a b C : Addr} {K : Frag} {name : Str} {v : Bool} (h : OneOf [a, b] C) (x : plainGet K a name = v) (y : plainGet K b name = v) : plainGet K C name = v :=
  OneOf.two (P := fun C => plainGet K C name = v) h x y
theorem OneOf.plain4 {a b c d C : Addr} {K : Frag} {name : Str} {v : Bool} (h : OneOf [a, b, c, d] C) (x : plainGet K a name = v) (y : plainGet K b name = v) (z : plainGet K c name = v) (u : plainGet K d name = v) : plainGet K C name = v :=
  OneOf.four (P := fun C => plainGet K C name = v) h x y z u
theorem OneOf.mro2 {a b C : Addr} {K : Frag} {u : Value} {v : Option Bool} (h : OneOf [a, b] C) (x : mroIn K a u = v) (y : mroIn K b u = v) : mroIn K C u = v :=
  OneOf.two (P := fun C => mroIn K C u = v) h x y
theorem OneOf.over2 {a b C : Addr} {K : Frag} {v : Bool} (h : OneOf [a, b] C) (x : plainOver K a = v) (y : plainOver K b = v) : plainOver K C = v :=
  OneOf.two (P := fun C => plainOver K C = v) h x y
theorem OneOf.over4 {a b c d C : Addr} {K : Frag} {v : Bool} (h : OneOf [a, b, c, d] C) (x : plainOver K a = v) (y : plainOver K b = v) (z : plainOver K c = v) (u : plainOver K d = v) : plainOver K C = v :=
  OneOf.four (P := fun C => plainOver K C = v) h x y z u
theorem OneOf.taker2 {a b C : Addr} {K : Frag} {name : Str} {v : Option (Option Value)} (h : OneOf [a, b] C) (x : takerIn K a name = v) (y : takerIn K b name = v) : takerIn K C name = v :=
  OneOf.two (P := fun C => takerIn K C name = v) h x y
theorem OneOf.taker4 {a b c d C : Addr} {K : Frag} {name : Str} {v : Option (Option Value)} (h : OneOf [a, b, c, d] C) (x : takerIn K a name = v) (y : takerIn K b name = v) (z : takerIn K c name = v) (u : takerIn K d name = v) : takerIn K C name = v :=
  OneOf.four (P := fun C => takerIn K C name = v) h x y z u
/-- the walk stops at a method's look-up -/
structure HoldM : Prop where
end Mine
end

section
open PySem PySem.W PyProof.Rows
/-- between two texts: the walk forgets the lines of the text before, as a fresh process has none -/
theorem Mine.calm9 : ∀ (prog : Program) (w : World) (A : Around) (env : Env) (E : Value → Shared → Prop) (s : Shared) (Q : Flow → Shared → Prop), Q .next s → wpAny (model prog w) A (execs [] env) Q E s := by
  w_top off
  intro prog w A env E s Q h
  walk1
  exact h
end

section
open PySem PySem.W PyProof.Rows PySem.Calls
set_option Elab.async false
set_option maxRecDepth 100000
set_option maxHeartbeats 1000000
namespace Mine
/-- the codes that hold a bytearray's memory while they stand on the stack -/
def badIds : List String := guardIds ++ Builtin.Bytes.decodersThatHold
def calm : Code → Bool
  | .builtin id _ => !badIds.contains id
  | _ => true
def Calm (l : List (Code × Pos)) : Prop := ∀ q ∈ l, calm q.1 = true
/-- as wpAny, of the stacks alone that no such code stands on -/
def wpS {α : Type} (M : Model) (A : Around) (t : Sem α) (Q : α → Shared → Prop) (E : Value → Shared → Prop) (s : Shared) : Prop :=
  ∀ (Γ : Ctx) (p : Pos), Γ.In A → calm Γ.code = true → Calm Γ.below → Sem.wp M Γ t (fun a _ s' => Q a s') (fun e _ s' => E e s') p s
def codeS (M : Model) (A : Around) (c : Code) (R : Result → Shared → Prop) (s : Shared) : Prop :=
  ∀ (Γ : Ctx) (p : Pos), Γ.code = c → Γ.Below A → Calm Γ.below → wpCode M Γ R p s
section
variable {α β : Type} {M : Model} {A : Around} {E : Value → Shared → Prop} {s : Shared}
theorem wpS_of {t : Sem α} {Q : α → Shared → Prop} (h : wpAny M A t Q E s) : wpS M A t Q E s := fun Γ p a _ _ => h Γ p a
theorem codeS_of {c : Code} {R : Result → Shared → Prop} (h : codeAny M A c R s) : codeS M A c R s := fun Γ p a b _ => h Γ p a b
theorem wpS_mono {t : Sem α} {Q Q' : α → Shared → Prop} {E' : Value → Shared → Prop} (h : wpS M A t Q E s) (hQ : ∀ a s, Q a s → Q' a s) (hE : ∀ e s, E e s → E' e s) : wpS M A t Q' E' s :=
  fun Γ p a b c => Sem.wp_mono M Γ t (fun a _ s => hQ a s) (fun e _ s => hE e s) p s (h Γ p a b c)
theorem codeS_mono {c : Code} {R R' : Result → Shared → Prop} (h : codeS M A c R s) (hR : ∀ r s, R r s → R' r s) : codeS M A c R' s := fun Γ p hc hΓ d => wpCode_mono hR (h Γ p hc hΓ d)
theorem wpS_pure {a : α} {Q : α → Shared → Prop} (h : Q a s) : wpS M A (pure a) Q E s := wpS_of (wpAny_pure h)
theorem wpS_bind {m : Sem α} {f : α → Sem β} {Q : β → Shared → Prop} (h : wpS M A m (fun a s' => wpS M A (f a) Q E s') E s) : wpS M A (m >>= f) Q E s := fun Γ p a b c => by
  rw [Sem.wp_bind']
  exact Sem.wp_mono M Γ m (fun _ p' _ h' => h' Γ p' a b c) (fun _ _ _ h' => h') p s (h Γ p a b c)
/-- the first part of a tree by the library's rules, what comes behind it by these -/
theorem wpS_step {m : Sem α} {f : α → Sem β} {Q : β → Shared → Prop} (h : wpAny M A m (fun a s' => wpS M A (f a) Q E s') E s) : wpS M A (m >>= f) Q E s := wpS_bind (wpS_of h)
theorem wpS_onRaise {m : Sem α} {k : Value → Sem Unit} {Q : α → Shared → Prop} (h : wpS M A m Q (fun e s' => wpS M A (k e) (fun _ s'' => E e s'') E s') s) : wpS M A (m.onRaise k) Q E s := fun Γ p a b c => by
  rw [Sem.wp_onRaise]
  exact Sem.wp_mono M Γ m (fun _ _ _ h' => h') (fun _ p' _ h' => h' Γ p' a b c) p s (h Γ p a b c)
theorem wpS_attempt {m : Sem α} {Q : Except Value α → Shared → Prop} (h : wpS M A m (fun a => Q (.ok a)) (fun e => Q (.error e)) s) : wpS M A m.attempt Q E s := fun Γ p a b c => by
  rw [Sem.wp_attempt]; exact h Γ p a b c
theorem wpS_holding {vs : List Value} {m : Sem α} {Q : α → Shared → Prop} (h : wpS M A m Q E s) : wpS M A (holding vs m) Q E s := fun Γ p a b c => by
  rw [Sem.wp_holding]; exact h Γ p a b c
theorem Calm.cons {c : Code} {p : Pos} {l : List (Code × Pos)} (h : calm c = true) (k : Calm l) : Calm ((c, p) :: l) := fun q hq => by
  rcases List.mem_cons.mp hq with rfl | hq
  · exact h
  · exact k q hq
theorem wpS_run {c : Code} {h : Option Value} {Q : Flow → Shared → Prop}
    (hc : codeS M (A.mark h) c (fun r s' => match r with | .ok f => Q f s' | .error e => E e s') s) (hnb : h ≠ some byPass := by intro x; cases x) : wpS M A (run c h) Q E s := fun Γ p a b d => by
  rw [Sem.wp_run]; exact hc _ p rfl (a.enter c h p hnb) (Calm.cons b d)
theorem wpS_runValue {c : Code} {Q : Value → Shared → Prop}
    (hc : codeS M A c (fun r s' => match r with | .ok (.ret v) => Q v s' | .ok _ => False | .error e => E e s') s) : wpS M A (runValue c) Q E s := fun Γ p a b d => by
  rw [Sem.wp_runValue]; exact hc _ p rfl (a.enter c none p (by intro x; cases x)) (Calm.cons b d)
theorem wpS_call {f : Value} {pos : List Value} {kw : List (Str × Value)} {Q : Value → Shared → Prop}
    (hc : codeS M A (.call f ⟨pos, kw⟩) (fun r s' => match r with | .ok (.ret v) => Q v s' | .ok _ => False | .error e => E e s') s) : wpS M A (call f pos kw) Q E s := wpS_runValue hc
theorem codeS_of_tree {c : Code} {R : Result → Shared → Prop} (hk : calm c = true)
    (h : wpS M (A.under c) (M.den c) (fun fin s' => match fin with | .done f => R (.ok f) s' | .again c' => c'.quiet = true ∧ codeS M A c' R s') (fun e s' => R (.error e) s') s) : codeS M A c R s := fun Γ p hc hΓ d => by
  rw [wpCode_iff_wp, hc]
  refine Sem.wp_mono M Γ _ (fun fin p' s' h' => ?_) (fun _ _ _ h' => h') p s (h Γ p (hc ▸ hΓ.in) (hc ▸ hk) d)
  cases fin with
  | done f => exact h'
  | again c' => exact ⟨h'.1, h'.2 (Γ.goto c') p' rfl (hΓ.goto c') d⟩
theorem codeS_loop {c : Code} {R : Result → Shared → Prop} (hk : calm c = true) (hq : c.quiet = true) (I : Nat → Shared → Prop)
    (turn : ∀ n s, I n s → wpS M (A.under c) (M.den c)
      (fun fin s' => match fin with | .done f => R (.ok f) s' | .again c' => (c' = c ∧ ∃ m, m < n ∧ I m s') ∨ (c'.quiet = true ∧ codeS M A c' R s')) (fun e s' => R (.error e) s') s)
    (n : Nat) (h : I n s) : codeS M A c R s := by
  induction n using Nat.strongRecOn generalizing s with
  | ind n ih =>
    refine codeS_of_tree hk (wpS_mono (turn n s h) (fun fin s' hf => ?_) fun _ _ h' => h')
    cases fin with
    | done f => exact hf
    | again c' =>
      rcases hf with ⟨rfl, m, hm, hI⟩ | hf
      · exact ⟨hq, ih m hm hI⟩
      · exact hf
open Builtin.Bytes in
/-- no code on a calm stack holds the bytearray -/
theorem wpS_exported {v : Value} {Q : Bool → Shared → Prop} (h : Q false s) : wpS M A (exported v) Q E s := fun Γ p _ b c => by
  have hf : ∀ q ∈ (Γ.code, p) :: Γ.below, calm q.1 = true := Calm.cons b c
  have key : ∀ (f : Code × Pos → Bool), (∀ q, calm q.1 = true → f q = false) → ((Γ.code, p) :: Γ.below).any f = false := fun f hq => by
    rw [List.any_eq_false]
    intro q hm
    rw [hq q (hf q hm)]
    exact Bool.false_ne_true
  unfold exported
  show Q (List.any _ _) s
  rw [key _ fun q hq => ?_]
  · exact h
  · obtain ⟨c, p⟩ := q
    cases c with
    | builtin id args =>
      have hn : (badIds.contains id) = false := Eq.mp (Bool.not_eq_true' _) hq
      have ne : ∀ {b : String}, (badIds.contains b) = true → ¬ (id = b) := fun hb e => absurd (hn.symm.trans (e ▸ hb)) Bool.noConfusion
      have hd : decodersThatHold.contains id = false := by
        unfold badIds at hn
        rw [List.contains_append] at hn
        exact (Bool.or_eq_false_iff.mp hn).2
      delta exported.match_1
      refine (dif_neg (ne (b := "bytearray.__contains__") (by decide +kernel))).trans ?_
      refine (dif_neg (ne (b := "bytearray.__mod__") (by decide +kernel))).trans ?_
      refine (dif_neg (ne (b := "bytearray.__rmod__") (by decide +kernel))).trans ?_
      refine (dif_neg (ne (b := "_struct.pack_into.held") (by decide +kernel))).trans ?_
      refine (dif_neg (ne (b := "bytearray.find.held") (by decide +kernel))).trans ?_
      obtain ⟨pos, kw⟩ := args
      cases pos with
      | nil => rfl
      | cons v l =>
        show (_ && decodersThatHold.contains id) = false
        rw [hd, Bool.and_false]
    | _ => rfl
end
end Mine
end

section
open PySem PySem.W PyProof.Rows
/-- between two texts: the walk forgets the lines of the text before, as a fresh process has none -/
theorem Mine.calm11 : ∀ (prog : Program) (w : World) (A : Around) (env : Env) (E : Value → Shared → Prop) (s : Shared) (Q : Flow → Shared → Prop), Q .next s → wpAny (model prog w) A (execs [] env) Q E s := by
  w_top off
  intro prog w A env E s Q h
  walk1
  exact h
end

section
open PySem PySem.W PyProof.Rows PySem.Calls
set_option Elab.async false
set_option maxRecDepth 100000
set_option maxHeartbeats 1000000
namespace Mine
section
variable {prog : Program} {w : World} {A : Around} {E : Value → Shared → Prop} {s : Shared}
theorem codeS_builtin {id : String} {args : Args} {b : Builtin} {R : Result → Shared → Prop} (hb : entryFor table id = some b) (hk : calm (.builtin id args) = true)
    (h : wpS (model prog w) (A.under (.builtin id args)) (b args)
      (fun fin s' => match fin with | .done f => R (.ok f) s' | .again c' => c'.quiet = true ∧ codeS (model prog w) A c' R s') (fun e s' => R (.error e) s') s) :
    codeS (model prog w) A (.builtin id args) R s := by
  refine codeS_of_tree hk ?_
  show wpS _ _ (match entryFor table id with | some b => b args | none => unsupported ((withoutEnding? id "#data").getD id)) _ _ s
  rw [hb]; exact h
theorem codeS_call_builtin {id : String} {args : Args} {b : Builtin} {R : Result → Shared → Prop} (hq : plainId id = true) (hb : entryFor table id = some b) (hk : (!badIds.contains id) = true)
    (h : wpAny (model prog w) A.in1 (checkBuiltinCall id args) (fun _ s₁ => wpS (model prog w) A.in1 (b args)
      (fun fin s' => match fin with | .done f => R (.ok f) s' | .again c' => c'.quiet = true ∧ codeS (model prog w) A c' R s') (fun e s' => R (.error e) s') s₁)
      (fun e s' => R (.error e) s') s) : codeS (model prog w) A (.call (.builtin id) args) R s := by
  refine codeS_of_tree rfl ?_
  show wpS _ A.in1 (do checkBuiltinCall id args; again (.builtin id args)) _ _ s
  refine wpS_step (wpAny_mono h (fun _ s₁ h₁ => wpS_pure ⟨plainId_quiet hq args, codeS_builtin hb hk ?_⟩) fun _ _ x => x)
  rw [Around.under_plainId hq args]
  exact h₁
theorem callTypeS {T newId initId : String} {Bi : Builtin} {args : List Value} {Q Q₁ : Value → Shared → Prop} (ft : TypeCalled T newId initId)
    (hct : checkTypeCall T ⟨args, []⟩ = pure ()) (entryI : entryFor table initId = some Bi) (hk : (!badIds.contains initId) = true)
    (hnew : codeAny (model prog w) A.in1 (.call (.builtin newId) ⟨.type T :: args, []⟩) (wants Q₁ E) s)
    (hnext : ∀ obj s₁, Q₁ obj s₁ → s₁.TypeIs obj T ∧ argsOk initId ⟨obj :: args, []⟩ ∧
      wpS (model prog w) A.in1.in1 (Bi ⟨obj :: args, []⟩)
        (fun fin s' => match fin with | .done f => wants (fun r s₂ => r = .none ∧ Q obj s₂) E (.ok f) s' | .again c' => c'.quiet = true ∧ codeS (model prog w) A.in1 c' (wants (fun r s₂ => r = .none ∧ Q obj s₂) E) s')
        (fun e s' => wants (fun r s₂ => r = .none ∧ Q obj s₂) E (.error e) s') s₁) :
    wpS (model prog w) A (call (.type T) args) Q E s := by
  obtain ⟨c, tl, hmro⟩ := ft.mro
  have hmade := ft.made
  have hsub := ft.sub
  refine wpS_call (codeS_of_tree rfl ?_)
  show wpS _ _ (callAny (.type T) _) _ _ _
  refine wpS_pure ⟨Code.quiet_builtin _ (by decide +kernel), codeS_builtin F.entry_type_call (show (!badIds.contains "type.__call__") = true by decide +kernel) ?_⟩
  rw [Around.under_plain (weight_type_call_type T args []) rfl]
  have h1 := ft.notType
  have h2 := ft.canCreate
  unfold Builtin.«type.__call__»
  dsimp only
  rw [if_neg (by rw [h1]; exact Bool.false_ne_true)]
  rw [if_neg (by rw [h2]; exact Bool.false_ne_true)]
  refine wpS_step (wpAny_of_eq hct ?_)
  refine wpS_step (wpAny_of_eq hmro ?_)
  rw [if_neg (by simp)]
  refine wpS_step (wpAny_of_eq hmade ?_)
  dsimp only
  refine wpS_step (wpAny_pure ?_)
  refine wpS_step (wpAny_holding (wpAny_call (codeAny_mono hnew fun r s₁ hr => ?_)))
  cases r with
  | error e => exact hr
  | ok fl =>
    cases fl with
    | ret obj =>
      obtain ⟨hT, hok, hsi⟩ := hnext _ _ hr
      have hli := ft.init.lookup
      have hbi := ft.init.bind obj
      dsimp only
      refine wpS_step (wpAny_isInstance hT hsub ?_)
      rw [if_neg (by decide)]
      refine wpS_bind (wpS_holding ?_)
      unfold callSpecial?
      refine wpS_step (wpAny_specialOf hT hli ?_)
      dsimp only
      refine wpS_holding ?_
      refine wpS_step (wpAny_of_eq hbi ?_)
      dsimp only
      refine wpS_bind (wpS_call (codeS_mono (codeS_call_builtin ft.init.plain entryI hk (ft.init.check _ _ _ _ _ _ _ _ hT hok hsi)) fun r₂ s₂ hr₂ => ?_))
      cases r₂ with
      | error e => exact hr₂
      | ok fl₂ =>
        cases fl₂ with
        | ret r =>
          obtain ⟨rfl, hq⟩ := hr₂
          refine wpS_pure ?_
          dsimp only
          rw [if_neg (by decide)]
          exact wpS_pure hq
        | _ => exact hr₂.elim
    | _ => exact hr.elim
end
end Mine
end

section
open PySem PySem.W PyProof.Rows
/-- between two texts: the walk forgets the lines of the text before, as a fresh process has none -/
theorem Mine.calm13 : ∀ (prog : Program) (w : World) (A : Around) (env : Env) (E : Value → Shared → Prop) (s : Shared) (Q : Flow → Shared → Prop), Q .next s → wpAny (model prog w) A (execs [] env) Q E s := by
  w_top off
  intro prog w A env E s Q h
  walk1
  exact h
end

section
open PySem PySem.W PyProof.Rows PySem.Calls
set_option Elab.async false
set_option maxRecDepth 100000
set_option maxHeartbeats 1000000
namespace Mine
theorem ba_mro : mroOf (.type "bytearray") = pure [.type "bytearray", .type "object"] := by rw [mroOf_type]; kernel_rfl
theorem ba_new : typeLookup (.type "bytearray") "__new__" = pure (some (.builtin "bytearray.__new__")) := by rw [typeLookup_type, builtinLookup_eq_fast]; kernel_rfl
theorem ba_slot (n : String) (id : String) (hl : typeLookup (.type "bytearray") (Str.ofString n) = pure (some (.builtin id))) (hs : splitId id = some ("bytearray", n)) (ho : withoutEnding? id "#opaque" = none) (hd : withoutEnding? id "#data" = none)
    (hk : (Manifest.find? "bytearray").bind (·.attrs.lookup n) = some .slot ∨ (Manifest.find? "bytearray").bind (·.attrs.lookup n) = some .method) (hq : plainId id = true) : Slot "bytearray" (Str.ofString n) id :=
  .of (owner := "bytearray") (n := n) hl hs ho hd hk (by rw [isSubtype_type]; kernel_rfl) hq
theorem ba_init : Slot "bytearray" "__init__" "bytearray.__init__" :=
  ba_slot _ _ (by rw [typeLookup_type, builtinLookup_eq_fast]; kernel_rfl) (by decide +kernel) (by decide +kernel) (by decide +kernel) (by first | exact .inl (by decide +kernel) | exact .inr (by decide +kernel)) (by decide +kernel)
theorem ba_extend : Slot "bytearray" "extend" "bytearray.extend" :=
  ba_slot _ _ (by rw [typeLookup_type, builtinLookup_eq_fast]; kernel_rfl) (by decide +kernel) (by decide +kernel) (by decide +kernel) (by first | exact .inl (by decide +kernel) | exact .inr (by decide +kernel)) (by decide +kernel)
theorem ba_len : Slot "bytearray" "__len__" "bytearray.__len__" :=
  ba_slot _ _ (by rw [typeLookup_type, builtinLookup_eq_fast]; kernel_rfl) (by decide +kernel) (by decide +kernel) (by decide +kernel) (by first | exact .inl (by decide +kernel) | exact .inr (by decide +kernel)) (by decide +kernel)
theorem ba_add : Slot "bytearray" "__add__" "bytearray.__add__" :=
  ba_slot _ _ (by rw [typeLookup_type, builtinLookup_eq_fast]; kernel_rfl) (by decide +kernel) (by decide +kernel) (by decide +kernel) (by first | exact .inl (by decide +kernel) | exact .inr (by decide +kernel)) (by decide +kernel)
theorem ba_called : TypeCalled "bytearray" "bytearray.__new__" "bytearray.__init__" :=
  ⟨by decide +kernel, by decide +kernel, ⟨_, _, ba_mro⟩, madeBy_type ba_mro ba_new (by decide +kernel), by decide +kernel, by rw [isSubtype_type]; kernel_rfl, ba_init⟩
theorem ba_call0 : checkTypeCall "bytearray" ⟨[], []⟩ = pure () := by kernel_rfl
theorem ba_call1 (a : Value) : checkTypeCall "bytearray" ⟨[a], []⟩ = pure () := by kernel_rfl
theorem ba_new0 : checkBuiltinCall "bytearray.__new__" ⟨[.type "bytearray"], []⟩ = pure () := by kernel_rfl
theorem ba_new1 (a : Value) : checkBuiltinCall "bytearray.__new__" ⟨[.type "bytearray", a], []⟩ = pure () := by kernel_rfl
theorem ba_plain : plainId "bytearray.__new__" = true := by decide +kernel
theorem ba_new_entry : entryFor table "bytearray.__new__" = some Builtin.«list.__new__» := entryFor_alias (id' := "list.__new__") (by kernel_rfl) rfl (by decide +kernel) (by kernel_rfl)
theorem ba_init_entry : entryFor table "bytearray.__init__" = some Builtin.«bytearray.__init__» := entryFor_of_tree (by kernel_rfl)
theorem ba_extend_entry : entryFor table "bytearray.extend" = some Builtin.«bytearray.extend» := entryFor_of_tree (by kernel_rfl)
theorem ba_len_entry : entryFor table "bytearray.__len__" = some Builtin.«bytearray.__len__» := entryFor_of_tree (by kernel_rfl)
theorem ba_add_entry : entryFor table "bytearray.__add__" = some Builtin.«bytearray.__add__» := entryFor_of_tree (by kernel_rfl)
theorem ba_owner : ("bytearray.__new__".splitOn ".__new__").headD "" = "bytearray" := by simp +decide [String.splitOn, String.splitOnAux]
theorem ba_sub : isSubtype (.type "bytearray") (.type "bytearray") = pure true := by rw [isSubtype_type]; kernel_rfl
theorem ba_init0 (a : Value) : argsOk "bytearray.__init__" ⟨[a], []⟩ := by unfold argsOk; kernel_rfl
theorem ba_init1 (a b : Value) : argsOk "bytearray.__init__" ⟨[a, b], []⟩ := by unfold argsOk; kernel_rfl
theorem ba_extend1 (a b : Value) : argsOk "bytearray.extend" ⟨[a, b], []⟩ := by unfold argsOk; kernel_rfl
theorem ba_buffer : typeLookup (.type "bytearray") "__buffer__" = pure (some (.builtin "bytearray.__buffer__")) := by rw [typeLookup_type, builtinLookup_eq_fast]; kernel_rfl
theorem ba_release : typeLookup (.type "bytearray") "__release_buffer__" = pure (some (.builtin "bytearray.__release_buffer__")) := by rw [typeLookup_type, builtinLookup_eq_fast]; kernel_rfl
theorem ba_index : typeLookup (.type "bytearray") "__index__" = pure none := by rw [typeLookup_type, builtinLookup_eq_fast]; kernel_rfl
/-- a bytearray that nobody else looks into -/
abbrev baObj (b : Array UInt8) : Obj := { cls := .type "bytearray", data := .bytearray b }
section
variable {prog : Program} {w : World} {A : Around} {E : Value → Shared → Prop} {s : Shared}
theorem ba_code_new {as : List Value} {Q₁ : Value → Shared → Prop} (hc : checkBuiltinCall "bytearray.__new__" ⟨.type "bytearray" :: as, []⟩ = pure ()) (h : Q₁ (.ref s.heap.objs.size) { s with heap := s.heap.push (baObj #[]) }) :
    codeAny (model prog w) A (.call (.builtin "bytearray.__new__") ⟨.type "bytearray" :: as, []⟩) (wants Q₁ E) s := by
  refine codeAny_of_tree ?_
  show wpAny _ A.in1 (do checkBuiltinCall "bytearray.__new__" ⟨.type "bytearray" :: as, []⟩; again (.builtin "bytearray.__new__" ⟨.type "bytearray" :: as, []⟩)) _ _ s
  refine wpAny_bind (wpAny_of_eq hc (wpAny_pure ⟨plainId_quiet ba_plain _, codeAny_builtin_stack ba_new_entry rfl fun p st => ?_⟩))
  rw [Around.under_plainId ba_plain _]
  have hsub := ba_sub
  have hown := ba_owner
  obtain ⟨hp, g, d, tk, os⟩ := s
  simp only [hown]
  wp_walk
  exact h
end
end Mine
end

section
open PySem PySem.W PyProof.Rows
/-- between two texts: the walk forgets the lines of the text before, as a fresh process has none -/
theorem Mine.calm15 : ∀ (prog : Program) (w : World) (A : Around) (env : Env) (E : Value → Shared → Prop) (s : Shared) (Q : Flow → Shared → Prop), Q .next s → wpAny (model prog w) A (execs [] env) Q E s := by
  w_top off
  intro prog w A env E s Q h
  walk1
  exact h
end

section
open PySem PySem.W PyProof.Rows PySem.Calls
set_option Elab.async false
set_option maxRecDepth 100000
set_option maxHeartbeats 1000000
namespace Mine
section
variable {prog : Program} {w : World} {A : Around} {E : Value → Shared → Prop} {s : Shared} {M : Model} {a : Addr} {b : Array UInt8}
theorem ba_ends : ("bytearray.__release_buffer__".endsWith ("." ++ "__release_buffer__")) = true := by decide +kernel
theorem ba_drop : "bytearray.__release_buffer__".dropRight ("__release_buffer__".length + 1) = "bytearray" := by decide +kernel
theorem ba_type (ho : s.heap.get? a = some (baObj b)) : s.TypeIs (.ref a) "bytearray" := ⟨_, ho, rfl⟩
theorem ba_ownRelease {Q : Bool → Shared → Prop} (ho : s.heap.get? a = some (baObj b)) (h : Q false s) : wpAny M A (Builtin.Bytes.ownRelease (.ref a)) Q E s := by
  unfold Builtin.Bytes.ownRelease Builtin.Bytes.slotIsOwn
  refine wpAny_bind (wpAny_bind (wpAny_specialOf (ba_type ho) ba_release ?_))
  dsimp only
  rw [if_neg (by rw [ba_ends]; decide)]
  rw [ba_drop]
  refine wpAny_isInstance (ba_type ho) ba_sub ?_
  exact wpAny_pure h
theorem ba_exportsOf {Q : Nat → Shared → Prop} (ho : s.heap.get? a = some (baObj b)) (h : Q 0 s) : wpAny M A (Builtin.Bytes.exportsOf (.ref a)) Q E s := by
  unfold Builtin.Bytes.exportsOf
  dsimp only
  refine wpAny_bind (wpAny_load ho ?_)
  exact wpAny_pure h
theorem ba_payload {Q : Array UInt8 → Shared → Prop} (ho : s.heap.get? a = some (baObj b)) (h : Q b s) : wpAny M A (Builtin.Bytes.payload (.ref a)) Q E s := by
  unfold Builtin.Bytes.payload Builtin.Bytes.payload?
  dsimp only
  refine wpAny_bind (wpAny_bind (wpAny_load ho ?_))
  exact wpAny_pure (wpAny_pure h)
theorem ba_write {f : Array UInt8 → Array UInt8} {Q : Unit → Shared → Prop} (ho : s.heap.get? a = some (baObj b)) (hz : (f b).size ≤ 1000)
    (h : ∀ h', Heap.SameBut a s.heap h' → h'.get? a = some (baObj (f b)) → Q () { s with heap := h' }) : wpAny M A (Builtin.Bytes.write (.ref a) f) Q E s := by
  unfold Builtin.Bytes.write
  dsimp only
  unfold updateBytearray
  refine wpAny_bind (wpAny_load ho ?_)
  dsimp only
  refine wpAny_bind (wpAny_update ho ?_)
  have hs : (s.heap.update a (Obj.mapBytearray f)).get? a = some (baObj (f b)) := Heap.get?_update_self _ ho rfl
  refine wpAny_lookBehind (o := baObj (f b)) hs ?_ (h _ (Heap.SameBut.update ..) hs)
  show (if (f b).size > sizeLine then _ else _) = _
  rw [if_neg (by rw [sizeLine_eq]; omega)]
theorem wpS_orM {x y : Sem Bool} {Q : Bool → Shared → Prop} (h : wpS M A x (fun b s' => b = false ∧ wpS M A y Q E s') E s) : wpS M A (x <||> y) Q E s := by
  unfold orM
  refine wpS_bind (wpS_mono h (fun b s' q => ?_) fun _ _ e => e)
  obtain ⟨rfl, q⟩ := q
  exact q
/-- nobody holds the bytearray's memory -/
theorem ba_free {Q : Bool → Shared → Prop} (ho : s.heap.get? a = some (baObj b)) (h : Q false s) :
    wpS M A (Builtin.Bytes.exported (.ref a) <||> (do return (← Builtin.Bytes.exportsOf (.ref a)) > 0)) Q E s :=
  wpS_orM (wpS_exported ⟨rfl, wpS_step (ba_exportsOf ho (wpS_pure h))⟩)
theorem ba_resize {Q : Unit → Shared → Prop} (ho : s.heap.get? a = some (baObj b)) (h : Q () s) : wpS M A (Builtin.Bytes.checkResize (.ref a)) Q E s := by
  unfold Builtin.Bytes.checkResize
  refine wpS_bind (ba_free ho ?_)
  rw [if_neg (by decide)]
  exact wpS_pure h
theorem ba_bind0 : Builtin.Bytes.bindOptional "bytearray.__init__" "bytearray" ["source", "encoding", "errors"] [] [] = pure [none, none, none] := by kernel_rfl
theorem ba_bind1 (v : Value) : Builtin.Bytes.bindOptional "bytearray.__init__" "bytearray" ["source", "encoding", "errors"] [v] [] = pure [some v, none, none] := by kernel_rfl
/-- what is behind the making: a new bytearray -/
theorem ba_init_tree0 {P : Fin → Shared → Prop} {E' : Value → Shared → Prop} (ho : s.heap.get? a = some (baObj b))
    (h : ∀ h', Heap.SameBut a s.heap h' → h'.get? a = some (baObj #[]) → P (.done (.ret .none)) { s with heap := h' }) : wpS M A (Builtin.«bytearray.__init__» ⟨[.ref a], []⟩) P E' s := by
  unfold Builtin.«bytearray.__init__»
  dsimp only
  refine wpS_step (ba_ownRelease ho ?_)
  rw [if_neg (by decide)]
  refine wpS_step (wpAny_of_eq ba_bind0 ?_)
  dsimp only
  refine wpS_step (wpAny_of_eq (a := ()) rfl ?_)
  refine wpS_step (wpAny_of_eq (a := ()) rfl ?_)
  refine wpS_bind (ba_free ho ?_)
  rw [if_neg (by decide)]
  refine wpS_step (ba_write ho (Nat.zero_le _) fun h' hs hg => ?_)
  rw [if_neg (by decide), if_neg (by decide)]
  refine wpS_step (wpAny_pure ?_)
  exact wpS_pure (h h' hs hg)
theorem ba_buffer_full {c : Array UInt8} {t : Tok} {id : String} : Builtin.Bytes.buffer? id (.bytes c t) true = pure (some c) := by
  unfold Builtin.Bytes.buffer?
  rw [KBy.special_eq KBy.look_buffer, KBy.own_buffer, KBy.own_release]
  kernel_rfl
theorem ba_noindex : typeLookup (.type "bytes") "__index__" = pure none := by rw [typeLookup_type, builtinLookup_eq_fast]; kernel_rfl
/-- bytearray(b) of bytes -/
theorem ba_init_bytes {c : Array UInt8} {t : Tok} {P : Fin → Shared → Prop} {E' : Value → Shared → Prop} (ho : s.heap.get? a = some (baObj b)) (hc : c.size ≤ 1000)
    (h : ∀ h' k, Heap.SameBut a s.heap h' → h'.get? a = some (baObj c) → P (.done (.ret .none)) { s with heap := h', toks := k }) : wpS M A (Builtin.«bytearray.__init__» ⟨[.ref a, .bytes c t], []⟩) P E' s := by
  unfold Builtin.«bytearray.__init__»
  dsimp only
  refine wpS_step (ba_ownRelease ho ?_)
  rw [if_neg (by decide)]
  refine wpS_step (wpAny_of_eq (ba_bind1 _) ?_)
  dsimp only
  refine wpS_step (wpAny_of_eq (a := ()) rfl ?_)
  refine wpS_step (wpAny_of_eq (a := ()) rfl ?_)
  refine wpS_bind (ba_free ho ?_)
  rw [if_neg (by decide)]
  refine wpS_step (ba_write ho (Nat.zero_le _) fun h' hs hg => ?_)
  refine wpS_step (wpAny_of_eq (a := none) rfl ?_)
  rw [if_neg (by decide), if_neg (by decide), if_neg (by decide)]
  refine wpS_step (wpAny_pure ?_)
  refine wpS_step (wpAny_of_eq (KBy.special_eq ba_noindex) ?_)
  rw [if_neg (by decide)]
  refine wpS_step (wpAny_of_eq ba_buffer_full ?_)
  dsimp only
  refine wpS_step (wpAny_rule ?_)
  refine wpS_step (ba_write hg hc fun h2 hs2 hg2 => ?_)
  refine wpS_pure (h h2 s.toks (hs.trans hs2) hg2)
/-- bytearray(n) -/
theorem ba_init_int {i : Int} {t : Tok} {P : Fin → Shared → Prop} {E' : Value → Shared → Prop} (ho : s.heap.get? a = some (baObj b)) (h0 : 0 ≤ i) (h1 : i ≤ 1000)
    (h : ∀ h' k, Heap.SameBut a s.heap h' → h'.get? a = some (baObj (Array.replicate i.toNat 0)) → P (.done (.ret .none)) { s with heap := h', toks := k }) : wpS M A (Builtin.«bytearray.__init__» ⟨[.ref a, .int i t], []⟩) P E' s := by
  unfold Builtin.«bytearray.__init__»
  dsimp only
  refine wpS_step (ba_ownRelease ho ?_)
  rw [if_neg (by decide)]
  refine wpS_step (wpAny_of_eq (ba_bind1 _) ?_)
  dsimp only
  refine wpS_step (wpAny_of_eq (a := ()) rfl ?_)
  refine wpS_step (wpAny_of_eq (a := ()) rfl ?_)
  refine wpS_bind (ba_free ho ?_)
  rw [if_neg (by decide)]
  refine wpS_step (ba_write ho (Nat.zero_le _) fun h' hs hg => ?_)
  have e : asStr? (.int i t) = pure none := by kernel_rfl
  refine wpS_step (wpAny_of_eq e ?_)
  rw [if_neg (by decide), if_neg (by decide), if_neg (by decide)]
  refine wpS_step (wpAny_pure ?_)
  refine wpS_step (wpAny_specialOf (T := "int") (typeIs_int _ i t) int_index ?_)
  rw [if_pos (by decide)]
  have e2 : asIndex (.int i t) = pure i := by kernel_rfl
  refine wpS_step (wpAny_attempt (wpAny_of_eq e2 ?_))
  dsimp only
  rw [if_neg (by simp only [Builtin.Bytes.fitsIndex, Bool.not_eq_true', Bool.and_eq_false_iff, decide_eq_false_iff_not]; omega)]
  rw [if_neg (by omega)]
  rw [if_neg (by simp only [beq_iff_eq]; omega)]
  rw [if_neg (by rw [KBy.tooLong_not (by omega)]; decide)]
  refine wpS_step (wpAny_rule ?_)
  by_cases hp : i > 0
  · rw [if_pos hp]
    refine wpS_step (ba_write hg (by rw [Array.size_replicate]; omega) fun h2 hs2 hg2 => ?_)
    exact wpS_step (wpAny_pure (wpS_pure (h h2 s.toks (hs.trans hs2) hg2)))
  · rw [if_neg hp]
    have e3 : Array.replicate i.toNat (0 : UInt8) = #[] := by rw [show i.toNat = 0 by omega]; rfl
    exact wpS_step (wpAny_pure (wpS_step (wpAny_pure (wpS_pure (h h' s.toks hs (e3 ▸ hg))))))
end
end Mine
end

section
open PySem PySem.W PyProof.Rows
/-- between two texts: the walk forgets the lines of the text before, as a fresh process has none -/
theorem Mine.calm17 : ∀ (prog : Program) (w : World) (A : Around) (env : Env) (E : Value → Shared → Prop) (s : Shared) (Q : Flow → Shared → Prop), Q .next s → wpAny (model prog w) A (execs [] env) Q E s := by
  w_top off
  intro prog w A env E s Q h
  walk1
  exact h
end

section
open PySem PySem.W PyProof.Rows PySem.Calls
set_option Elab.async false
set_option maxRecDepth 100000
set_option maxHeartbeats 1000000
namespace Mine
section
variable {prog : Program} {w : World} {A : Around} {E : Value → Shared → Prop} {s : Shared} {h₀ : Heap} {L : Addr} {Q : Value → Shared → Prop} {m : Str → Option Value} {news : List (Addr × Obj)}
/-- a new object at a that was changed since stands first on the ledger -/
theorem news_made {h : Heap} {a : Addr} {o p : Obj} (F : Fr h₀ L s.heap m) (N : News h₀ L s.heap news) (ha : a = s.heap.objs.size) (hs : Heap.SameBut a (s.heap.push o) h) (hp : h.get? a = some p) : Fr h₀ L h m ∧ News h₀ L h ((a, p) :: news) ∧ ∀ q ∈ news, q.1 < a := by
  subst ha
  have hn : h₀.get? s.heap.objs.size = none := by
    cases q : h₀.get? s.heap.objs.size with
    | none => rfl
    | some o => exact absurd (Heap.lt_size (F.keep _ _ q)) (Nat.lt_irrefl _)
  have hL : s.heap.objs.size ≠ L := Ne.symm (Nat.ne_of_lt F.ns.lt)
  refine ⟨(F.push o).change hs hL hn, fun q hq => ?_, fun q hq => Heap.lt_size (N q hq).1⟩
  rcases List.mem_cons.mp hq with rfl | hq
  · exact ⟨hp, hL, hn⟩
  · exact ⟨hs.extBut _ _ (Nat.ne_of_lt (Heap.lt_size (N q hq).1)) (Heap.get?_push_of_some _ (N q hq).1), (N q hq).2⟩
/-- bytearray() -/
theorem ba_mk0 (F : Fr h₀ L s.heap m) (N : News h₀ L s.heap news)
    (h : ∀ a h' k, Fr h₀ L h' m → News h₀ L h' ((a, baObj #[]) :: news) → (∀ q ∈ news, q.1 < a) → Q (.ref a) { s with heap := h', toks := k }) : wpS (model prog w) A (call (.type "bytearray") []) Q E s := by
  refine callTypeS (Q₁ := fun obj s₁ => obj = .ref s.heap.objs.size ∧ s₁ = { s with heap := s.heap.push (baObj #[]) }) ba_called ba_call0 ba_init_entry (by decide +kernel) (ba_code_new ba_new0 ⟨rfl, rfl⟩) ?_
  rintro obj s₁ ⟨rfl, rfl⟩
  have hS : (s.heap.push (baObj #[])).get? s.heap.objs.size = some (baObj #[]) := Heap.get?_push_size _ rfl
  refine ⟨ba_type hS, ba_init0 _, ba_init_tree0 hS fun h' hs hg => ?_⟩
  obtain ⟨F', N', l⟩ := news_made F N rfl hs hg
  exact ⟨rfl, h _ _ s.toks F' N' l⟩
theorem ba_mk_bytes {c : Array UInt8} {t : Tok} (F : Fr h₀ L s.heap m) (N : News h₀ L s.heap news) (hc : c.size ≤ 1000)
    (h : ∀ a h' k, Fr h₀ L h' m → News h₀ L h' ((a, baObj c) :: news) → (∀ q ∈ news, q.1 < a) → Q (.ref a) { s with heap := h', toks := k }) : wpS (model prog w) A (call (.type "bytearray") [.bytes c t]) Q E s := by
  refine callTypeS (Q₁ := fun obj s₁ => obj = .ref s.heap.objs.size ∧ s₁ = { s with heap := s.heap.push (baObj #[]) }) ba_called (ba_call1 _) ba_init_entry (by decide +kernel) (ba_code_new (ba_new1 _) ⟨rfl, rfl⟩) ?_
  rintro obj s₁ ⟨rfl, rfl⟩
  have hS : (s.heap.push (baObj #[])).get? s.heap.objs.size = some (baObj #[]) := Heap.get?_push_size _ rfl
  refine ⟨ba_type hS, ba_init1 _ _, ba_init_bytes hS hc fun h' k hs hg => ?_⟩
  obtain ⟨F', N', l⟩ := news_made F N rfl hs hg
  exact ⟨rfl, h _ _ k F' N' l⟩
theorem ba_mk_int {i : Int} {t : Tok} (F : Fr h₀ L s.heap m) (N : News h₀ L s.heap news) (h0 : 0 ≤ i) (h1 : i ≤ 1000)
    (h : ∀ a h' k, Fr h₀ L h' m → News h₀ L h' ((a, baObj (Array.replicate i.toNat 0)) :: news) → (∀ q ∈ news, q.1 < a) → Q (.ref a) { s with heap := h', toks := k }) : wpS (model prog w) A (call (.type "bytearray") [.int i t]) Q E s := by
  refine callTypeS (Q₁ := fun obj s₁ => obj = .ref s.heap.objs.size ∧ s₁ = { s with heap := s.heap.push (baObj #[]) }) ba_called (ba_call1 _) ba_init_entry (by decide +kernel) (ba_code_new (ba_new1 _) ⟨rfl, rfl⟩) ?_
  rintro obj s₁ ⟨rfl, rfl⟩
  have hS : (s.heap.push (baObj #[])).get? s.heap.objs.size = some (baObj #[]) := Heap.get?_push_size _ rfl
  refine ⟨ba_type hS, ba_init1 _ _, ba_init_int hS h0 h1 fun h' k hs hg => ?_⟩
  obtain ⟨F', N', l⟩ := news_made F N rfl hs hg
  exact ⟨rfl, h _ _ k F' N' l⟩
end
end Mine
end

section
open PySem PySem.W PyProof.Rows
/-- between two texts: the walk forgets the lines of the text before, as a fresh process has none -/
theorem Mine.calm19 : ∀ (prog : Program) (w : World) (A : Around) (env : Env) (E : Value → Shared → Prop) (s : Shared) (Q : Flow → Shared → Prop), Q .next s → wpAny (model prog w) A (execs [] env) Q E s := by
  w_top off
  intro prog w A env E s Q h
  walk1
  exact h
end

section
open PySem PySem.W PyProof.Rows PySem.Calls
set_option Elab.async false
set_option maxRecDepth 100000
set_option maxHeartbeats 1000000
namespace Mine
section
variable {prog : Program} {w : World} {A : Around} {E : Value → Shared → Prop} {s : Shared} {M : Model} {a d : Addr} {b c : Array UInt8}
theorem ba_take_bytes {id : String} {t : Tok} : Builtin.Bytes.takeBufferQuiet? id (.bytes c t) 0 = pure (some (c, none)) := by
  unfold Builtin.Bytes.takeBufferQuiet? Builtin.Bytes.takeBuffer?
  rw [KBy.special_eq KBy.look_buffer, KBy.own_buffer, show Builtin.Bytes.buffer? id (.bytes c t) (0 == Builtin.Bytes.fullReadOnly) = pure (some c) from (KBy.buffer_eq (b := c) (t := t) (id := id))]
  kernel_rfl
theorem ba_slotOwn {Q : Bool → Shared → Prop} (ho : s.heap.get? a = some (baObj b)) (h : Q true s) : wpAny M A (Builtin.Bytes.slotIsOwn (.ref a) "__buffer__") Q E s := by
  unfold Builtin.Bytes.slotIsOwn
  refine wpAny_bind (wpAny_specialOf (ba_type ho) ba_buffer ?_)
  dsimp only
  rw [if_neg (by rw [show ("bytearray.__buffer__".endsWith ("." ++ "__buffer__")) = true by decide +kernel]; decide)]
  rw [show "bytearray.__buffer__".dropRight ("__buffer__".length + 1) = "bytearray" by decide +kernel]
  exact wpAny_isInstance (ba_type ho) ba_sub h
theorem ba_buffer_ref {id : String} {f : Bool} {Q : Option (Array UInt8) → Shared → Prop} (ho : s.heap.get? a = some (baObj b)) (h : Q (some b) s) : wpAny M A (Builtin.Bytes.buffer? id (.ref a) f) Q E s := by
  unfold Builtin.Bytes.buffer?
  refine wpAny_bind (wpAny_specialOf (ba_type ho) ba_buffer ?_)
  dsimp only
  refine wpAny_bind (ba_slotOwn ho ?_)
  rw [if_neg (by decide)]
  refine wpAny_bind (wpAny_specialOf (ba_type ho) ba_buffer ?_)
  refine wpAny_bind (ba_ownRelease ho ?_)
  rw [if_neg (by decide)]
  exact wpAny_bind (ba_payload ho (wpAny_pure h))
theorem ba_quiet_ref {id : String} {Q : Option (Array UInt8) → Shared → Prop} (ho : s.heap.get? a = some (baObj b)) (h : Q (some b) s) : wpAny M A (Builtin.Bytes.bufferQuiet? id (.ref a)) Q E s := by
  unfold Builtin.Bytes.bufferQuiet?
  exact wpAny_bind (wpAny_attempt (ba_buffer_ref ho (wpAny_pure h)))
theorem ba_take_ref {id : String} {Q : Option (Array UInt8 × Option Value) → Shared → Prop} (ho : s.heap.get? a = some (baObj b)) (h : Q (some (b, none)) s) : wpAny M A (Builtin.Bytes.takeBufferQuiet? id (.ref a) 0) Q E s := by
  unfold Builtin.Bytes.takeBufferQuiet? Builtin.Bytes.takeBuffer?
  refine wpAny_bind (wpAny_attempt (wpAny_bind (wpAny_specialOf (ba_type ho) ba_buffer ?_)))
  dsimp only
  refine wpAny_bind (ba_slotOwn ho ?_)
  rw [if_neg (by decide)]
  refine wpAny_bind (wpAny_specialOf (ba_type ho) ba_buffer ?_)
  exact wpAny_bind (ba_buffer_ref ho (wpAny_pure (wpAny_pure h)))
/-- what is put behind a bytearray's end -/
theorem ba_atEnd {P : Fin → Shared → Prop} {E' : Value → Shared → Prop} (ho : s.heap.get? a = some (baObj b)) (hz : b.size + c.size ≤ 1000)
    (h : ∀ h', Heap.SameBut a s.heap h' → h'.get? a = some (baObj (b ++ c)) → P (.done (.ret .none)) { s with heap := h' }) :
    wpS M A (do
      if !c.isEmpty then Builtin.Bytes.checkResize (.ref a)
      Builtin.Bytes.write (.ref a) (· ++ c)
      ret .none) P E' s := by
  by_cases hc : (!c.isEmpty) = true
  · rw [if_pos hc]
    refine wpS_bind (ba_resize ho ?_)
    refine wpS_step (ba_write ho (by rw [Array.size_append]; exact hz) fun h' hs hg => ?_)
    exact wpS_pure (h h' hs hg)
  · rw [if_neg hc]
    refine wpS_step (ba_write ho (by rw [Array.size_append]; exact hz) fun h' hs hg => ?_)
    exact wpS_pure (h h' hs hg)
theorem ba_extend_bytes {t : Tok} {P : Fin → Shared → Prop} {E' : Value → Shared → Prop} (ho : s.heap.get? a = some (baObj b)) (hz : b.size + c.size ≤ 1000)
    (h : ∀ h', Heap.SameBut a s.heap h' → h'.get? a = some (baObj (b ++ c)) → P (.done (.ret .none)) { s with heap := h' }) : wpS M A (Builtin.«bytearray.extend» ⟨[.ref a, .bytes c t], []⟩) P E' s := by
  unfold Builtin.«bytearray.extend»
  refine wpS_step (wpAny_of_eq (a := (Value.ref a, Value.bytes c t)) (by kernel_rfl) ?_)
  dsimp only
  refine wpS_step (wpAny_of_eq (KBy.special_eq KBy.look_buffer) ?_)
  rw [if_pos (by decide)]
  refine wpS_step (wpAny_rule ?_)
  refine wpS_step (ba_payload ho ?_)
  refine wpS_step (wpAny_of_eq ba_take_bytes ?_)
  dsimp only
  rw [if_pos (by decide)]
  exact ba_atEnd ho hz h
theorem ba_extend_ref {P : Fin → Shared → Prop} {E' : Value → Shared → Prop} (ho : s.heap.get? a = some (baObj b)) (hd : s.heap.get? d = some (baObj c)) (hz : b.size + c.size ≤ 1000)
    (h : ∀ h', Heap.SameBut a s.heap h' → h'.get? a = some (baObj (b ++ c)) → P (.done (.ret .none)) { s with heap := h' }) : wpS M A (Builtin.«bytearray.extend» ⟨[.ref a, .ref d], []⟩) P E' s := by
  unfold Builtin.«bytearray.extend»
  refine wpS_step (wpAny_of_eq (a := (Value.ref a, Value.ref d)) (by kernel_rfl) ?_)
  dsimp only
  refine wpS_step (wpAny_specialOf (ba_type hd) ba_buffer ?_)
  rw [if_pos (by decide)]
  refine wpS_step (wpAny_rule ?_)
  refine wpS_step (ba_payload ho ?_)
  refine wpS_step (ba_take_ref hd ?_)
  dsimp only
  rw [if_pos (by decide)]
  exact ba_atEnd ho hz h
end
end Mine
end

section
open PySem PySem.W PyProof.Rows
/-- between two texts: the walk forgets the lines of the text before, as a fresh process has none -/
theorem Mine.calm21 : ∀ (prog : Program) (w : World) (A : Around) (env : Env) (E : Value → Shared → Prop) (s : Shared) (Q : Flow → Shared → Prop), Q .next s → wpAny (model prog w) A (execs [] env) Q E s := by
  w_top off
  intro prog w A env E s Q h
  walk1
  exact h
end

section
open PySem PySem.W PyProof.Rows PySem.Calls
set_option Elab.async false
set_option maxRecDepth 100000
set_option maxHeartbeats 1000000
namespace Mine
theorem ba_plainAttrs : PlainAttrs "bytearray" :=
  ⟨⟨"bytearray.__getattribute__", by rw [typeLookup_type, builtinLookup_eq_fast]; kernel_rfl, by decide +kernel⟩, by rw [typeLookup_type, builtinLookup_eq_fast]; kernel_rfl⟩
theorem ba_ext_type : typeOf (.builtin "bytearray.extend") = pure (.type "method_descriptor") := by show builtinType _ = _; rw [builtinType_eq_fast]; kernel_rfl
theorem ba_noR : typeLookup (.type "bytearray") (dunderR "add") = pure none := by rw [typeLookup_type, builtinLookup_eq_fast]; kernel_rfl
theorem ba_noFill : fillsNumberSlot (.type "bytearray") "add" = pure false := PySem.fillsNumberSlot_seq (id := "bytearray.__add__") (r := none) ba_add.lookup (by decide +kernel) ba_noR rfl
theorem ba_seq : seqSlot? (.type "bytearray") "__add__" = pure (some (.builtin "bytearray.__add__")) := PySem.seqSlot_of ba_add.lookup (by decide +kernel)
theorem ba_add_args (a b : Value) : argsOk "bytearray.__add__" ⟨[a, b], []⟩ := by unfold argsOk; kernel_rfl
theorem ba_len_args (a : Value) : argsOk "bytearray.__len__" ⟨[a], []⟩ := by unfold argsOk; kernel_rfl
theorem ba_nobytes : typeLookup (.type "bytearray") "__bytes__" = pure none := by rw [typeLookup_type, builtinLookup_eq_fast]; kernel_rfl
theorem ba_int_bytes : typeLookup (.type "int") "__bytes__" = pure none := by rw [typeLookup_type, builtinLookup_eq_fast]; kernel_rfl
section
variable {prog : Program} {w : World} {A : Around} {E : Value → Shared → Prop} {s : Shared} {a d : Addr} {b c : Array UInt8}
theorem ba_getMethod {pl : Sem Bool} {Q : Value × List Value → Shared → Prop} (ho : s.heap.get? a = some (baObj b)) (h : Q (.builtin "bytearray.extend", [.ref a]) s) : wpAny (model prog w) A (getMethod (.ref a) "extend" pl) Q E s :=
  getMethod_builtin (ba_type ho) ba_plainAttrs ba_extend ba_ext_type (fun _ e => by cases e; exact ⟨_, ho, rfl⟩) h
theorem ba_call_len {Q : Value → Shared → Prop} (ho : s.heap.get? a = some (baObj b)) (hz : b.size ≤ 1000) (h : ∀ t k, Q (.int (b.size : Nat) t) { s with toks := k }) : wpAny (model prog w) A (call (.builtin "len") [.ref a]) Q E s := by
  refine call_len_meets (n := (b.size : Nat)) (S := fun _ R s => s.heap.get? a = some (baObj b) ∧ R (.ok (.ret (.int (b.size : Nat) s.toks))) { s with toks := s.toks + 1 }) (ba_type ho) ba_len ba_len_entry (ba_len_args _) (Meets.of_wp fun prog w A R s hs => ?_) (by omega) (by omega) (fun Q' q => ⟨ho, q⟩) (h _ _)
  unfold Builtin.«bytearray.__len__»
  refine wpAny_bind (wpAny_of_eq (a := (Value.ref a, [])) (by kernel_rfl) ?_)
  refine wpAny_bind (ba_payload hs.1 ?_)
  exact wpAny_bind (wpAny_mkInt (wpAny_pure ⟨_, rfl, hs.2⟩))
theorem ba_binAdd {h₀ : Heap} {L : Addr} {m : Str → Option Value} {news : List (Addr × Obj)} {Q : Value → Shared → Prop} (F : Fr h₀ L s.heap m) (N : News h₀ L s.heap news) (hm : (a, baObj b) ∈ news) (hd : (d, baObj c) ∈ news) (hz : b.size + c.size ≤ 1000)
    (h : ∀ e h' k, Fr h₀ L h' m → News h₀ L h' ((e, baObj (b ++ c)) :: news) → (∀ q ∈ news, q.1 < e) → Q (.ref e) { s with heap := h', toks := k }) : wpAny (model prog w) A (binaryOp .Add (.ref a) (.ref d)) Q E s := by
  refine concat_meets (S := fun _ R s => s.heap.get? a = some (baObj b) ∧ s.heap.get? d = some (baObj c) ∧ R (.ok (.ret (.ref s.heap.objs.size))) { s with heap := s.heap.push (baObj (b ++ c)) }) (ba_type (N _ hm).1) (ba_type (N _ hd).1) ba_noFill ba_seq ba_add ba_add_entry (ba_add_args _ _) (Meets.of_wp fun prog w A R s hs => ?_)
    ⟨(N _ hm).1, (N _ hd).1, h _ _ _ (F.push _) (N.push F _) fun q hq => Heap.lt_size (N q hq).1⟩
  unfold Builtin.«bytearray.__add__»
  refine wpAny_bind (wpAny_of_eq (a := (Value.ref a, [Value.ref d])) (by kernel_rfl) ?_)
  dsimp only
  refine wpAny_bind (ba_buffer_ref hs.1 ?_)
  dsimp only
  refine wpAny_bind (ba_quiet_ref hs.2.1 ?_)
  dsimp only
  rw [if_neg (by rw [KBy.tooLong_not (by omega)]; decide)]
  unfold Builtin.Bytes.newBytearray
  exact wpAny_bind (wpAny_newObj_type (wpAny_pure ⟨_, rfl, hs.2.2⟩) (by show (b ++ c).size ≤ sizeLine; rw [Array.size_append, sizeLine_eq]; omega))
/-- bytes(a) of a bytearray -/
theorem ba_bytes {Q : Value → Shared → Prop} (ho : s.heap.get? a = some (baObj b)) (hz : b.size ≤ 1000) (h : ∀ t k, Q (.bytes b t) { s with toks := k }) : wpAny (model prog w) A (call (.type "bytes") [.ref a]) Q E s := by
  refine callType_codes (Q₁ := fun obj s₁ => s₁.TypeIs obj "bytes" ∧ Q obj s₁) F.bm_called (F.bm_typeCall _) F.entry_object_init ?_ fun obj s₁ h₁ => ⟨h₁.1, F.args_object_init_2 obj _, object_init_meets F.bm_called.init.lookup F.bm_called.made (by decide) prog w A.in1 _ s₁ ⟨h₁.1, rfl, h₁.2⟩⟩
  refine codeAny_of_tree ?_
  show wpAny _ A.in1.in1 (do checkBuiltinCall "bytes.__new__" ⟨[.type "bytes", .ref a], []⟩; again (.builtin "bytes.__new__" ⟨[.type "bytes", .ref a], []⟩)) _ _ s
  refine wpAny_bind (wpAny_of_eq (F.bm_newCall _) (wpAny_pure ⟨plainId_quiet F.bm_plain _, codeAny_builtin F.bm_entry ?_⟩))
  rw [Around.under_plainId F.bm_plain _]
  unfold Builtin.«bytes.__new__»
  refine wpAny_bind (wpAny_of_eq (a := true) rfl ?_)
  refine bm_if_false rfl ?_
  refine wpAny_bind (wpAny_of_eq F.bm_sub ?_)
  refine bm_if_false rfl ?_
  refine wpAny_bind (wpAny_of_eq (F.bm_bind _) ?_)
  refine wpAny_bind (wpAny_of_eq (a := ()) rfl ?_)
  refine wpAny_bind (wpAny_of_eq (a := ()) rfl ?_)
  refine bm_if_false rfl ?_
  refine wpAny_bind (wpAny_specialOf (ba_type ho) ba_nobytes ?_)
  refine wpAny_bind (wpAny_bind ?_)
  show wpAny _ _ (load a >>= _) _ _ _
  refine wpAny_bind (wpAny_load ho ?_)
  refine wpAny_pure (wpAny_pure ?_)
  refine bm_if_false rfl ?_
  refine wpAny_bind (wpAny_specialOf (ba_type ho) ba_index ?_)
  refine bm_if_true rfl ?_
  first
    | show wpAny _ _ (Builtin.Bytes.buffer? "bytes.__new__" (.ref a) true >>= _) _ _ _
    | (refine wpAny_bind ?_; show wpAny _ _ (Builtin.Bytes.buffer? "bytes.__new__" (.ref a) true >>= _) _ _ _)
  refine wpAny_bind (ba_buffer_ref ho ?_)
  dsimp only
  refine wpAny_bind (wpAny_rule ?_)
  refine wpAny_bind (wpAny_mkBytes ?_ (by rw [sizeLine_eq]; omega))
  exact wpAny_pure ⟨typeIs_bytes _ _ _, h _ _⟩
/-- bytes(i) of an int -/
theorem ba_bytes_int {i : Int} {u : Tok} {Q : Value → Shared → Prop} (h0 : 0 ≤ i) (h1 : i ≤ 1000) (h : ∀ t k, Q (.bytes (Array.replicate i.toNat 0) t) { s with toks := k }) : wpAny (model prog w) A (call (.type "bytes") [.int i u]) Q E s := by
  refine callType_codes (Q₁ := fun obj s₁ => s₁.TypeIs obj "bytes" ∧ Q obj s₁) F.bm_called (F.bm_typeCall _) F.entry_object_init ?_ fun obj s₁ h₁ => ⟨h₁.1, F.args_object_init_2 obj _, object_init_meets F.bm_called.init.lookup F.bm_called.made (by decide) prog w A.in1 _ s₁ ⟨h₁.1, rfl, h₁.2⟩⟩
  refine codeAny_of_tree ?_
  show wpAny _ A.in1.in1 (do checkBuiltinCall "bytes.__new__" ⟨[.type "bytes", .int i u], []⟩; again (.builtin "bytes.__new__" ⟨[.type "bytes", .int i u], []⟩)) _ _ s
  refine wpAny_bind (wpAny_of_eq (F.bm_newCall _) (wpAny_pure ⟨plainId_quiet F.bm_plain _, codeAny_builtin F.bm_entry ?_⟩))
  rw [Around.under_plainId F.bm_plain _]
  unfold Builtin.«bytes.__new__»
  refine wpAny_bind (wpAny_of_eq (a := true) rfl ?_)
  refine bm_if_false rfl ?_
  refine wpAny_bind (wpAny_of_eq F.bm_sub ?_)
  refine bm_if_false rfl ?_
  refine wpAny_bind (wpAny_of_eq (F.bm_bind _) ?_)
  refine wpAny_bind (wpAny_of_eq (a := ()) rfl ?_)
  refine wpAny_bind (wpAny_of_eq (a := ()) rfl ?_)
  refine bm_if_false rfl ?_
  refine wpAny_bind (wpAny_specialOf (T := "int") (typeIs_int _ i u) ba_int_bytes ?_)
  have e : asStr? (.int i u) = pure none := by kernel_rfl
  refine wpAny_bind (wpAny_bind (wpAny_of_eq e ?_))
  refine wpAny_pure ?_
  refine bm_if_false rfl ?_
  refine wpAny_bind (wpAny_specialOf (T := "int") (typeIs_int _ i u) int_index ?_)
  refine bm_if_false rfl ?_
  have e2 : asIndex (.int i u) = pure i := by kernel_rfl
  first
    | refine wpAny_bind (wpAny_attempt (wpAny_of_eq e2 ?_))
    | refine wpAny_bind (wpAny_bind (wpAny_attempt (wpAny_of_eq e2 ?_)))
  dsimp only
  rw [if_neg (by simp only [Builtin.Bytes.fitsIndex, Bool.not_eq_true', Bool.and_eq_false_iff, decide_eq_false_iff_not]; omega)]
  rw [if_neg (by omega)]
  rw [if_neg (by omega)]
  rw [if_neg (by rw [KBy.tooLong_not (by omega)]; decide)]
  refine wpAny_bind (wpAny_rule ?_)
  refine wpAny_bind (wpAny_mkBytes ?_ (by rw [Array.size_replicate, sizeLine_eq]; omega))
  exact wpAny_pure ⟨typeIs_bytes _ _ _, h _ _⟩
end
end Mine
end

section
open PySem PySem.W PyProof.Rows
/-- between two texts: the walk forgets the lines of the text before, as a fresh process has none -/
theorem Mine.calm23 : ∀ (prog : Program) (w : World) (A : Around) (env : Env) (E : Value → Shared → Prop) (s : Shared) (Q : Flow → Shared → Prop), Q .next s → wpAny (model prog w) A (execs [] env) Q E s := by
  w_top off
  intro prog w A env E s Q h
  walk1
  exact h
end

section
open PySem PySem.W PyProof.Rows PySem.Calls
set_option Elab.async false
set_option maxRecDepth 100000
set_option maxHeartbeats 1000000
namespace Mine
section
variable {M : Model} {A : Around} {env : Env} {E : Value → Shared → Prop} {s : Shared} {h0 : Heap} {k0 : Nat}
/-- the same of any tree: R tells the value too -/
theorem cutG {α : Type} {t : Sem α} (R : (α → Heap → Nat → Prop) → Prop) {Q : α → Shared → Prop}
    (h1 : ∀ Qb : α → Shared → Prop, R (fun a h tk => Qb a { s with heap := h, toks := tk }) → wpAny M A t Qb (fun _ _ => False) { s with heap := h0, toks := k0 })
    (h2 : R (fun a h tk => Q a { s with heap := h, toks := tk })) : wpAny M A t Q E { s with heap := h0, toks := k0 } :=
  wpAny_mono (h1 Q h2) (fun _ _ h => h) fun _ _ h => h.elim
end
/-- the walk stops here -/
structure Held (P : Prop) : Prop where
  out : P
/-- the surroundings and the frame get names of their own, which the walk sees through -/
theorem letA {α : Type} {M : Model} {A : Around} {t : Sem α} {Q : α → Shared → Prop} {E : Value → Shared → Prop} {s : Shared} : (let A1 := A; wpAny M A1 t Q E s) → wpAny M A t Q E s := id
theorem letE {M : Model} {A : Around} {env : Env} {body : List Stmt} {Q : Flow → Shared → Prop} {E : Value → Shared → Prop} {s : Shared} : (let e1 := env; wpAny M A (execs body e1) Q E s) → wpAny M A (execs body env) Q E s := id
theorem letAt {α : Type} {M : Model} {A : Around} {c : Code} {t : Sem α} {Q : α → Shared → Prop} {E : Value → Shared → Prop} {s : Shared} : (let A1 := A; _root_.PySem.wpAt M A1 c t Q E s) → _root_.PySem.wpAt M A c t Q E s := id
theorem letEt {M : Model} {A : Around} {env : Env} {body : List Stmt} {Q : Flow → Shared → Prop} {E : Value → Shared → Prop} {s : Shared} : (let e1 := env; _root_.PySem.wpAt M A (.func body e1) (execs body e1) Q E s) → _root_.PySem.wpAt M A (.func body env) (execs body env) Q E s := id
section
variable {G : Prop}
end
section
variable {a b c d e k n N : Nat}
theorem room0 (h : a + c < n) (q : Nat.ble n N = true) : a < N := Nat.lt_of_le_of_lt (Nat.le_add_right a c) (Nat.lt_of_lt_of_le h (Nat.le_of_ble_eq_true q))
theorem room1 (h : a + c < n) (q : (Nat.ble k c && Nat.ble n N) = true) : a + k < N := by
  have := Nat.le_of_ble_eq_true (Bool.and_eq_true_iff.mp q).1
  have := Nat.le_of_ble_eq_true (Bool.and_eq_true_iff.mp q).2
  omega
theorem room2 (h : a + c < n) (q : (Nat.ble (k + b) c && Nat.ble n N) = true) : a + k + b < N := Nat.add_assoc a k b ▸ room1 h q
theorem room3 (h : a + c < n) (q : (Nat.ble (k + (b + d)) c && Nat.ble n N) = true) : a + k + b + d < N := by
  have := Nat.le_of_ble_eq_true (Bool.and_eq_true_iff.mp q).1
  have := Nat.le_of_ble_eq_true (Bool.and_eq_true_iff.mp q).2
  omega
theorem room4 (h : a + c < n) (q : (Nat.ble (k + (b + (d + e))) c && Nat.ble n N) = true) : a + k + b + d + e < N := by
  have := Nat.le_of_ble_eq_true (Bool.and_eq_true_iff.mp q).1
  have := Nat.le_of_ble_eq_true (Bool.and_eq_true_iff.mp q).2
  omega
end
end Mine
end

section
open PySem PySem.W PyProof.Rows
/-- between two texts: the walk forgets the lines of the text before, as a fresh process has none -/
theorem Mine.calm25 : ∀ (prog : Program) (w : World) (A : Around) (env : Env) (E : Value → Shared → Prop) (s : Shared) (Q : Flow → Shared → Prop), Q .next s → wpAny (model prog w) A (execs [] env) Q E s := by
  w_top off
  intro prog w A env E s Q h
  walk1
  exact h
end

section
open PySem PySem.W PyProof.Rows PySem.Calls
set_option Elab.async false
set_option maxRecDepth 100000
set_option maxHeartbeats 1000000
namespace Mine
section
variable {prog : Program} {w : World} {A₀ A : Around} {s : Shared} {base h₀ g₀ : Heap} {outer : List Env} {L : Addr} {m : Str → Option Value} {env : Env} {news : List (Addr × Obj)} {K : Frag} {p : Program} {loose : List Str} {mean : ExcName → Option Value} {mg mb : Str → Option Value}
  {R : Result → Shared → Prop} {name qual : Str} {params : Arguments} {body : List Stmt} {scope : Scope} {dV kV doc pm cdv ct oc : Value} {an od : Option Addr} {osl : Array (Option Value)} {f : Addr} {args : Args} {binds : List (Str × Value)}
/-- a def without cells is called, and raises nothing: its body is walked to posts that are open -/
theorem code_own (B : Below A₀ base outer h₀) (F : Fr h₀ L s.heap m) (X₀ : K.In h₀) (N : News h₀ L s.heap news) (T : Top p loose mean mg mb h₀) (hA : A.frames = some (env :: outer)) (hf : env.frame = some L) (hke : env.scope.kind = .function)
    (ho : K.lookup f = some ⟨oc, od, .func (fnOf name qual params body scope dV kV doc pm an cdv ct), osl⟩) (hcd : codeIn K cdv qual = true) (hroom : A.depth < recursionLimit)
    (hbind : BindsTo s (fnOf name qual params body scope dV kV doc pm an cdv ct) args binds) (hloc : ∀ y ∈ binds, scope.names.lookup y.1 = some .local)
    (h : ∀ g L' h₁, Fr h₀ L g m → Fr g L' h₁ (fun y => binds.reverse.lookup y) → News g L' h₁ news → Below A base (env :: outer) g → K.In g → Top p loose mean mg mb g →
      ∀ Qb : Flow → Shared → Prop, (∀ fl s', LeaveK h₀ L m g R (match fl with | .ret v => v | _ => .none) s' → Qb fl s') →
      wpAny (model prog w) (A.deeper (envOf qual scope L' f cdv)) (execs body (envOf qual scope L' f cdv))
        Qb (fun _ _ => False)
        { s with heap := h₁, toks := s.toks + binds.length })
    (hcell : ∀ x ∈ scope.names, x.2 ≠ .cell) (hco : scope.isCoroutine = false) (hgen : scope.isGenerator = false) (hk : scope.kind = .function) : codeAny (model prog w) A (.call (.ref f) args) R s := by
  obtain ⟨FG, BG, st, lv⟩ := groundX (R := R) B F N hA hf hke
  have X := X₀.keeps F.keep
  refine codeAny_call_def (fd := fnOf name qual params body scope dV kV doc pm an cdv ct) (body := body) (binds := binds) hroom (X _ _ ho) rfl (T.nolimit.keeps F.keep) (codeRec_of X hcd) rfl hbind hcell hloc (fun h₁ hns hk₁ => ?_) hco hgen hk
  exact wpAny_mono (h _ s.heap.objs.size h₁ FG ⟨hns, fun b o e => hk₁ b o (of_hideAll _ e), Nat.le_of_eq (hideAll_size _ _)⟩
    (fun p hp => ⟨hk₁ _ _ (N p hp).1, Nat.ne_of_lt (Heap.lt_size (N p hp).1), hideAll_none _ (List.mem_map_of_mem hp)⟩) BG (X₀.keeps st) (T.keeps st) _ fun _ _ hl => hl) (fun fl s' hl => lv _ _ hl) fun _ _ y => y.elim
variable {cc : Addr}
end
end Mine
end

section
open PySem PySem.W PyProof.Rows
/-- between two texts: the walk forgets the lines of the text before, as a fresh process has none -/
theorem Mine.calm27 : ∀ (prog : Program) (w : World) (A : Around) (env : Env) (E : Value → Shared → Prop) (s : Shared) (Q : Flow → Shared → Prop), Q .next s → wpAny (model prog w) A (execs [] env) Q E s := by
  w_top off
  intro prog w A env E s Q h
  walk1
  exact h
end

section
open PySem PySem.W PyProof.Rows PySem.Calls
set_option Elab.async false
set_option maxRecDepth 100000
set_option maxHeartbeats 1000000
namespace Mine
section
variable {prog : Program} {w : World} {A : Around} {s : Shared} {R : Result → Shared → Prop}
theorem codeS_func {body : List Stmt} {env : Env}
    (h : wpS (model prog w) (A.deeper env) (execs body env) (fun f s' => R (.ok (.ret (match f with | .ret v => v | _ => .none))) s')
      (fun e s' => wpS (model prog w) (A.deeper env) (leaving env e) (fun _ s'' => R (.error e) s'') (fun e' s'' => R (.error e') s'') s') s) : codeS (model prog w) A (.func body env) R s := by
  refine codeS_of_tree rfl ?_
  show wpS _ (A.deeper env) (do point; match ← (execs body env).onRaise (leaving env) with | .ret v => ret v | _ => ret .none) _ _ s
  refine wpS_step (wpAny_point (wpS_bind (wpS_onRaise (wpS_mono h (fun f s' h' => ?_) fun _ _ h' => h'))))
  cases f <;> exact wpS_pure h'
theorem codeS_call_function {a : Addr} {args : Args} {o : Obj} {fd : FuncData} {body : List Stmt} (hroom : A.depth < recursionLimit) (ho : s.heap.get? a = some o)
    (hd' : o.data = .func fd) (hco : fd.scope.isCoroutine = false) (hgen : fd.scope.isGenerator = false) (hbody : fd.body = .stmts body) (hcd : s.heap.CodeRec fd.code fd.qualname)
    (h : wpAny (model prog w) A.in1 (bindArgs fd args) (fun binds s₁ =>
      wpAny (model prog w) A.in1 (newFunctionEnv fd.scope fd.globals fd.closure binds (fd.qualname ++ ".<locals>.") (some a) fd.code none fd.builtins)
        (fun env s₂ => s₂.heap.NoLimit ∧ codeS (model prog w) A (.func body env) R s₂) (fun e s' => R (.error e) s') s₁) (fun e s' => R (.error e) s') s) : codeS (model prog w) A (.call (.ref a) args) R s := by
  refine codeS_of_tree rfl ?_
  show wpS _ A.in1 (callAny (.ref a) args) _ _ s
  simp only [callAny]
  refine wpS_step (wpAny_load ho ?_)
  obtain ⟨c, oc, vs, tq, hc, hoc, hdc, hq⟩ := hcd
  simp only [hd', callFunction, hco, hgen, hbody, hc]
  rw [hc] at h
  refine wpS_step (m := field (.ref c) 1) (wpAny_field hoc hdc hq (wpS_step (wpAny_pure ?_)))
  exact wpS_step (wpAny_mono h (fun binds s₁ h₁ => wpS_step (wpAny_mono h₁ (fun env s₂ h₂ => wpS_step (wpAny_enterFrame h₂.1 hroom (wpS_pure (And.intro rfl h₂.2)))) fun _ _ h' => h')) fun _ _ h' => h')
end
section
variable {prog : Program} {w : World} {A₀ A : Around} {s : Shared} {base h₀ g₀ : Heap} {outer : List Env} {L : Addr} {m : Str → Option Value} {env : Env} {news : List (Addr × Obj)} {K : Frag} {p : Program} {loose : List Str} {mean : ExcName → Option Value} {mg mb : Str → Option Value}
  {R : Result → Shared → Prop} {name qual : Str} {params : Arguments} {body : List Stmt} {scope : Scope} {dV kV doc pm cdv ct oc : Value} {an od : Option Addr} {osl : Array (Option Value)} {f : Addr} {args : Args} {binds : List (Str × Value)}
/-- code_own over calm stacks -/
theorem codeS_own (B : Below A₀ base outer h₀) (F : Fr h₀ L s.heap m) (X₀ : K.In h₀) (N : News h₀ L s.heap news) (T : Top p loose mean mg mb h₀) (hA : A.frames = some (env :: outer)) (hf : env.frame = some L) (hke : env.scope.kind = .function)
    (ho : K.lookup f = some ⟨oc, od, .func (fnOf name qual params body scope dV kV doc pm an cdv ct), osl⟩) (hcd : codeIn K cdv qual = true) (hroom : A.depth < recursionLimit)
    (hbind : BindsTo s (fnOf name qual params body scope dV kV doc pm an cdv ct) args binds) (hloc : ∀ y ∈ binds, scope.names.lookup y.1 = some .local)
    (h : ∀ g L' h₁, Fr h₀ L g m → Fr g L' h₁ (fun y => binds.reverse.lookup y) → News g L' h₁ news → Below A base (env :: outer) g → K.In g → Top p loose mean mg mb g →
      ∀ Qb : Flow → Shared → Prop, (∀ fl s', LeaveK h₀ L m g R (match fl with | .ret v => v | _ => .none) s' → Qb fl s') →
      wpS (model prog w) (A.deeper (envOf qual scope L' f cdv)) (execs body (envOf qual scope L' f cdv))
        Qb (fun _ _ => False)
        { s with heap := h₁, toks := s.toks + binds.length })
    (hcell : ∀ x ∈ scope.names, x.2 ≠ .cell) (hco : scope.isCoroutine = false) (hgen : scope.isGenerator = false) (hk : scope.kind = .function) : codeS (model prog w) A (.call (.ref f) args) R s := by
  obtain ⟨FG, BG, st, lv⟩ := groundX (R := R) B F N hA hf hke
  have X := X₀.keeps F.keep
  have hlim := T.nolimit.keeps F.keep
  refine codeS_call_function (fd := fnOf name qual params body scope dV kV doc pm an cdv ct) (body := body) hroom (X _ _ ho) rfl hco hgen rfl (codeRec_of X hcd) (hbind _ _ _ _ ?_)
  refine wpAny_newFunctionEnv hcell hloc (fun h₁ hns hsb => ⟨hlim.fresh _ hsb, codeS_func ?_⟩) hk
  have hk₁ : ∀ b o, s.heap.get? b = some o → h₁.get? b = some o := fun b o e => hsb.extBut b o (Nat.ne_of_lt (Heap.lt_size e)) (Heap.get?_push_of_some _ e)
  exact wpS_mono (h _ s.heap.objs.size h₁ FG ⟨hns, fun b o e => hk₁ b o (of_hideAll _ e), Nat.le_of_eq (hideAll_size _ _)⟩
    (fun p hp => ⟨hk₁ _ _ (N p hp).1, Nat.ne_of_lt (Heap.lt_size (N p hp).1), hideAll_none _ (List.mem_map_of_mem hp)⟩) BG (X₀.keeps st) (T.keeps st) _ fun _ _ hl => hl) (fun fl s' hl => lv _ _ hl) fun _ _ y => y.elim
end
section
variable {M : Model} {A : Around} {env : Env} {E : Value → Shared → Prop} {s : Shared} {h0 : Heap} {k0 : Nat}
theorem wpS_execs_cons {st : Stmt} {rest : List Stmt} {Q : Flow → Shared → Prop}
    (h : wpS M A (exec st env) (fun f s' => match f with | .next => wpS M A (execs rest env) Q E s' | f => Q f s') E s) : wpS M A (execs (st :: rest) env) Q E s := by
  rw [execs_cons]
  refine wpS_bind (wpS_mono h (fun f s' q => ?_) fun _ _ e => e)
  cases f <;> first | exact q | exact wpS_pure q
/-- a statement walked over calm stacks alone -/
theorem cutSS (R : (Heap → Nat → Prop) → Prop) {st : Stmt} {rest : List Stmt} {Q : Flow → Shared → Prop}
    (h1 : ∀ Qb : Flow → Shared → Prop, R (fun h tk => Qb .next { s with heap := h, toks := tk }) → wpS M A (exec st env) Qb (fun _ _ => False) { s with heap := h0, toks := k0 })
    (h2 : R (fun h tk => wpS M A (execs rest env) Q E { s with heap := h, toks := tk })) : wpS M A (execs (st :: rest) env) Q E { s with heap := h0, toks := k0 } :=
  wpS_execs_cons (wpS_mono (h1 (fun f s' => match f with | .next => wpS M A (execs rest env) Q E s' | f => Q f s') h2) (fun _ _ h => h) fun _ _ h => h.elim)
end
end Mine
end

section
open PySem PySem.W PyProof.Rows
/-- between two texts: the walk forgets the lines of the text before, as a fresh process has none -/
theorem Mine.calm29 : ∀ (prog : Program) (w : World) (A : Around) (env : Env) (E : Value → Shared → Prop) (s : Shared) (Q : Flow → Shared → Prop), Q .next s → wpAny (model prog w) A (execs [] env) Q E s := by
  w_top off
  intro prog w A env E s Q h
  walk1
  exact h
end

section
open PySem PySem.W PyProof.Rows PySem.Calls PySem.Spec
set_option Elab.async false
set_option maxRecDepth 100000
set_option maxHeartbeats 1000000
namespace Mine
/-- the caller's stack is calm: a tree that ends over calm stacks ends as a thread -/
theorem thread_endsS {prog : Program} {w : World} {t : Sem Fin} {s : Shared} {R : Result → Shared → Prop} (hz : s.asleep)
    (h : wpS (model prog w) callerA t (fun fin s' => ∃ f, fin = .done f ∧ (R (.ok f) s' ∧ leftWithCleanup s'.gens = false)) (fun e s' => R (.error e) s' ∧ leftWithCleanup s'.gens = false) s) :
    ∃ n r s' s'', runN (denote table) prog w n s ⟨t, .builtin "claim.caller" {}, default, []⟩ = .halted (outcomeOf r) s' ∧
      schedN (denote table) prog w n (.single s ⟨t, .builtin "claim.caller" {}, default, []⟩) = .halted (outcomeOf r) s' ∧ s'.forget = s''.forget ∧ R r s'' := by
  have hc := h ⟨.builtin "claim.caller" {}, none, none, [], none⟩ default caller_in (by decide +kernel) (fun q hq => nomatch hq)
  have hw : Sem.wp (model prog w) ⟨.builtin "claim.caller" {}, none, none, [], none⟩ t (Sem.finPost (model prog w) ⟨.builtin "claim.caller" {}, none, none, [], none⟩ fun r s' => R r s' ∧ leftWithCleanup s'.gens = false) (fun e _ s' => R (.error e) s' ∧ leftWithCleanup s'.gens = false) default s :=
    Sem.wp_mono (model prog w) _ t (fun fin p s' hf => by obtain ⟨f, rfl, hf⟩ := hf; exact hf) (fun _ _ _ x => x) default s hc
  obtain ⟨n, r, s₁, s₂, a, b, c, d⟩ := wp_halts_full (M := model prog w) (R := R) hz hw
  exact ⟨n, r, s₂, s₁, b, a, c, d⟩
theorem by_no {G : Prop} (h : (G → False) → False) : G := Classical.byContradiction h
/-- how the caller's call ends -/
def EndR (r : OpenRow) (s s₁ : Shared) (args : List WData) (vs : List Value) (rs : Result) (s' : Shared) : Prop :=
  r.claim.Ends s args vs s₁ rs s' ∧ s'.os = s.os ∧ (r.writes = true → namesKept r.prog r.keeps s.heap s'.heap ∧ ∀ x ∈ r.records, ∀ a, classAt s.heap x.1 = some a → recordClass s'.heap a x.1 (x.2.map (·.1)) = true)
abbrev WalkS (q : Program) (loose : List Str) (XP : (Str → Option Value) → Heap → Prop) (YP : World → Heap → Prop) (r : RowW) (d : DefRec) (kwd : List (Str × Expr)) : Prop :=
  ∀ (w : World) (s₀ s₁ : Shared) (mg mb : Str → Option Value), Ground q loose r.records XP w s₀ mg mb s₁.heap → YP w s₁.heap → ∀ (a : Addr) (o : Obj) (pm cd doc dV kV : Value), s₁.heap.get? a = some o →
    o.data = .func { docDef d.name d.params d.body d.scope pm cd doc with defaults := dV, kwdefaults := kV } → s₁.heap.CodeRec cd d.name → Dflts mg s₁.heap d.params kwd dV kV → mg d.name = some (.ref a) → s₁.gens = #[] →
    ∀ (args : List WData) (vals : List Value) (as : List Addr), r.claim.pre args = true → WData.layableAll args = true → ReadsAllW r.records (classAt s₀.heap) s₁.heap vals args as → WellAll w.params s₁.heap vals args → (∀ a ∈ as, (a == sysModules) = false) →
      wpS (model r.prog w) callerA (PySem.call (.ref a) vals) (fun v s' => GoodWG r.claim (classAt s₀.heap) (ExcName.means s₀.heap) args s₁ (.ok (.ret v)) s')
        (fun e s' => GoodWG r.claim (classAt s₀.heap) (ExcName.means s₀.heap) args s₁ (.error e) s') s₁
/-- holds_open, where the walk speaks of calm stacks alone -/
theorem holds_openS {r : OpenRow} {q : Program} {loose : List Str} {Xt : Shared → Bool} {XP : (Str → Option Value) → Heap → Prop} {α : Type} {Yf : Shared → α} {Ya : World → α} {YP : World → Heap → Prop} {d : DefRec} {kwd : List (Str × Expr)} {N : Nat}
    (left : LeftO r.prog q loose Xt Yf Ya N) (hY : ∀ w s, Yf s = Ya w → YP w s.heap) (hYk : ∀ w h h', YP w h → (∀ b o, h.get? b = some o → h'.get? b = some o) → YP w h')
    (hX : ∀ s, Xt s = true → XP (s.heap.nsMap mainGlobals) s.heap) (hXk : ∀ mg h h', XP mg h → (∀ b o, h.get? b = some o → h'.get? b = some o) → XP mg h')
    (hdef : defOf q r.name = some (d, kwd)) (hp : r.prog.theDef r.name = some (d.params, d.body, d.scope)) (hk : kwWritten? d.params.kwonlyargs d.params.kw_defaults = some kwd) (hRf : ∀ s, Xt s = true → RecFacts r.records s.heap) (hwr : (!r.writes || r.records.isEmpty) = true)
    (k1 : r.wellSaid = true) (ok : (chainsOk q && opensWell r.prog && (frees r.toRowW && r.within.isEmpty)) = true) (hb : r.prog.bare) (hw : r.toRowW.promised)
    (call : WalkS q loose XP YP r.toRowW d kwd) : r.Holds := by
  obtain ⟨okA, okB⟩ := Bool.and_eq_true_iff.mp ok
  obtain ⟨chains, opens⟩ := Bool.and_eq_true_iff.mp okA
  obtain ⟨okF, okW⟩ := Bool.and_eq_true_iff.mp okB
  obtain ⟨fs, fu, fa, fp, fm⟩ := frees_parts okF
  refine ⟨k1, hw, ⟨hb, opens, by show r.toRowW.makers.map _ = []; rw [fm]; rfl⟩, hw.witness, fun w => ⟨(left.behind hX chains w).1, fun se hse => ?_⟩⟩
  refine by_no fun no => ?_
  obtain ⟨s₀, q1, q2, s, TR, hz, hge, hg, G2, y⟩ := (left.behind (XP := fun mg h => XP mg h ∧ RecFacts r.records h) (fun s hs => ⟨hX s hs, hRf s hs⟩) chains w).2 se hse
  have RF := G2.X.2
  have G1 : Ground q loose [] XP w s (s.heap.nsMap mainGlobals) (s.heap.nsMap builtinsNs) s.heap := ⟨G2.T, G2.B, G2.D, G2.TE, G2.TD, G2.W, G2.X.1, G2.cls, G2.has, G2.apart, G2.once, G2.K⟩
  have nog : s.gens = #[] := Array.eq_empty_of_size_eq_zero (beq_iff_eq.mp hge)
  have GR : Ground q loose r.records XP w s _ _ s.heap := RF.ground G1
  refine no ⟨s₀, q1, q2, s, TR, fun n hn => ?_, RF.1, RF.2.1, fun args hpre hlay ord hord => ?_⟩
  · obtain rfl : n = r.name := by split at hn <;> simp_all
    exact pinned_of_view hg G1 hdef hp hk
  clear no
  refine by_no fun no => ?_
  obtain ⟨⟨vs, s₁⟩, laid⟩ := Option.isSome_iff_exists.mp (layAllW_isSome (P := w.params) (ord := ord) GR.has args r.args s (pre_splitW hpre).1)
  have keeps := layAllW_keeps _ _ _ laid
  have rst := layAllW_rest _ _ _ laid
  obtain ⟨as, hrd, hin, hold⟩ := reads_layAllW hord _ _ _ laid hlay s₁.heap (fun _ _ e => e)
  have LL : Laid r.records w s s₁ args vs as := ⟨⟨ord, hord, laid⟩, hrd, hin, hold, keeps, rst.1.trans nog, rst.2.2.1⟩
  have GK := GR.keeps hXk keeps
  obtain ⟨a, o, pm, cd, doc, dV, kV, h1, h2, h3, h4, h5⟩ := GK.fn hdef
  have walk := call w s s₁ _ _ GK (hYk _ _ _ (hY w s y) keeps) a o pm cd doc dV kV h2 h3 h4 h5 (defOf_name hdef ▸ h1) LL.gens args vs as hpre hlay LL.reads LL.well (LL.low GR.low)
  have free := ident_freeW fu fa fp
  have wi : r.claim.within = [] := List.isEmpty_iff.mp okW
  have good : ∀ (rs : Result) (s' : Shared), GoodWG r.claim (classAt s.heap) (ExcName.means s.heap) args s₁ rs s' →
      EndR r s s₁ args vs rs s' ∧ leftWithCleanup s'.gens = false := fun rs s' g => by
    have z := g.laid (c := r.claim) fs wi free LL
    exact ⟨⟨z.1, z.2.1, fun q => ⟨namesKept_of TR hg _ keeps g.2.1.old, noTable hwr q⟩⟩, leftWithCleanup_false_of_bare z.2.2⟩
  have tree : wpS (model r.prog w) callerA (do match ← nsGet mainNs r.name with
      | some f => do ret (← PySem.call f vs)
      | none => unsupported "claim.caller:no-such-global")
      (fun fin s' => ∃ f, fin = .done f ∧ (EndR r s s₁ args vs (.ok f) s' ∧ leftWithCleanup s'.gens = false))
      (fun e s' => EndR r s s₁ args vs (.error e) s' ∧ leftWithCleanup s'.gens = false) s₁ := by
    refine wpS_step (wpAny_nsGet GK.T.g ?_)
    rw [h1]
    exact wpS_bind (wpS_mono walk (fun v s' g => wpS_pure ⟨_, rfl, good _ _ g⟩) fun e s' g => good _ _ g)
  obtain ⟨k, rs, se', sf, run, sched, fo, case, hos, hkp⟩ := thread_endsS (prog := r.prog) (w := w) (s := s₁)
    (R := EndR r s s₁ args vs)
    (Shared.asleep_of_life rst.2.2.2 hz) tree
  obtain ⟨eh, _, _, eo, _⟩ := Shared.forget_eq fo
  have case := case.congr eh
  rw [← eo] at hos
  have life : se'.heap.life = s.heap.life := (runN_life _ _ _ run).trans rst.2.2.2
  refine no ⟨vs, s₁, laid, k, _, se', sched, ?_, (fun _ i x hx => by rw [nog] at hx; simp at hx), ?_, by rw [life], Shared.rest_eq hos⟩
  · rcases case with ⟨v, rfl, d1, d2, d3, d4, d5⟩ | ⟨e, ob, cls, rfl, d1, d2, d3, d4, d5⟩
    · exact .inl ⟨v, rfl, d1, d2, d3, fun b o y _ => d4 b o y, d5⟩
    · exact .inr ⟨e, ob, cls, rfl, d1, d2, d3, d4, fun b o y _ => d5 b o y⟩
  · intro q
    rw [eh]
    exact hkp q
end Mine
end

section
open PySem PySem.W PyProof.Rows
/-- between two texts: the walk forgets the lines of the text before, as a fresh process has none -/
theorem Mine.calm31 : ∀ (prog : Program) (w : World) (A : Around) (env : Env) (E : Value → Shared → Prop) (s : Shared) (Q : Flow → Shared → Prop), Q .next s → wpAny (model prog w) A (execs [] env) Q E s := by
  w_top off
  intro prog w A env E s Q h
  walk1
  exact h
end

section
open PySem PySem.W PyProof.Rows PySem.Calls
set_option Elab.async false
namespace Mine
section
variable {M : Model} {A : Around} {env : Env} {E : Value → Shared → Prop} {s : Shared}
/-- posts by name: a named post stores its arguments alone -/
abbrev ThenS (M : Model) (A : Around) (rest : List Stmt) (env : Env) (Q : Flow → Shared → Prop) (E : Value → Shared → Prop) : Flow → Shared → Prop :=
  fun f s' => match f with | .next => wpAny M A (execs rest env) Q E s' | f => Q f s'
theorem execs_consT {st : Stmt} {rest : List Stmt} {Q : Flow → Shared → Prop} (h : wpAny M A (exec st env) (ThenS M A rest env Q E) E s) : wpAny M A (execs (st :: rest) env) Q E s :=
  wpAny_execs_cons (wpAny_mono h (fun f s' h' => by cases f <;> exact h') fun _ _ e => e)
abbrev BinO (M : Model) (A : Around) (op : Operator) (a : Value) (Q : Value → Shared → Prop) (E : Value → Shared → Prop) : Value → Shared → Prop := fun b s₂ => wpAny M A (binaryOp op a b) Q E s₂
abbrev BinR (M : Model) (A : Around) (env : Env) (op : Operator) (r : Expr) (Q : Value → Shared → Prop) (E : Value → Shared → Prop) : Value → Shared → Prop := fun a s₁ => wpAny M A (eval r env) (BinO M A op a Q E) E s₁
theorem BinOpT {l : Expr} {op : Operator} {r : Expr} {pos : Pos} {Q : Value → Shared → Prop} (h : wpAny M A (eval l env) (BinR M A env op r Q E) E s) : wpAny M A (eval (.BinOp l op r pos) env) Q E s := wpAny_BinOp h
abbrev ArgC (v : Value) (Q : List Value → Shared → Prop) : List Value → Shared → Prop := fun vs s₂ => Q (v :: vs) s₂
abbrev ArgR (M : Model) (A : Around) (env : Env) (pos : Pos) (rest : List Expr) (Q : List Value → Shared → Prop) (E : Value → Shared → Prop) : Value → Shared → Prop := fun v s₁ => wpAny M A (spliced (backTo pos (starEach rest env))) (ArgC v Q) E s₁
theorem args_consT {e : Expr} {rest : List Expr} {pos : Pos} {Q : List Value → Shared → Prop} (h : wpAny M A (eval e env) (ArgR M A env pos rest Q E) E s)
    (he : starEach (e :: rest) env = (false, eval e env) :: starEach rest env := by rfl) : wpAny M A (spliced (backTo pos (starEach (e :: rest) env))) Q E s := args_cons h he
abbrev AttR (M : Model) (A : Around) (attr : Str) (Q : Value → Shared → Prop) (E : Value → Shared → Prop) : Value → Shared → Prop := fun o s₁ => wpAny M A (getAttr o attr true) Q E s₁
abbrev NxtR (Q : Flow → Shared → Prop) : Unit → Shared → Prop := fun _ => Q .next
abbrev AsgR (M : Model) (A : Around) (env : Env) (x : Str) (Q : Flow → Shared → Prop) (E : Value → Shared → Prop) : Value → Shared → Prop := fun v s₁ => wpAny M A (storeName env x v) (NxtR Q) E s₁
theorem AssignT {x : Str} {pos' : Pos} {value : Expr} {pos : Pos} {Q : Flow → Shared → Prop} (h : wpAny M A (eval value env) (AsgR M A env x Q E) E s)
    (hs : swapsWith value (some (.Name x pos')) pos.line env = pure false := by rfl) : wpAny M A (exec (.Assign [.Name x pos'] value pos) env) Q E s := wpAny_Assign_Name h hs
abbrev SlcC (l u : Value) (Q : Value → Shared → Prop) : Value → Shared → Prop := fun st s₃ => Q (.ref s₃.heap.objs.size) { s₃ with heap := s₃.heap.push { cls := .type "slice", data := .fields #[l, u, st] } }
abbrev SlcB (M : Model) (A : Around) (env : Env) (l : Value) (step : Option Expr) (Q : Value → Shared → Prop) (E : Value → Shared → Prop) : Value → Shared → Prop := fun u s₂ => wpAny M A (evalPart step env) (SlcC l u Q) E s₂
abbrev SlcA (M : Model) (A : Around) (env : Env) (upper step : Option Expr) (Q : Value → Shared → Prop) (E : Value → Shared → Prop) : Value → Shared → Prop := fun l s₁ => wpAny M A (evalPart upper env) (SlcB M A env l step Q E) E s₁
theorem SliceT {lower upper step : Option Expr} {p : Pos} {Q : Value → Shared → Prop} (h : wpAny M A (evalPart lower env) (SlcA M A env upper step Q E) E s) : wpAny M A (eval (.Slice lower upper step p) env) Q E s := wpAny_Slice h
/-- a local of a function's frame -/
def locOk (env : Env) (x : Str) : Bool := (match env.kindOf x with | some .local => true | _ => false) && (match env.scope.kind with | .function => true | _ => false) && !(x == ("__debug__" : Str))
end
section
variable {p : Program} {w : World} {A : Around} {env : Env} {E : Value → Shared → Prop} {s : Shared} {h₀ : Heap} {m : Str → Option Value} {x : Str} {v : Value}
theorem nameE {pos : Pos} {Q : Value → Shared → Prop} (c : locOk env x = true) (F : Fr h₀ env.locals s.heap m) (hv : m x = some v) (h : Q v s) : wpAny (model p w) A (eval (.Name x pos) env) Q E s := by
  unfold locOk at c
  have c1 := (Bool.and_eq_true_iff.mp (Bool.and_eq_true_iff.mp c).1).1
  have c2 := (Bool.and_eq_true_iff.mp (Bool.and_eq_true_iff.mp c).1).2
  have c3 := (Bool.and_eq_true_iff.mp c).2
  have e1 : env.kindOf x = some .local := by
    split at c1
    · assumption
    · cases c1
  have e2 : env.scope.kind = .function := by
    split at c2
    · assumption
    · cases c2
  have e3 : (x == ("__debug__" : Str)) = false := by
    cases h9 : (x == ("__debug__" : Str))
    · rfl
    · rw [h9] at c3; cases c3
  exact wpAny_Name (wpAny_loadName_local e2 e1 F.ns hv h) e3
theorem attrE {attr : Str} {xp pos : Pos} {Q : Value → Shared → Prop} (c : locOk env x = true) (F : Fr h₀ env.locals s.heap m) (hv : m x = some v) (h : wpAny (model p w) A (getAttr v attr true) Q E s) :
    wpAny (model p w) A (eval (.Attribute (.Name x xp) attr pos) env) Q E s := Attribute_Name_ (nameE c F hv h)
theorem argE {rest : List Expr} {xp pos : Pos} {Q : List Value → Shared → Prop} (c : locOk env x = true) (F : Fr h₀ env.locals s.heap m) (hv : m x = some v) (h : wpAny (model p w) A (spliced (backTo pos (starEach rest env))) (ArgC v Q) E s) :
    wpAny (model p w) A (spliced (backTo pos (starEach (.Name x xp :: rest) env))) Q E s := args_cons (nameE c F hv h)
theorem AttrT {value : Expr} {attr : Str} {pos : Pos} {Q : Value → Shared → Prop} (h : wpAny (model p w) A (eval value env) (AttR (model p w) A attr Q E) E s) (he : eval (.Attribute value attr pos) env = (do
      let o ← eval value env
      standAt pos.atName
      let r ← holding [o] (getAttr o attr true)
      letTemporaryGo value o r
      pure r) := by with_unfolding_all rfl) : wpAny (model p w) A (eval (.Attribute value attr pos) env) Q E s := Attribute_any_ h he
theorem storeE {news : List (Addr × Obj)} {Q : Unit → Shared → Prop} {hp : Heap} {gn : Array GenState} {dr : Drawn} {tk : Nat} {os : OsState} (c : locOk env x = true) (F : Fr h₀ env.locals hp m) (N : News h₀ env.locals hp news)
    (h : ∀ h', Fr h₀ env.locals h' (fun y => if y = x then some v else m y) → News h₀ env.locals h' news → Q () ⟨h', gn, dr, tk + 1, os⟩) : wpAny (model p w) A (storeName env x v) Q E ⟨hp, gn, dr, tk, os⟩ := by
  unfold locOk at c
  have c1 := (Bool.and_eq_true_iff.mp (Bool.and_eq_true_iff.mp c).1).1
  have c2 := (Bool.and_eq_true_iff.mp (Bool.and_eq_true_iff.mp c).1).2
  have e1 : env.kindOf x = some .local := by
    split at c1
    · assumption
    · cases c1
  have e2 : env.scope.kind = .function := by
    split at c2
    · assumption
    · cases c2
  exact wpAny_storeName_local e1 F.ns (fun h' hn hs => h h' (F.set hn hs) (N.set hs)) (by rw [e2]; rfl)
theorem skip_ne {x y : Str} {a b c : Option Value} (h : x ≠ y) (k : b = c) : (if x = y then a else b) = c := (if_neg h).trans k
end
section
variable {M : Model} {A : Around} {env : Env} {E : Value → Shared → Prop} {s : Shared} {K : Frag} {h₀ : Heap} {pos : Pos} {f : Value} {first : List Value} {Q : Value → Shared → Prop}
abbrev CallC (M : Model) (A : Around) (K : Frag) (f : Value) (first : List Value) (Q : Value → Shared → Prop) (E : Value → Shared → Prop) : List Value → Shared → Prop := fun vs s₁ => K.In s₁.heap ∧ wpAny M A (call f (first ++ vs)) Q E s₁
theorem callK {e : Expr} {rest : List Expr} {kw : List (Option Str × Sem Value)} (hw : kw = []) (X : K.In h₀) (hk : keepIn K f = true) (h : wpAny M A (spliced (backTo pos (starEach (e :: rest) env))) (CallC M A K f first Q E) E s)
    (he : starEach (e :: rest) env = (false, eval e env) :: starEach rest env) (hp : (backTo pos (starEach rest env)).any (·.1) = false) :
    wpAny M A (callWith pos f first (backTo pos (starEach (e :: rest) env)) kw) Q E s := by subst hw; exact callWith_K X hk h he hp
theorem callK0 {kw : List (Option Str × Sem Value)} (hw : kw = []) (X : K.In s.heap) (hk : keepIn K f = true) (h : wpAny M A (call f (first ++ [])) Q E s) : wpAny M A (callWith pos f first (backTo pos (starEach [] env)) kw) Q E s := by
  subst hw; exact callWith_K0 X hk h
theorem callM {L : Addr} {news : List (Addr × Obj)} {q g : Addr} {self : Value} {e : Expr} {rest : List Expr} {kw : List (Option Str × Sem Value)} (hw : kw = []) (X : K.In h₀) (N : News h₀ L s.heap news) (hq : (q, methodObj (.ref g) self) ∈ news) (hf : fnIn K g = true)
    (h : wpAny M A (spliced (backTo pos (starEach (e :: rest) env))) (fun vs s₁ => MethP K q g self s₁.heap ∧ wpAny M A (call (.ref q) (first ++ vs)) Q E s₁) E s)
    (he : starEach (e :: rest) env = (false, eval e env) :: starEach rest env) (hp : (backTo pos (starEach rest env)).any (·.1) = false) :
    wpAny M A (callWith pos (.ref q) first (backTo pos (starEach (e :: rest) env)) kw) Q E s := by subst hw; exact callWith_M X N hq hf h he hp
/-- a name that a function finds among the globals -/
def globOk (env : Env) (x : Str) : Bool := (match env.kindOf x with | some .globalImplicit => true | _ => false) && (match env.scope.kind with | .function => true | _ => false) && !(x == ("__debug__" : Str))
theorem globOk.all {x : Str} (c : globOk env x = true) : env.scope.kind = .function ∧ env.kindOf x = some .globalImplicit ∧ (x == ("__debug__" : Str)) = false := by
  unfold globOk at c
  have c1 := (Bool.and_eq_true_iff.mp (Bool.and_eq_true_iff.mp c).1).1
  have c2 := (Bool.and_eq_true_iff.mp (Bool.and_eq_true_iff.mp c).1).2
  have c3 := (Bool.and_eq_true_iff.mp c).2
  refine ⟨?_, ?_, ?_⟩
  · split at c2
    · assumption
    · cases c2
  · split at c1
    · assumption
    · cases c1
  · cases h9 : (x == ("__debug__" : Str))
    · rfl
    · rw [h9] at c3; cases c3
theorem nameG {L : Addr} {m mg mb : Str → Option Value} {p : Program} {loose : List Str} {x : Str} {v : Value} (c : globOk env x = true) (g : env.globals = mainGlobals) (F : Fr h₀ L s.heap m) (X : K.In h₀) (T : TopRead p loose mg mb h₀)
    (e : nsIn K mainGlobals x = some (some v)) (h : Q v s) : wpAny M A (eval (.Name x pos) env) Q E s :=
  Name_function_global (globOk.all c).1 (globOk.all c).2.1 (loadGlobal_global (by rw [g]; exact T.g.keeps F.keep) (mg_of X T.g e) h) (globOk.all c).2.2
theorem nameB {L : Addr} {m mg mb : Str → Option Value} {p : Program} {loose : List Str} {x : Str} {v : Value} (c : globOk env x = true) (g : env.globals = mainGlobals) (g' : env.builtins = builtinsNs) (F : Fr h₀ L s.heap m) (X : K.In h₀) (T : TopRead p loose mg mb h₀)
    (e : nsIn K mainGlobals x = some none) (hv : bootBuiltins x = some v) (hn : x ≠ "__name__") (h : Q v s) : wpAny M A (eval (.Name x pos) env) Q E s :=
  Name_function_global (globOk.all c).1 (globOk.all c).2.1 (loadGlobal_builtin (by rw [g]; exact T.g.keeps F.keep) (mg_none_of X T.g e) (by rw [g']; exact T.b.keeps F.keep) ((T.builtins x hn).trans hv) h) (globOk.all c).2.2
end
end Mine
end

section
open PySem PySem.W PyProof.Rows
/-- between two texts: the walk forgets the lines of the text before, as a fresh process has none -/
theorem Mine.calm33 : ∀ (prog : Program) (w : World) (A : Around) (env : Env) (E : Value → Shared → Prop) (s : Shared) (Q : Flow → Shared → Prop), Q .next s → wpAny (model prog w) A (execs [] env) Q E s := by
  w_top off
  intro prog w A env E s Q h
  walk1
  exact h
end

section
open PySem PySem.W PyProof.Rows PySem.Calls
set_option Elab.async false
set_option maxRecDepth 100000
set_option maxHeartbeats 1000000
namespace Mine
section
variable {M : Model} {A : Around} {E : Value → Shared → Prop} {s : Shared} {env : Env} {Q : Value → Shared → Prop}
theorem evalArgsS0 {f : Value} {Q : Args → Shared → Prop} (h : Q ⟨[], []⟩ s) : wpS M A (evalArgs f true [] []) Q E s := wpS_of (PySem.evalArgs_none h)
theorem evalArgsS1 {f : Value} {x : Sem Value} {Q : Args → Shared → Prop} (h : wpS M A x (fun v s₁ => Q ⟨[v], []⟩ s₁) E s) : wpS M A (evalArgs f true [(false, x)] []) Q E s := by
  unfold evalArgs
  show wpS M A (spliced ((false, x) :: []) >>= _) Q E s
  rw [spliced]
  refine wpS_bind (wpS_bind (wpS_mono h (fun v s₁ h₁ => ?_) fun _ _ e => e))
  simp only [Bool.false_eq_true, if_false]
  refine wpS_step (wpAny_pure (wpS_step (wpAny_holding (wpAny_pure (wpS_pure ?_)))))
  refine wpS_holding ?_
  exact wpS_step (wpAny_pure (wpS_step (wpAny_pure (wpS_pure h₁))))
theorem callWithS_type {pos : Pos} {T : String} {first : List Value} {args : List (Bool × Sem Value)} (hplain : args.any (·.1) = false)
    (h : wpS M A (evalArgs (.type T) true args []) (fun a s₁ => wpS M A (call (.type T) (first ++ a.pos) a.kw) Q E s₁) E s) : wpS M A (callWith pos (.type T) first args []) Q E s := by
  unfold callWith
  refine wpS_bind (wpS_holding (wpS_mono h (fun a s₁ h₁ => wpS_step (wpAny_standAt ?_)) fun _ _ x => x))
  simp only [hplain, List.any_nil, Bool.or_false]
  refine wpS_step (wpAny_pure ?_)
  exact wpS_bind (wpS_mono h₁ (fun r s₂ hr => wpS_step (wpAny_holding (wpAny_point (wpS_pure hr)))) fun _ _ x => x)
theorem callWithS_builtin {pos : Pos} {id : String} {first : List Value} {args : List (Bool × Sem Value)} (hplain : args.any (·.1) = false)
    (h : wpS M A (evalArgs (.builtin id) true args []) (fun a s₁ => wpS M A (call (.builtin id) (first ++ a.pos) a.kw) Q E s₁) E s) : wpS M A (callWith pos (.builtin id) first args []) Q E s := by
  unfold callWith
  refine wpS_bind (wpS_holding (wpS_mono h (fun a s₁ h₁ => wpS_step (wpAny_standAt ?_)) fun _ _ x => x))
  simp only [hplain, List.any_nil, Bool.or_false]
  refine wpS_step (wpAny_pure ?_)
  exact wpS_bind (wpS_mono h₁ (fun r s₂ hr => wpS_step (wpAny_holding (wpAny_point (wpS_pure hr)))) fun _ _ x => x)
/-- a call by name -/
theorem wpS_Call_Name {id : Str} {p pos : Pos} {args : List Expr} {keywords : List Keyword}
    (h : wpAny M A (eval (.Name id p) env) (fun f s₁ => wpS M A (callWith pos f [] (backTo pos (starEach args env)) (backToKw pos (keywordEach keywords env))) Q E s₁) E s) :
    wpS M A (eval (.Call (.Name id p) args keywords pos) env) Q E s := by
  rw [arm_eval_Call_Name']
  exact wpS_step h
theorem wpS_Assign_Name {x : Str} {p pos : Pos} {value : Expr} {Q : Flow → Shared → Prop} (h : wpS M A (eval value env) (fun v s₁ => wpAny M A (storeName env x v) (fun _ s₂ => Q .next s₂) E s₁) E s)
    (hs : swapsWith value (some (.Name x p)) pos.line env = pure false := by rfl) : wpS M A (exec (.Assign [.Name x p] value pos) env) Q E s := by
  rw [exec_Assign_Name env x p value pos hs]
  refine wpS_step (wpAny_standAt (wpS_bind (wpS_mono h (fun v s₁ h₁ => ?_) fun _ _ e => e)))
  exact wpS_step (wpAny_standAt (wpS_step (wpAny_bindName (wpAny_mono h₁ (fun _ _ q => wpS_pure q) fun _ _ e => e))))
theorem wpS_Expr {e : Expr} {pos : Pos} {Q : Flow → Shared → Prop} (h : wpS M A (eval e env) (fun v s' => v = .none ∧ Q .next s') E s)
    (hi : interactive env = false := by rfl) (hs : swapsWith e none pos.line env = pure false := by rfl) : wpS M A (exec (.Expr e pos) env) Q E s := by
  rw [exec_Expr env e pos hi hs]
  refine wpS_step (wpAny_standAt (wpS_bind (wpS_mono h (fun v s₁ q => ?_) fun _ _ e => e)))
  obtain ⟨rfl, q⟩ := q
  rw [dropValue_plain (v := .none) (fun a => by nofun)]
  exact wpS_pure q
/-- a binary operator whose left side these walk -/
theorem wpS_BinOp {l r : Expr} {op : Operator} {pos : Pos} (h : wpS M A (eval l env) (fun a s₁ => wpAny M A (eval r env) (fun b s₂ => wpAny M A (binaryOp op a b) Q E s₂) E s₁) E s) : wpS M A (eval (.BinOp l op r pos) env) Q E s := by
  rw [eval_BinOp]
  refine wpS_bind (wpS_mono h (fun a s₁ h₁ => ?_) fun _ _ e => e)
  refine wpS_step (wpAny_holding (wpAny_mono h₁ (fun b s₂ h₂ => ?_) fun _ _ e => e))
  exact wpS_step (wpAny_standAt (wpS_of (fun Γ p hΓ => by rw [Sem.wp_operate]; exact h₂ Γ p hΓ)))
end
section
variable {prog : Program} {w : World} {A : Around} {E : Value → Shared → Prop} {s : Shared} {env : Env} {Q : Value → Shared → Prop}
/-- a method of a builtin's -/
theorem wpS_Call_method {o : Expr} {name : Str} {apos pos : Pos} {args : List Expr} {id : String}
    (hbase : attributeBase o name env (eval o env) = eval o env)
    (hfew : methodCallForm (args.length + ([] : List Keyword).length) (backTo pos (starEach args env)) (backToKw pos (keywordEach [] env)) = true)
    (hline : (apos.endLine == pos.line) = true)
    (h : wpAny (model prog w) A (eval o env) (fun ov s₁ => wpAny (model prog w) A (getMethod ov name (do return (← importBound o env).getD true)) (fun g s₂ => g = (.builtin id, [ov]) ∧ wpS (model prog w) A (callWith pos (.builtin id) [ov] (backTo pos (starEach args env)) []) Q E s₂) E s₁) E s) :
    wpS (model prog w) A (eval (.Call (.Attribute o name apos) args [] pos) env) Q E s := by
  rw [arm_eval_Call, hbase]
  refine wpS_step (wpAny_mono h (fun ov s₁ h₁ => ?_) fun _ _ e => e)
  refine wpS_step (wpAny_standAt ?_)
  have hpos : methodCallPos true o env apos pos = pure pos := by unfold methodCallPos; simp [hline]
  unfold methodCall
  rw [hfew]
  refine wpS_step (wpAny_holding (wpAny_mono h₁ (fun g s₂ h₂ => ?_) fun _ _ e => e))
  obtain ⟨rfl, h₂⟩ := h₂
  exact wpS_step (wpAny_of_eq hpos h₂)
end
end Mine
end

section
open PySem PySem.W PyProof.Rows
/-- between two texts: the walk forgets the lines of the text before, as a fresh process has none -/
theorem Mine.calm35 : ∀ (prog : Program) (w : World) (A : Around) (env : Env) (E : Value → Shared → Prop) (s : Shared) (Q : Flow → Shared → Prop), Q .next s → wpAny (model prog w) A (execs [] env) Q E s := by
  w_top off
  intro prog w A env E s Q h
  walk1
  exact h
end

section
open PySem PySem.W PyProof.Rows PySem.Calls PySem.SeqAt
set_option Elab.async false
set_option maxRecDepth 100000
set_option maxHeartbeats 1000000
namespace Mine
abbrev seqObj (T : String) (xs : List Value) (k : Nat) : Obj := { cls := .type T, data := .seq xs.toArray k }
/-- two values of one content, lists and tuples n deep -/
def Same0 (v u : Value) : Prop := v = u ∨ (∃ k t t', v = .int k t ∧ u = .int k t') ∨ (∃ b t t', v = .bytes b t ∧ u = .bytes b t')
def SameN (news : List (Addr × Obj)) : Nat → Value → Value → Prop
  | 0, v, u => Same0 v u
  | n + 1, v, u => Same0 v u ∨ ∃ a b xs ys ka kb T, v = .ref a ∧ u = .ref b ∧ (T = "tuple" ∨ T = "list") ∧ (a, seqObj T xs ka) ∈ news ∧ (b, seqObj T ys kb) ∈ news ∧ xs.length = ys.length ∧
      ∀ (i : Nat) x y, xs[i]? = some x → ys[i]? = some y → SameN news n x y
theorem SameN.sub {news news' : List (Addr × Obj)} (h : ∀ q ∈ news, q ∈ news') : ∀ {n : Nat} {v u : Value}, SameN news n v u → SameN news' n v u
  | 0, _, _, x => by
    unfold SameN at x ⊢
    exact x
  | n + 1, _, _, x => by
    unfold SameN at x ⊢
    rcases x with x | ⟨a, b, xs, ys, ka, kb, T, h1, h2, h3, h4, h5, h6, h7⟩
    · exact .inl x
    · exact .inr ⟨a, b, xs, ys, ka, kb, T, h1, h2, h3, h _ h4, h _ h5, h6, fun i x y e f => (h7 i x y e f).sub h⟩
theorem all_range (n : Nat) : (List.range n).all (fun _ => true) = true := by simp
section
variable {prog : Program} {w : World} {A : Around} {E : Value → Shared → Prop} {s : Shared} {h₀ : Heap} {L : Addr} {m : Str → Option Value} {news : List (Addr × Obj)}
theorem eqAt_bytes (b : Array UInt8) (t t' : Tok) : EqAt A s (.bytes b t) (.bytes b t') true := fun prog w E Q h => by
  unfold eqBool
  refine wpAny_holding ?_
  refine wpAny_ite_split (fun _ => wpAny_bind (wpAny_rule (wpAny_pure h))) (fun _ => ?_)
  exact wpAny_bind (eq_bytes (by rw [beq_self_eq_true]; exact wpAny_truthy_bool h))
theorem Same0.at {v u : Value} {A : Around} (x : Same0 v u) : EqAt A s v u true := by
  rcases x with rfl | ⟨k, t, t', rfl, rfl⟩ | ⟨b, t, t', rfl, rfl⟩
  · exact .same _
  · have := EqAt.int_int (A := A) (s := s) k t k t'
    rwa [beq_self_eq_true] at this
  · exact eqAt_bytes b t t'
theorem units_lt {a n : Nat} (h : a + (n + 1) < cLine) : a < cLine := Nat.lt_of_le_of_lt (Nat.le_add_right _ _) h
theorem seqs_he {n : Nat} {xs ys : List Value} (ih : ∀ {v u : Value} {A : Around}, SameN news n v u → A.units + n < cLine → EqAt A s v u true) (h7 : ∀ (i : Nat) x y, xs[i]? = some x → ys[i]? = some y → SameN news n x y) (hu : A.units + (n + 1) < cLine) :
    ∀ j (h1 : j < xs.toArray.size) (h2 : j < ys.toArray.size), EqAt A.in1 s xs.toArray[j] ys.toArray[j] ((fun _ => true) j) := fun j h1 h2 =>
  ih (h7 j _ _ (by simp at h1 ⊢) (by simp at h2 ⊢)) (by show A.units + 1 + n < cLine; rw [Nat.add_assoc, Nat.add_comm 1]; exact hu)
theorem rc_seqs {T : String} {a b : Addr} {xs ys : List Value} {ka kb : Nat} (hT : T = "tuple" ∨ T = "list") (h4 : s.heap.get? a = some (seqObj T xs ka)) (h5 : s.heap.get? b = some (seqObj T ys kb)) (h6 : xs.length = ys.length) (hu : A.units < cLine)
    (he : ∀ j (h1 : j < xs.toArray.size) (h2 : j < ys.toArray.size), EqAt A.in1 s xs.toArray[j] ys.toArray[j] ((fun _ => true) j)) : RcAt A s (.ref a) (.ref b) true := by
  have hz : xs.toArray.size = ys.toArray.size := by simpa using h6
  rcases hT with rfl | rfl
  · have := RcAt.tuples (l := a) (b := b) ⟨_, h4, rfl, _, rfl⟩ ⟨_, h5, rfl, _, rfl⟩ hu he
    rw [hz, Nat.min_self, all_range, beq_self_eq_true] at this
    exact this
  · have := RcAt.lists (l := a) (b := b) ⟨_, h4, rfl, _, rfl⟩ ⟨_, h5, rfl, _, rfl⟩ hz hu he
    rwa [all_range] at this
theorem rcne_seqs {T : String} {a b : Addr} {xs ys : List Value} {ka kb : Nat} (hT : T = "tuple" ∨ T = "list") (h4 : s.heap.get? a = some (seqObj T xs ka)) (h5 : s.heap.get? b = some (seqObj T ys kb)) (h6 : xs.length = ys.length) (hu : A.units < cLine)
    (he : ∀ j (h1 : j < xs.toArray.size) (h2 : j < ys.toArray.size), EqAt A.in1 s xs.toArray[j] ys.toArray[j] ((fun _ => true) j)) : RcNeAt A s (.ref a) (.ref b) false := by
  have hz : xs.toArray.size = ys.toArray.size := by simpa using h6
  rcases hT with rfl | rfl
  · have := RcNeAt.tuples (l := a) (b := b) ⟨_, h4, rfl, _, rfl⟩ ⟨_, h5, rfl, _, rfl⟩ hu he
    rw [hz, Nat.min_self, all_range, beq_self_eq_true] at this
    exact this
  · have := RcNeAt.lists (l := a) (b := b) ⟨_, h4, rfl, _, rfl⟩ ⟨_, h5, rfl, _, rfl⟩ hz hu he
    rw [all_range] at this
    exact this
theorem SameN.at (N : News h₀ L s.heap news) {n : Nat} : ∀ {v u : Value} {A : Around}, SameN news n v u → A.units + n < cLine → EqAt A s v u true := by
  induction n with
  | zero => intro v u A x _; exact Same0.at x
  | succ n ih =>
    intro v u A x hu
    rcases x with x | ⟨a, b, xs, ys, ka, kb, T, rfl, rfl, hT, h4, h5, h6, h7⟩
    · exact x.at
    · by_cases e : a = b
      · subst e; exact .same _
      · exact .of_refs e (rc_seqs hT (N _ h4).1 (N _ h5).1 h6 (units_lt hu) (seqs_he ih h7 hu))
theorem eq_same {n : Nat} {T : String} {a b : Addr} {xs ys : List Value} {ka kb : Nat} {Q : Value → Shared → Prop} (N : News h₀ L s.heap news) (hT : T = "tuple" ∨ T = "list") (h4 : (a, seqObj T xs ka) ∈ news) (h5 : (b, seqObj T ys kb) ∈ news) (h6 : xs.length = ys.length)
    (h7 : ∀ (i : Nat) x y, xs[i]? = some x → ys[i]? = some y → SameN news n x y) (hu : A.units + (n + 1) < cLine) (h : Q (.bool true) s) : wpAny (model prog w) A (compareOp .Eq (.ref a) (.ref b)) Q E s :=
  EqBoolInt.of_rc (rc_seqs hT (N _ h4).1 (N _ h5).1 h6 (units_lt hu) (seqs_he (SameN.at N) h7 hu)) h
theorem ne_same {n : Nat} {T : String} {a b : Addr} {xs ys : List Value} {ka kb : Nat} {Q : Value → Shared → Prop} (N : News h₀ L s.heap news) (hT : T = "tuple" ∨ T = "list") (h4 : (a, seqObj T xs ka) ∈ news) (h5 : (b, seqObj T ys kb) ∈ news) (h6 : xs.length = ys.length)
    (h7 : ∀ (i : Nat) x y, xs[i]? = some x → ys[i]? = some y → SameN news n x y) (hu : A.units + (n + 1) < cLine) (h : Q (.bool false) s) : wpAny (model prog w) A (compareOp .NotEq (.ref a) (.ref b)) Q E s :=
  rcne_seqs hT (N _ h4).1 (N _ h5).1 h6 (units_lt hu) (seqs_he (SameN.at N) h7 hu) prog w E Q h
end
end Mine
end

section
open PySem PySem.W PyProof.Rows
/-- between two texts: the walk forgets the lines of the text before, as a fresh process has none -/
theorem Mine.calm37 : ∀ (prog : Program) (w : World) (A : Around) (env : Env) (E : Value → Shared → Prop) (s : Shared) (Q : Flow → Shared → Prop), Q .next s → wpAny (model prog w) A (execs [] env) Q E s := by
  w_top off
  intro prog w A env E s Q h
  walk1
  exact h
end

section
open PySem PySem.W PyProof.Rows PySem.Calls PySem.SeqAt
set_option Elab.async false
set_option maxRecDepth 100000
set_option maxHeartbeats 1000000
namespace Mine
section
variable {prog : Program} {w : World} {A : Around} {E : Value → Shared → Prop} {s : Shared} {h₀ : Heap} {L : Addr} {m : Str → Option Value} {env : Env}
open LCg in
/-- a comprehension by an invariant over what it has made -/
theorem comp_rest {elt : Expr} {x : Str} {scope : Scope} {cl : List (Str × Addr)} {S : List (Addr × Obj) → Prop} {P : Nat → Value → Prop} {Fin : List Value → List (Addr × Obj) → Prop} {n : Nat} (J : Nat → List Value → List (Addr × Obj) → Prop) {news : List (Addr × Obj)}
    (h0 : J 0 [] news)
    (turn : ∀ i v ys news I oI C oC D m₂ h tk (E' : Value → Shared → Prop), i < n → P i v → J i ys news → NsObj oC m₂ → m₂ x = some v → Fr h₀ L h m → News h₀ L h ((I, oI) :: (C, oC) :: (D, lst ys) :: news) → Off3 I C D news → (@Ne Nat I C) → (@Ne Nat I D) → (@Ne Nat C D) →
      wpAny (model prog w) A (eval elt (compEnvC scope cl C env)) (CompEnd h₀ L m { s with heap := h, toks := tk } I oI C oC D (lst ys) S (fun y news' => J (i + 1) (ys ++ [y]) news')) E' { s with heap := h, toks := tk })
    (fin : ∀ ys news, J n ys news → Fin ys news) : CompRest prog w A h₀ L m env elt x scope cl s S P Fin n 0 [] news := by
  have key : ∀ k i ys news, i + k = n → J i ys news → CompRest prog w A h₀ L m env elt x scope cl s S P Fin k i ys news := by
    intro k
    induction k with
    | zero =>
      intro i ys news hi hJ
      have : i = n := by omega
      subst this
      exact .zero (fin _ _ hJ)
    | succ k ih =>
      intro i ys news hi hJ
      refine .succ ?_
      intro v I oI C oC D m₂ h tk E' hP hC hx F N off ne
      refine wpAny_mono (turn i v ys news I oI C oC D m₂ h tk E' (by omega) hP hJ hC hx F N off ne.1 ne.2.1 ne.2.2) (fun y s' q => ?_) fun _ _ e => e
      obtain ⟨h', tk', news', e, F', N', off', hS, r⟩ := q
      exact ⟨h', tk', news', e, F', N', off', hS, ih (i + 1) _ _ (by omega) r⟩
  exact key n 0 [] news (by omega) h0
open LCg LCt in
theorem comp_restT {ct elt : Expr} {x : Str} {scope : Scope} {cl : List (Str × Addr)} {S : List (Addr × Obj) → Prop} {P : Nat → Value → Prop} {Fin : List Value → List (Addr × Obj) → Prop} {n : Nat} (J : Nat → List Value → List (Addr × Obj) → Prop) {news : List (Addr × Obj)}
    (h0 : J 0 [] news)
    (turn : ∀ i v ys news I oI C oC D m₂ h tk (E' : Value → Shared → Prop), i < n → P i v → J i ys news → NsObj oC m₂ → m₂ x = some v → Fr h₀ L h m → News h₀ L h ((I, oI) :: (C, oC) :: (D, lst ys) :: news) → Off3 I C D news → (@Ne Nat I C) → (@Ne Nat I D) → (@Ne Nat C D) →
      wpAny (model prog w) A (isTrue ct (compEnvC scope cl C env) (eval ct (compEnvC scope cl C env))) (fun ok s' => if ok = true then
        wpAny (model prog w) A (eval elt (compEnvC scope cl C env)) (CompEnd h₀ L m { s with heap := h, toks := tk } I oI C oC D (lst ys) S (fun y news' => J (i + 1) (ys ++ [y]) news')) E' s'
        else CompEnd h₀ L m { s with heap := h, toks := tk } I oI C oC D (lst ys) S (fun _ news' => J (i + 1) ys news') Value.none s') E' { s with heap := h, toks := tk })
    (fin : ∀ ys news, J n ys news → Fin ys news) : CompRestT prog w A h₀ L m env ct elt x scope cl s S P Fin n 0 [] news := by
  have key : ∀ k i ys news, i + k = n → J i ys news → CompRestT prog w A h₀ L m env ct elt x scope cl s S P Fin k i ys news := by
    intro k
    induction k with
    | zero =>
      intro i ys news hi hJ
      have : i = n := by omega
      subst this
      exact .zero (fin _ _ hJ)
    | succ k ih =>
      intro i ys news hi hJ
      refine .succ ?_
      intro v I oI C oC D m₂ h tk E' hP hC hx F N off ne
      refine wpAny_mono (turn i v ys news I oI C oC D m₂ h tk E' (by omega) hP hJ hC hx F N off ne.1 ne.2.1 ne.2.2) (fun ok s' q => ?_) fun _ _ e => e
      cases ok with
      | true =>
        simp only [if_true] at q ⊢
        refine wpAny_mono q (fun y s'' q => ?_) fun _ _ e => e
        obtain ⟨h', tk', news', e, F', N', off', hS, r⟩ := q
        exact ⟨h', tk', news', e, F', N', off', hS, ih (i + 1) _ _ (by omega) r⟩
      | false =>
        simp only [Bool.false_eq_true, if_false] at q ⊢
        obtain ⟨h', tk', news', e, F', N', off', hS, r⟩ := q
        exact ⟨h', tk', news', e, F', N', off', hS, ih (i + 1) _ _ (by omega) r⟩
  exact key n 0 [] news (by omega) h0

/-- a turn is at its end and the loop goes on -/
inductive TurnNx (Ctx : Heap → Prop) (L : Addr) (s₁ : Shared) (I : Addr) (oI : Obj) (J : (Str → Option Value) → List (Addr × Obj) → Prop) : Shared → Prop
  | mk (h' : Heap) (tk' : Nat) (h₀' : Heap) (m₂ : Str → Option Value) (news₂ : List (Addr × Obj)) (C : Ctx h₀') (F : Fr h₀' L h' m₂) (N : News h₀' L h' ((I, oI) :: news₂)) (off : ∀ p ∈ news₂, p.1 ≠ I) (j : J m₂ news₂) : TurnNx Ctx L s₁ I oI J { s₁ with heap := h', toks := tk' }
/-- the end of a turn -/
def TurnEnd (Ctx : Heap → Prop) (L : Addr) (s₁ : Shared) (I : Addr) (oI : Obj) (J : (Str → Option Value) → List (Addr × Obj) → Prop) (Q : Flow → Shared → Prop) (f : Flow) (s₂ : Shared) : Prop :=
  match f with
  | .ret v => Q (.ret v) s₂
  | .brk => Q .next s₂
  | _ => TurnNx Ctx L s₁ I oI J s₂
/-- where a loop over a made list stands -/
inductive LoopT (prog : Program) (w : World) (A : Around) (env : Env) (x : Str) (body : List Stmt) (Q : Flow → Shared → Prop) (E : Value → Shared → Prop) : Value → Shared → Prop
  | of {s₁ : Shared} (D : Addr) (vs : List Value) (n : Nat) (Ctx : Heap → Prop) (h₀ : Heap) (m : Str → Option Value) (news : List (Addr × Obj)) (J : Nat → (Str → Option Value) → List (Addr × Obj) → Prop)
    (hh : A.handled = none) (C : Ctx h₀) (F : Fr h₀ env.locals s₁.heap m) (N : News h₀ env.locals s₁.heap news) (hD : ∀ i m news, J i m news → (D, W.listOf vs.toArray n) ∈ news) (hJ : J 0 m news)
    (turn : ∀ i v m₁ news₁ h₀' h tk I oI, oI.cls = .type "list_iterator" → vs[i]? = some v → Ctx h₀' → J i m₁ news₁ → (∀ p ∈ news₁, p.1 ≠ I) → Fr h₀' env.locals h (fun y => if y = x then some v else m₁ y) → News h₀' env.locals h ((I, oI) :: news₁) →
      wpAny (model prog w) A (execs body env) (TurnEnd Ctx env.locals { s₁ with heap := h, toks := tk } I oI (J (i + 1)) Q) E { s₁ with heap := h, toks := tk })
    (done : ∀ m₁ news₁ h₀' h tk, Ctx h₀' → J vs.length m₁ news₁ → Fr h₀' env.locals h m₁ → News h₀' env.locals h news₁ → Q .next { s₁ with heap := h, toks := tk }) : LoopT prog w A env x body Q E (.ref D) s₁
/-- a loop before turn i -/
inductive TurnAt (s₁ : Shared) (L I D : Addr) (vs : List Value) (Ctx : Heap → Prop) (J : Nat → (Str → Option Value) → List (Addr × Obj) → Prop) : Nat → Shared → Prop
  | mk (h' : Heap) (tk i : Nat) (h₀' : Heap) (m' : Str → Option Value) (news' : List (Addr × Obj)) (oI : Obj) (hi : i ≤ vs.length) (hit : h'.IsListIter I D i) (C' : Ctx h₀') (F' : Fr h₀' L h' m') (N' : News h₀' L h' ((I, oI) :: news')) (off : ∀ p ∈ news', p.1 ≠ I) (hJ' : J i m' news') :
    TurnAt s₁ L I D vs Ctx J (vs.length + 1 - i) { s₁ with heap := h', toks := tk }
/-- the same, told without pairs: a turn's walk ends at a post that is open -/
theorem LoopT.mk {prog : Program} {w : World} {A : Around} {env : Env} {x : Str} {body : List Stmt} {Q : Flow → Shared → Prop} {E : Value → Shared → Prop} {s : Shared} {hs : Heap} {ks : Nat}
    (D : Addr) (vs : List Value) (n : Nat) (Ctx : Heap → Prop) (h₀ : Heap) (m : Str → Option Value) (news : List (Addr × Obj)) (J : Nat → (Str → Option Value) → List (Addr × Obj) → Prop)
    (hh : A.handled = none) (C : Ctx h₀) (F : Fr h₀ env.locals hs m) (N : News h₀ env.locals hs news) (hD : ∀ i m news, J i m news → (D, W.listOf vs.toArray n) ∈ news) (h0 : J 0 m news)
    (turn : ∀ i v m₁ news₁ h₀' h tk I oI, oI.cls = .type "list_iterator" → vs[i]? = some v → Ctx h₀' → J i m₁ news₁ → (∀ p ∈ news₁, p.1 ≠ I) → Fr h₀' env.locals h (fun y => if y = x then some v else m₁ y) → News h₀' env.locals h ((I, oI) :: news₁) →
      ∀ Qb : Flow → Shared → Prop, (∀ f h' tk' h₀' m₂ news₂, f = .next ∨ f = .cont → Ctx h₀' → Fr h₀' env.locals h' m₂ → News h₀' env.locals h' ((I, oI) :: news₂) → (∀ p ∈ news₂, p.1 ≠ I) → J (i + 1) m₂ news₂ → Qb f { s with heap := h', toks := tk' }) →
      wpAny (model prog w) A (execs body env) Qb (fun _ _ => False) { s with heap := h, toks := tk })
    (done : ∀ m₁ news₁ h₀' h tk, Ctx h₀' → J vs.length m₁ news₁ → Fr h₀' env.locals h m₁ → News h₀' env.locals h news₁ → Q .next { s with heap := h, toks := tk }) :
    LoopT prog w A env x body Q E (.ref D) { s with heap := hs, toks := ks } :=
  .of D vs n Ctx h₀ m news J hh C F N hD h0 (fun i v m₁ news₁ h₀' h tk I oI a b c d e f g =>
    wpAny_mono (turn i v m₁ news₁ h₀' h tk I oI a b c d e f g _ fun f h' tk' h₀' m₂ news₂ hf C' F' N' off j => by
      rcases hf with rfl | rfl <;> exact .mk h' tk' h₀' m₂ news₂ C' F' N' off j) (fun _ _ h => h) fun _ _ h => h.elim) done
end
end Mine
end

section
open PySem PySem.W PyProof.Rows
/-- between two texts: the walk forgets the lines of the text before, as a fresh process has none -/
theorem Mine.calm39 : ∀ (prog : Program) (w : World) (A : Around) (env : Env) (E : Value → Shared → Prop) (s : Shared) (Q : Flow → Shared → Prop), Q .next s → wpAny (model prog w) A (execs [] env) Q E s := by
  w_top off
  intro prog w A env E s Q h
  walk1
  exact h
end

section
open PySem PySem.W PyProof.Rows PySem.Calls PySem.SeqAt
set_option Elab.async false
set_option maxRecDepth 100000
set_option maxHeartbeats 1000000
namespace Mine
section
variable {prog : Program} {w : World} {A : Around} {s : Shared} {R : Result → Shared → Prop} {env : Env}
theorem codeS_block_nil (h : R (.ok .next) s) : codeS (model prog w) A (.block [] env) R s := codeS_of (codeAny_block (wpAny_execs_nil h))
/-- a for whose turns raise nothing, over calm stacks -/
theorem codeS_forLoop {target : Expr} {it : Value} {body : List Stmt} (I : Nat → Shared → Prop)
    (turn : ∀ n s, I n s → wpAny (model prog w) A (pyNext it) (fun r s₁ => match r with
      | none => R (.ok .next) s₁
      | some v => wpAny (model prog w) A (assign target env v) (fun _ s₂ => wpS (model prog w) A (execs body env) (fun f s₃ => match f with
          | .next | .cont => ∃ m, m < n ∧ I m s₃
          | .brk => R (.ok .next) s₃
          | .ret v => R (.ok (.ret v)) s₃) (fun _ _ => False) s₂) (fun _ _ => False) s₁) (fun _ _ => False) s)
    (n : Nat) (h : I n s) (ht : ∀ v, letOwnedTupleGo target it v = pure () := by intro _; rfl) : codeS (model prog w) A (.forLoop target it body [] env) R s := by
  refine codeS_loop rfl rfl I (fun n s hI => ?_) n h
  show wpS _ _ ((forTurn target it body [] env).onRaise (fun x => do noteFrame x env; theTreesLotGoes x)) _ _ s
  refine wpS_onRaise (wpS_mono (E := fun _ _ => False) ?_ (fun _ _ q => q) fun _ _ e => e.elim)
  simp only [forTurn]
  refine wpS_step (wpAny_standAt (wpS_step (wpAny_onRaise (wpAny_mono (turn n s hI) (fun r s₁ h₁ => ?_) fun _ _ h' => h'.elim))))
  cases r with
  | none => exact wpS_pure (.inr ⟨rfl, codeS_block_nil h₁⟩)
  | some v =>
    refine wpS_step (wpAny_of_eq (ht v) ?_)
    refine wpS_step (wpAny_mono h₁ (fun _ s₂ h₂ => wpS_bind (wpS_mono h₂ (fun f s₃ h₃ => ?_) fun _ _ h' => h')) fun _ _ h' => h')
    cases f with
    | next => exact wpS_pure (.inl ⟨rfl, h₃⟩)
    | cont => exact wpS_pure (.inl ⟨rfl, h₃⟩)
    | brk => exact wpS_pure h₃
    | ret v => exact wpS_pure h₃
theorem wpS_For {target iter : Expr} {body : List Stmt} {pos : Pos} {Q : Flow → Shared → Prop} {E : Value → Shared → Prop}
    (h : wpAny (model prog w) A (eval iter env) (fun x s₁ => wpAny (model prog w) A (pyIter x) (fun it s₂ =>
      codeS (model prog w) A (.forLoop target it body [] env) (fun r s' => match r with | .ok f => Q f s' | .error _ => False) s₂) E s₁) E s)
    (hs : ∀ x, foldedSetIterable iter env x = pure x := by intro _; rfl) : wpS (model prog w) A (exec (.For target iter body [] pos) env) Q E s := by
  rw [exec_For]
  refine wpS_step (wpAny_standAt (wpS_step (wpAny_mono h (fun x s₁ h₁ => wpS_step (wpAny_of_eq (hs x) (wpS_step (wpAny_standAt (wpS_step (wpAny_holding
    (wpAny_mono h₁ (fun it s₂ h₂ => ?_) fun _ _ h' => h'))))))) fun _ _ h' => h')))
  unfold runOwn
  refine wpS_onRaise (wpS_run (h := none) (codeS_mono h₂ fun r s' q => ?_))
  cases r with
  | ok f => exact q
  | error e => exact q.elim
end
end Mine
end

section
open PySem PySem.W PyProof.Rows
/-- between two texts: the walk forgets the lines of the text before, as a fresh process has none -/
theorem Mine.calm41 : ∀ (prog : Program) (w : World) (A : Around) (env : Env) (E : Value → Shared → Prop) (s : Shared) (Q : Flow → Shared → Prop), Q .next s → wpAny (model prog w) A (execs [] env) Q E s := by
  w_top off
  intro prog w A env E s Q h
  walk1
  exact h
end

section
open PySem PySem.W PyProof.Rows PySem.Calls PySem.SeqAt
set_option Elab.async false
set_option maxRecDepth 100000
set_option maxHeartbeats 1000000
namespace Mine
section
variable {prog : Program} {w : World} {A : Around} {E : Value → Shared → Prop} {s : Shared} {env : Env}
/-- where a loop over a made list stands, over calm stacks -/
inductive LoopS (prog : Program) (w : World) (A : Around) (env : Env) (x : Str) (body : List Stmt) (Q : Flow → Shared → Prop) : Value → Shared → Prop
  | mk {s : Shared} {hs : Heap} {ks : Nat} (D : Addr) (vs : List Value) (n : Nat) (Ctx : Heap → Prop) (h₀ : Heap) (m : Str → Option Value) (news : List (Addr × Obj)) (J : Nat → (Str → Option Value) → List (Addr × Obj) → Prop)
    (hh : A.handled = none) (C : Ctx h₀) (F : Fr h₀ env.locals hs m) (N : News h₀ env.locals hs news) (hD : ∀ i m news, J i m news → (D, W.listOf vs.toArray n) ∈ news) (h0 : J 0 m news)
    (turn : ∀ i v m₁ news₁ h₀' h tk I oI, oI.cls = .type "list_iterator" → vs[i]? = some v → Ctx h₀' → J i m₁ news₁ → (∀ p ∈ news₁, p.1 ≠ I) → Fr h₀' env.locals h (fun y => if y = x then some v else m₁ y) → News h₀' env.locals h ((I, oI) :: news₁) →
      ∀ Qb : Flow → Shared → Prop, (∀ f h' tk' h₀' m₂ news₂, f = .next ∨ f = .cont → Ctx h₀' → Fr h₀' env.locals h' m₂ → News h₀' env.locals h' ((I, oI) :: news₂) → (∀ p ∈ news₂, p.1 ≠ I) → J (i + 1) m₂ news₂ → Qb f { s with heap := h', toks := tk' }) →
      wpS (model prog w) A (execs body env) Qb (fun _ _ => False) { s with heap := h, toks := tk })
    (done : ∀ m₁ news₁ h₀' h tk, Ctx h₀' → J vs.length m₁ news₁ → Fr h₀' env.locals h m₁ → News h₀' env.locals h news₁ → Q .next { s with heap := h, toks := tk }) :
    LoopS prog w A env x body Q (.ref D) { s with heap := hs, toks := ks }
/-- where the loop stands between two turns -/
inductive AtS (s₁ : Shared) (L D I : Addr) (vs : List Value) (Ctx : Heap → Prop) (J : Nat → (Str → Option Value) → List (Addr × Obj) → Prop) : Nat → Shared → Prop
  | mk (h' : Heap) (tk i : Nat) (h₀' : Heap) (m' : Str → Option Value) (news' : List (Addr × Obj)) (oI : Obj) (hi : i ≤ vs.length) (hit : h'.IsListIter I D i) (C : Ctx h₀') (F : Fr h₀' L h' m') (N : News h₀' L h' ((I, oI) :: news')) (off : ∀ p ∈ news', p.1 ≠ I) (j : J i m' news') :
    AtS s₁ L D I vs Ctx J (vs.length + 1 - i) { s₁ with heap := h', toks := tk }
theorem For_S {Q : Flow → Shared → Prop} {x : Str} {px pos : Pos} {iter : Expr} {body : List Stmt} (hx : env.kindOf x = some .local)
    (hp : (env.scope.kind == .class || (env.scope.kind == .module && env.locals != env.globals)) = false)
    (h : wpAny (model prog w) A (eval iter env) (LoopS prog w A env x body Q) E s)
    (hs : ∀ x, foldedSetIterable iter env x = pure x := by intro _; rfl) :
    wpS (model prog w) A (exec (.For (.Name x px) iter body [] pos) env) Q E s := by
  refine wpS_For (wpAny_mono h (fun xv s₁ h₁ => ?_) fun _ _ e => e) hs
  cases h₁ with
  | @mk s hs ks D vs n Ctx h₀ m news J hh C F N hD hJ turn done =>
  have hls : hs.IsList D vs.toArray := PySem.IsL.isList (n := n) (N _ (hD _ _ _ hJ)).1
  have hne : D ≠ hs.objs.size := Nat.ne_of_lt (Heap.lt_size (N _ (hD _ _ _ hJ)).1)
  refine wpAny_pyIter_list hls ?_
  have W := Walks.list (prog := prog) (w := w) hh hs.objs.size D hne vs.toArray
  have hsz : vs.toArray.size = vs.length := by simp
  dsimp only
  generalize hI : hs.objs.size = I at W ⊢
  have hIn : h₀.get? I = none := by
    cases q : h₀.get? I with
    | none => rfl
    | some o => exact absurd (Heap.lt_size (F.keep _ _ q)) (by rw [hI]; exact Nat.lt_irrefl _)
  have hIL : I ≠ env.locals := fun q => absurd F.ns.lt (by rw [hI, q]; exact Nat.lt_irrefl _)
  refine codeS_forLoop (AtS s env.locals D I vs Ctx J) ?_ (vs.length + 1)
    (AtS.mk (s₁ := s) (i := 0) (hs.push { cls := .type "list_iterator", data := .fields #[.ref D, .int 0 0] }) ks h₀ m news { cls := .type "list_iterator", data := .fields #[.ref D, .int 0 0] } (Nat.zero_le _) ⟨_, hI ▸ Heap.get?_push_size _ rfl, rfl, rfl⟩ C (F.push _) (fun p hp => ?_) (fun p hp q => absurd (Heap.lt_size (N p hp).1) (by rw [hI, q]; exact Nat.lt_irrefl _)) hJ)
  · intro k s' hk
    cases hk with
    | mk h' tk i h₀' m' news' oI hi hit C' F' N' off hJ' =>
    have hI' := (N' _ (.head _)).2
    have hls' : h'.IsList D vs.toArray := PySem.IsL.isList (n := n) (N' _ (.tail _ (hD _ _ _ hJ'))).1
    have next : ∀ h₁ : Heap, (∀ b o, b ∉ [I] → h'.get? b = some o → h₁.get? b = some o) → Fr h₀' env.locals h₁ m' ∧ News h₀' env.locals h₁ news' := fun h₁ hk₁ =>
      ⟨⟨F'.ns.at' fun o e => hk₁ _ o (by simpa using Ne.symm hIL) e, fun b o e => hk₁ b o (fun q => by rw [List.mem_singleton.mp q, hI'.2] at e; cases e) (F'.keep b o e), F'.above⟩,
        fun p hp => ⟨hk₁ _ _ (by simpa using off p hp) (N' p (.tail _ hp)).1, (N' p (.tail _ hp)).2⟩⟩
    by_cases hlt : i < vs.length
    · refine W.item i _ _ _ (by rw [hsz]; exact hlt) ⟨hit, hls'⟩ fun v h₁ tk₁ hP hst₁ hk₁ => ?_
      obtain ⟨F₁, N₁⟩ := next h₁ hk₁
      refine wpAny_assign_Name (wpAny_storeName_local hx F₁.ns (fun h₂ hn₂ hs₂ => ?_) hp)
      have F₂ := F₁.set hn₂ hs₂
      have N₂ := N₁.set hs₂
      obtain ⟨oI₂, heI, hcI, hdI⟩ : h₂.IsListIter I D (i + 1) := hst₁.1.at fun o e => (hs₂.2 I hIL).trans e
      have hv : vs[i]? = some v := by simpa using hP
      refine turn i v m' news' h₀' h₂ _ I oI₂ hcI hv C' hJ' off F₂ (fun p hp => ?_) _ ?_
      · rcases List.mem_cons.mp hp with rfl | hp
        · exact ⟨heI, hI'⟩
        · exact N₂ p hp
      · intro f h'' tk'' h₀'' m₂ news₂ hf C₂ F₃ N₃ off₃ j
        have fin : ∃ m, m < vs.length + 1 - i ∧ AtS s env.locals D I vs Ctx J m { s with heap := h'', toks := tk'' } :=
          ⟨vs.length + 1 - (i + 1), by omega, AtS.mk (s₁ := s) (i := i + 1) h'' tk'' h₀'' m₂ news₂ oI₂ hlt ⟨_, (N₃ _ (.head _)).1, hcI, hdI⟩ C₂ F₃ N₃ off₃ j⟩
        rcases hf with rfl | rfl <;> exact fin
    · have e : i = vs.length := by omega
      subst e
      refine W.done _ _ _ (by rw [hsz]; exact ⟨hit, hls'⟩) fun h₁ tk₁ hk₁ => ?_
      obtain ⟨F₁, N₁⟩ := next h₁ hk₁
      exact done m' news' h₀' h₁ tk₁ C' hJ' F₁ N₁
  · rcases List.mem_cons.mp hp with rfl | hp
    · exact ⟨hI ▸ Heap.get?_push_size _ rfl, hIL, hIn⟩
    · exact ⟨Heap.get?_push_of_some _ (N p hp).1, (N p hp).2⟩
end
end Mine
end

section
open PySem PySem.W PyProof.Rows
/-- between two texts: the walk forgets the lines of the text before, as a fresh process has none -/
theorem Mine.calm43 : ∀ (prog : Program) (w : World) (A : Around) (env : Env) (E : Value → Shared → Prop) (s : Shared) (Q : Flow → Shared → Prop), Q .next s → wpAny (model prog w) A (execs [] env) Q E s := by
  w_top off
  intro prog w A env E s Q h
  walk1
  exact h
end

section
open PySem PySem.W PyProof.Rows PySem.Calls
set_option Elab.async false
set_option maxRecDepth 100000
set_option maxHeartbeats 1000000
namespace Mine
section
variable {prog : Program} {w : World} {A : Around} {E : Value → Shared → Prop} {s : Shared} {h₀ : Heap} {L : Addr} {Q : Value → Shared → Prop} {m : Str → Option Value} {news : List (Addr × Obj)} {a d : Addr} {b c : Array UInt8}
/-- one object of the ledger was changed -/
theorem led_same {h' : Heap} {o p : Obj} (F : Fr h₀ L s.heap m) (N : News h₀ L s.heap news) (hm : (a, o) ∈ news) (hs : Heap.SameBut a s.heap h') (hp : h'.get? a = some p) : Fr h₀ L h' m ∧ News h₀ L h' ((a, p) :: rest a news) := by
  have z := N _ hm
  refine ⟨F.change hs z.2.1 z.2.2, fun q hq => ?_⟩
  rcases List.mem_cons.mp hq with rfl | hq
  · exact ⟨hp, z.2⟩
  · have y := N q (List.mem_filter.mp hq).1
    exact ⟨hs.extBut _ _ (rest_ne q hq) y.1, y.2⟩
theorem ba_extendL {t : Tok} (F : Fr h₀ L s.heap m) (N : News h₀ L s.heap news) (hm : (a, baObj b) ∈ news) (hz : b.size + c.size ≤ 1000)
    (h : ∀ h', Fr h₀ L h' m → News h₀ L h' ((a, baObj (b ++ c)) :: rest a news) → Q .none { s with heap := h' }) : wpS (model prog w) A (call (.builtin "bytearray.extend") [.ref a, .bytes c t]) Q E s := by
  refine wpS_call (codeS_call_builtin ba_extend.plain ba_extend_entry (by decide +kernel) (ba_extend.check _ _ _ _ _ _ _ _ (ba_type (N _ hm).1) (ba_extend1 _ _) (ba_extend_bytes (N _ hm).1 hz fun h' hs hg => ?_)))
  obtain ⟨F', N'⟩ := led_same F N hm hs hg
  exact h h' F' N'
theorem ba_extendL_ref (F : Fr h₀ L s.heap m) (N : News h₀ L s.heap news) (hm : (a, baObj b) ∈ news) (hd : (d, baObj c) ∈ news) (hz : b.size + c.size ≤ 1000)
    (h : ∀ h', Fr h₀ L h' m → News h₀ L h' ((a, baObj (b ++ c)) :: rest a news) → Q .none { s with heap := h' }) : wpS (model prog w) A (call (.builtin "bytearray.extend") [.ref a, .ref d]) Q E s := by
  refine wpS_call (codeS_call_builtin ba_extend.plain ba_extend_entry (by decide +kernel) (ba_extend.check _ _ _ _ _ _ _ _ (ba_type (N _ hm).1) (ba_extend1 _ _) (ba_extend_ref (N _ hm).1 (N _ hd).1 hz fun h' hs hg => ?_)))
  obtain ⟨F', N'⟩ := led_same F N hm hs hg
  exact h h' F' N'
end
end Mine
end

section
open PySem PySem.W PyProof.Rows
/-- between two texts: the walk forgets the lines of the text before, as a fresh process has none -/
theorem Mine.calm45 : ∀ (prog : Program) (w : World) (A : Around) (env : Env) (E : Value → Shared → Prop) (s : Shared) (Q : Flow → Shared → Prop), Q .next s → wpAny (model prog w) A (execs [] env) Q E s := by
  w_top off
  intro prog w A env E s Q h
  walk1
  exact h
end

section
open PySem PySem.W PyProof.Rows PySem.Calls
set_option Elab.async false
set_option maxRecDepth 100000
set_option maxHeartbeats 1000000
namespace Mine
section
variable {M : Model} {A : Around} {env : Env} {E : Value → Shared → Prop} {s : Shared} {h0 : Heap} {k0 : Nat}
theorem wp_execs_append {Γ : Ctx} {l2 : List Stmt} {Q : Flow → Pos → Shared → Prop} {E : Value → Pos → Shared → Prop} : ∀ (l1 : List Stmt) (p : Pos) (s : Shared),
    Sem.wp M Γ (execs l1 env) (fun f p' s' => match f with | .next => Sem.wp M Γ (execs l2 env) Q E p' s' | f => Q f p' s') E p s → Sem.wp M Γ (execs (l1 ++ l2) env) Q E p s
  | [], p, s, h => h
  | st :: l1, p, s, h => by
    rw [List.cons_append, execs_cons, Sem.wp_bind']
    rw [execs_cons, Sem.wp_bind'] at h
    refine Sem.wp_mono M Γ (exec st env) (fun f p' s' h' => ?_) (fun _ _ _ h' => h') p s h
    cases f with
    | next => exact wp_execs_append l1 p' s' h'
    | _ => exact h'
/-- some statements that the library's rules walk; behind them these go on -/
theorem cutSn (R : (Heap → Nat → Prop) → Prop) {body l1 l2 : List Stmt} {Q : Flow → Shared → Prop} (hb : body = l1 ++ l2)
    (h1 : ∀ Qb : Flow → Shared → Prop, R (fun h tk => Qb .next { s with heap := h, toks := tk }) → wpAny M A (execs l1 env) Qb (fun _ _ => False) { s with heap := h0, toks := k0 })
    (h2 : R (fun h tk => wpS M A (execs l2 env) Q E { s with heap := h, toks := tk })) : wpS M A (execs body env) Q E { s with heap := h0, toks := k0 } := fun Γ p a b c => by
  subst hb
  refine wp_execs_append _ _ _ (Sem.wp_mono M Γ _ (fun f p' s' h' => ?_) (fun _ _ _ h' => h'.elim) p _ (h1 (fun f s' => match f with | .next => wpS M A (execs l2 env) Q E s' | f => Q f s') h2 Γ p a))
  cases f with
  | next => exact h' Γ p' a b c
  | _ => exact h'
/-- some statements -/
theorem cutn (R : (Heap → Nat → Prop) → Prop) {body l1 l2 : List Stmt} {Q : Flow → Shared → Prop} (hb : body = l1 ++ l2)
    (h1 : ∀ Qb : Flow → Shared → Prop, R (fun h tk => Qb .next { s with heap := h, toks := tk }) → wpAny M A (execs l1 env) Qb (fun _ _ => False) { s with heap := h0, toks := k0 })
    (h2 : R (fun h tk => wpAny M A (execs l2 env) Q E { s with heap := h, toks := tk })) : wpAny M A (execs body env) Q E { s with heap := h0, toks := k0 } := fun Γ p a => by
  subst hb
  refine wp_execs_append _ _ _ (Sem.wp_mono M Γ _ (fun f p' s' h' => ?_) (fun _ _ _ h' => h'.elim) p _ (h1 (fun f s' => match f with | .next => wpAny M A (execs l2 env) Q E s' | f => Q f s') h2 Γ p a))
  cases f with
  | next => exact h' Γ p' a
  | _ => exact h'
end
section
theorem bInts_append (a b : Array UInt8) : KBw.bInts (a ++ b) = KBw.bInts a ++ KBw.bInts b := by
  unfold KBw.bInts
  simp
theorem bInts_size {b : Array UInt8} {l : List Int} (h : KBw.bInts b = l) : b.size = l.length := by
  rw [← h, KBw.ints_length]
theorem take_flatten_le {α : Type} (l : List (List α)) (i : Nat) : (l.take i).flatten.length ≤ l.flatten.length := by
  conv => rhs; rw [← List.take_append_drop i l]
  rw [List.flatten_append, List.length_append]
  omega
theorem take_flatten_succ {α : Type} {l : List (List α)} {i : Nat} {o : List α} (h : l[i]? = some o) : (l.take (i + 1)).flatten = (l.take i).flatten ++ o := by
  rw [List.take_add_one, h]
  simp
theorem rest_mem {a : Addr} {news : List (Addr × Obj)} {q : Addr × Obj} (h : q ∈ news) (n : q.1 ≠ a) : q ∈ rest a news := by
  unfold rest
  exact List.mem_filter.mpr ⟨h, by simpa using n⟩
end
end Mine
end

section
open PySem PySem.W PyProof.Rows
/-- between two texts: the walk forgets the lines of the text before, as a fresh process has none -/
theorem Mine.calm47 : ∀ (prog : Program) (w : World) (A : Around) (env : Env) (E : Value → Shared → Prop) (s : Shared) (Q : Flow → Shared → Prop), Q .next s → wpAny (model prog w) A (execs [] env) Q E s := by
  w_top off
  intro prog w A env E s Q h
  walk1
  exact h
end

section
open PySem PySem.W PyProof.Rows PySem.Calls
set_option Elab.async false
set_option maxRecDepth 100000
set_option maxHeartbeats 1000000
namespace Mine
section
variable {prog : Program} {w : World} {A₀ A : Around} {s : Shared} {base h₀ g₀ : Heap} {outer : List Env} {L : Addr} {m : Str → Option Value} {env : Env} {news : List (Addr × Obj)} {K : Frag} {p : Program} {loose : List Str} {mean : ExcName → Option Value} {mg mb : Str → Option Value}
  {R : Result → Shared → Prop} {name qual : Str} {params : Arguments} {body : List Stmt} {scope : Scope} {dV kV doc pm cdv ct oc : Value} {an od : Option Addr} {osl : Array (Option Value)} {f : Addr} {args : Args} {binds : List (Str × Value)}
/-- codeS_own of a body that may raise -/
theorem codeS_ownX (B : Below A₀ base outer h₀) (F : Fr h₀ L s.heap m) (X₀ : K.In h₀) (N : News h₀ L s.heap news) (T : Top p loose mean mg mb h₀) (hA : A.frames = some (env :: outer)) (hf : env.frame = some L) (hke : env.scope.kind = .function)
    (ho : K.lookup f = some ⟨oc, od, .func (fnOf name qual params body scope dV kV doc pm an cdv ct), osl⟩) (hcd : codeIn K cdv qual = true) (hroom : A.depth < recursionLimit)
    (hbind : BindsTo s (fnOf name qual params body scope dV kV doc pm an cdv ct) args binds) (hloc : ∀ y ∈ binds, scope.names.lookup y.1 = some .local)
    (h : ∀ g L' h₁, Fr h₀ L g m → Fr g L' h₁ (fun y => binds.reverse.lookup y) → News g L' h₁ news → Below A base (env :: outer) g → K.In g → Top p loose mean mg mb g →
      ∀ (Qb : Flow → Shared → Prop) (Eb : Value → Shared → Prop), (∀ fl s', LeaveK h₀ L m g R (match fl with | .ret v => v | _ => .none) s' → Qb fl s') →
      (∀ e s', wpAny (model prog w) (A.deeper (envOf qual scope L' f cdv)) (leaving (envOf qual scope L' f cdv) e) (fun _ s'' => R (.error e) s'') (fun e' s'' => R (.error e') s'') s' → Eb e s') →
      wpS (model prog w) (A.deeper (envOf qual scope L' f cdv)) (execs body (envOf qual scope L' f cdv)) Qb Eb
        { s with heap := h₁, toks := s.toks + binds.length })
    (hcell : ∀ x ∈ scope.names, x.2 ≠ .cell) (hco : scope.isCoroutine = false) (hgen : scope.isGenerator = false) (hk : scope.kind = .function) : codeS (model prog w) A (.call (.ref f) args) R s := by
  obtain ⟨FG, BG, st, lv⟩ := groundX (R := R) B F N hA hf hke
  have X := X₀.keeps F.keep
  have hlim := T.nolimit.keeps F.keep
  refine codeS_call_function (fd := fnOf name qual params body scope dV kV doc pm an cdv ct) (body := body) hroom (X _ _ ho) rfl hco hgen rfl (codeRec_of X hcd) (hbind _ _ _ _ ?_)
  refine wpAny_newFunctionEnv hcell hloc (fun h₁ hns hsb => ⟨hlim.fresh _ hsb, codeS_func ?_⟩) hk
  have hk₁ : ∀ b o, s.heap.get? b = some o → h₁.get? b = some o := fun b o e => hsb.extBut b o (Nat.ne_of_lt (Heap.lt_size e)) (Heap.get?_push_of_some _ e)
  exact wpS_mono (h _ s.heap.objs.size h₁ FG ⟨hns, fun b o e => hk₁ b o (of_hideAll _ e), Nat.le_of_eq (hideAll_size _ _)⟩
    (fun p hp => ⟨hk₁ _ _ (N p hp).1, Nat.ne_of_lt (Heap.lt_size (N p hp).1), hideAll_none _ (List.mem_map_of_mem hp)⟩) BG (X₀.keeps st) (T.keeps st) _ _ (fun _ _ hl => hl) fun _ _ hl => hl) (fun fl s' hl => lv _ _ hl) fun _ _ y => wpS_of y
/-- code_own of a body that may raise -/
theorem code_ownX (B : Below A₀ base outer h₀) (F : Fr h₀ L s.heap m) (X₀ : K.In h₀) (N : News h₀ L s.heap news) (T : Top p loose mean mg mb h₀) (hA : A.frames = some (env :: outer)) (hf : env.frame = some L) (hke : env.scope.kind = .function)
    (ho : K.lookup f = some ⟨oc, od, .func (fnOf name qual params body scope dV kV doc pm an cdv ct), osl⟩) (hcd : codeIn K cdv qual = true) (hroom : A.depth < recursionLimit)
    (hbind : BindsTo s (fnOf name qual params body scope dV kV doc pm an cdv ct) args binds) (hloc : ∀ y ∈ binds, scope.names.lookup y.1 = some .local)
    (h : ∀ g L' h₁, Fr h₀ L g m → Fr g L' h₁ (fun y => binds.reverse.lookup y) → News g L' h₁ news → Below A base (env :: outer) g → K.In g → Top p loose mean mg mb g →
      ∀ (Qb : Flow → Shared → Prop) (Eb : Value → Shared → Prop), (∀ fl s', LeaveK h₀ L m g R (match fl with | .ret v => v | _ => .none) s' → Qb fl s') →
      (∀ e s', wpAny (model prog w) (A.deeper (envOf qual scope L' f cdv)) (leaving (envOf qual scope L' f cdv) e) (fun _ s'' => R (.error e) s'') (fun e' s'' => R (.error e') s'') s' → Eb e s') →
      wpAny (model prog w) (A.deeper (envOf qual scope L' f cdv)) (execs body (envOf qual scope L' f cdv)) Qb Eb
        { s with heap := h₁, toks := s.toks + binds.length })
    (hcell : ∀ x ∈ scope.names, x.2 ≠ .cell) (hco : scope.isCoroutine = false) (hgen : scope.isGenerator = false) (hk : scope.kind = .function) : codeAny (model prog w) A (.call (.ref f) args) R s := by
  obtain ⟨FG, BG, st, lv⟩ := groundX (R := R) B F N hA hf hke
  have X := X₀.keeps F.keep
  refine codeAny_call_def (fd := fnOf name qual params body scope dV kV doc pm an cdv ct) (body := body) (binds := binds) hroom (X _ _ ho) rfl (T.nolimit.keeps F.keep) (codeRec_of X hcd) rfl hbind hcell hloc (fun h₁ hns hk₁ => ?_) hco hgen hk
  exact wpAny_mono (h _ s.heap.objs.size h₁ FG ⟨hns, fun b o e => hk₁ b o (of_hideAll _ e), Nat.le_of_eq (hideAll_size _ _)⟩
    (fun p hp => ⟨hk₁ _ _ (N p hp).1, Nat.ne_of_lt (Heap.lt_size (N p hp).1), hideAll_none _ (List.mem_map_of_mem hp)⟩) BG (X₀.keeps st) (T.keeps st) _ _ (fun _ _ hl => hl) fun _ _ hl => hl) (fun fl s' hl => lv _ _ hl) fun _ _ y => y
variable {cc : Addr}
/-- the same for a def with super() -/
theorem own_superX (B : Below A₀ base outer h₀) (F : Fr h₀ L s.heap m) (X₀ : K.In h₀) (N : News h₀ L s.heap news) (T : Top p loose mean mg mb h₀) (hA : A.frames = some (env :: outer)) (hf : env.frame = some L) (hke : env.scope.kind = .function)
    (ho : K.lookup f = some ⟨oc, od, .func (ksFn name qual params body scope dV kV doc pm an cdv ct cc), osl⟩) (hcd : codeIn K cdv qual = true) (hroom : A.depth < recursionLimit)
    (hbind : BindsTo s (ksFn name qual params body scope dV kV doc pm an cdv ct cc) args binds) (hloc : ∀ y ∈ binds, scope.names.lookup y.1 = some .local)
    (h : ∀ g L' h₁, Fr h₀ L g m → Fr g L' h₁ (fun y => binds.reverse.lookup y) → News g L' h₁ news → Below A base (env :: outer) g → K.In g → Top p loose mean mg mb g → (∀ p ∈ news, p.1 < L') →
      ∀ (Qb : Flow → Shared → Prop) (Eb : Value → Shared → Prop), (∀ fl s', LeaveK h₀ L m g R (match fl with | .ret v => v | _ => .none) s' → Qb fl s') →
      (∀ e s', wpAny (model prog w) (A.deeper (ksEnv qual scope L' f cdv cc)) (leaving (ksEnv qual scope L' f cdv cc) e) (fun _ s'' => R (.error e) s'') (fun e' s'' => R (.error e') s'') s' → Eb e s') →
      _root_.PySem.wpAt (model prog w) (A.deeper (ksEnv qual scope L' f cdv cc)) (.func body (ksEnv qual scope L' f cdv cc)) (execs body (ksEnv qual scope L' f cdv cc)) Qb Eb
        { s with heap := h₁, toks := s.toks + binds.length })
    (hcell : ∀ x ∈ scope.names, x.2 ≠ .cell) (hco : scope.isCoroutine = false) (hgen : scope.isGenerator = false) (hk : scope.kind = .function) : codeAny (model prog w) A (.call (.ref f) args) R s :=
  ks_code_super B F X₀ N T hA hf hke ho hcd hroom hbind hloc (fun g L' h₁ a b c d e t l => h g L' h₁ a b c d e t l _ _ (fun _ _ x => x) fun _ _ x => x) hcell hco hgen hk
end
end Mine
end

section
open PySem PySem.W PyProof.Rows
/-- between two texts: the walk forgets the lines of the text before, as a fresh process has none -/
theorem Mine.calm49 : ∀ (prog : Program) (w : World) (A : Around) (env : Env) (E : Value → Shared → Prop) (s : Shared) (Q : Flow → Shared → Prop), Q .next s → wpAny (model prog w) A (execs [] env) Q E s := by
  w_top off
  intro prog w A env E s Q h
  walk1
  exact h
end

section
open PySem PySem.W PyProof.Rows PySem.Calls PySem.SeqAt
set_option Elab.async false
set_option maxRecDepth 100000
set_option maxHeartbeats 1000000
namespace Mine
section
variable {prog : Program} {w : World} {A₀ A : Around} {s : Shared} {base h₀ g₀ : Heap} {outer : List Env} {L : Addr} {m : Str → Option Value} {env : Env} {news : List (Addr × Obj)} {K : Frag} {p : Program} {loose : List Str} {mean : ExcName → Option Value} {mg mb : Str → Option Value}
  {R : Result → Shared → Prop} {name qual : Str} {params : Arguments} {body : List Stmt} {scope : Scope} {dV kV doc pm cdv ct oc : Value} {an od : Option Addr} {osl : Array (Option Value)} {f : Addr} {args : Args} {binds : List (Str × Value)}
theorem frames_mem {b : Addr} (hf : env.frame = some L) (hm : b ∈ (env :: outer).filterMap (·.frame)) : b = L ∨ b ∈ outer.filterMap (·.frame) := by
  obtain ⟨e, he, hfe⟩ := List.mem_filterMap.mp hm
  rcases List.mem_cons.mp he with rfl | he
  · exact .inl (Option.some.inj (hf.symm.trans hfe)).symm
  · exact .inr (List.mem_filterMap.mpr ⟨e, he, hfe⟩)
/-- the ground of a called def: what the call hands back holds over a ground that was turned -/
theorem groundT (B : Below A₀ base outer h₀) (F : Fr h₀ L s.heap m) (X₀ : K.In h₀) (N : News h₀ L s.heap news) (T : Top p loose mean mg mb h₀) (XB : K.In base) (TB : Top p loose mean mg mb base) (D : KtsDicts (outer.filterMap (·.frame)) h₀)
    (T0 : KtsTurn (outer.filterMap (·.frame)) g₀ h₀) (hA : A.frames = some (env :: outer)) (hf : env.frame = some L) (hke : env.scope.kind = .function) :
    Fr h₀ L (hideAll s.heap (news.map (·.1))) m ∧ Below A base (env :: outer) (hideAll s.heap (news.map (·.1))) ∧ h₀.StaysIn (hideAll s.heap (news.map (·.1))) ∧ KtsDicts ((env :: outer).filterMap (·.frame)) (hideAll s.heap (news.map (·.1))) ∧
      ∀ v s', LeaveS ((env :: outer).filterMap (·.frame)) A₀ base outer K p loose mean mg mb g₀ h₀ L m (hideAll s.heap (news.map (·.1))) R v s' → R (.ok (.ret v)) s' := by
  obtain ⟨FG, BG, st, lv⟩ := groundX (R := R) B F N hA hf hke
  have F0 := FG
  obtain ⟨⟨oL, es, ep, hLg, hLd, hLk, hLf⟩, -, -⟩ := FG
  have hN : ∀ (sl : Array (Option Value)) h', h'.get? L = some { oL with slots := sl } → Heap.Ns h' L m := fun sl h' e => ⟨_, es, ep, e, hLd, hLk, hLf⟩
  refine ⟨F0, BG, st, fun b hb => ?_, fun v s' hl => ?_⟩
  · rcases frames_mem hf hb with rfl | hb
    · exact ⟨oL, es, ep, hLg, hLd⟩
    · obtain ⟨o, es', n', ho', hd'⟩ := D b hb
      exact ⟨o, es', n', st b o ho', hd'⟩
  · rcases hl with ⟨L', m', news', F', N', k⟩ | ⟨g', L', m', news', T', F', N', k⟩
    · exact lv v s' ⟨L', m', news', F', N', k⟩
    have nL₀ : h₀.get? L = none := kts_self F
    obtain ⟨sl, hs⟩ := T'.up hLg
    obtain ⟨T₁, S₁⟩ := kts_turn_at (h := s'.heap) (fs := outer.filterMap (·.frame)) (g := h₀)
      (fun b hb => by
        obtain ⟨_, o, ho', _⟩ := B.frames.mem hb
        exact ⟨o, ho'⟩)
      (fun b o e nmem => F'.keep b o (T'.other b o (st b o e) (fun q => by
        rcases frames_mem hf q with z | z
        · rw [z, nL₀] at e
          cases e
        · exact nmem z)))
      (fun b o e hm => by
        obtain ⟨sl', hs'⟩ := T'.up (st b o e)
        exact ⟨sl', F'.keep _ _ hs'⟩)
    have B₃ : Below A₀ base outer (ktsHeap s'.heap (outer.filterMap (·.frame)) h₀) := ⟨B.stack, fun b o e => T₁.other b o (B.stays b o e) (fun hm => by
      rw [(B.frames.mem hm).1] at e
      cases e), B.frames.of_keeps fun b o e _ => by
      obtain ⟨sl', hs'⟩ := T₁.up e
      exact ⟨_, hs', rfl⟩⟩
    refine k _ (T0.trans T₁) ⟨hN sl _ (F'.keep _ _ hs), S₁, by rw [T₁.size]; exact F.above⟩ (fun p hp => ⟨(N' p hp).1, fun q => ?_, ?_⟩) B₃ (XB.keeps B₃.stays) (TB.keeps B₃.stays) (D.turn T₁)
    · have := (N' p hp).2.2; rw [q, hs] at this; cases this
    · refine T₁.none_ _ ?_
      cases q : h₀.get? p.1 with
      | none => rfl
      | some o =>
        obtain ⟨sl', hs'⟩ := T'.up (st _ _ q)
        have := (N' p hp).2.2
        rw [hs'] at this
        cases this
/-- a def without cells is called -/
theorem code_turn (B : Below A₀ base outer h₀) (F : Fr h₀ L s.heap m) (X₀ : K.In h₀) (N : News h₀ L s.heap news) (T : Top p loose mean mg mb h₀) (XB : K.In base) (TB : Top p loose mean mg mb base) (D : KtsDicts (outer.filterMap (·.frame)) h₀)
    (T0 : KtsTurn (outer.filterMap (·.frame)) g₀ h₀) (hA : A.frames = some (env :: outer)) (hf : env.frame = some L) (hke : env.scope.kind = .function)
    (ho : K.lookup f = some ⟨oc, od, .func (fnOf name qual params body scope dV kV doc pm an cdv ct), osl⟩) (hcd : codeIn K cdv qual = true) (hroom : A.depth < recursionLimit)
    (hbind : BindsTo s (fnOf name qual params body scope dV kV doc pm an cdv ct) args binds) (hloc : ∀ y ∈ binds, scope.names.lookup y.1 = some .local)
    (h : ∀ g L' h₁, Fr h₀ L g m → Fr g L' h₁ (fun y => binds.reverse.lookup y) → News g L' h₁ news → Below A base (env :: outer) g → K.In g → Top p loose mean mg mb g → KtsDicts ((env :: outer).filterMap (·.frame)) g →
      ∀ Qb : Flow → Shared → Prop, (∀ fl s', LeaveS ((env :: outer).filterMap (·.frame)) A₀ base outer K p loose mean mg mb g₀ h₀ L m g R (match fl with | .ret v => v | _ => .none) s' → Qb fl s') →
      wpAny (model prog w) (A.deeper (envOf qual scope L' f cdv)) (execs body (envOf qual scope L' f cdv))
        Qb (fun _ _ => False)
        { s with heap := h₁, toks := s.toks + binds.length })
    (hcell : ∀ x ∈ scope.names, x.2 ≠ .cell) (hco : scope.isCoroutine = false) (hgen : scope.isGenerator = false) (hk : scope.kind = .function) : codeAny (model prog w) A (.call (.ref f) args) R s := by
  obtain ⟨FG, BG, st, DG, lv⟩ := groundT (R := R) B F X₀ N T XB TB D T0 hA hf hke
  have X := X₀.keeps F.keep
  refine codeAny_call_def (fd := fnOf name qual params body scope dV kV doc pm an cdv ct) (body := body) (binds := binds) hroom (X _ _ ho) rfl (T.nolimit.keeps F.keep) (codeRec_of X hcd) rfl hbind hcell hloc (fun h₁ hns hk₁ => ?_) hco hgen hk
  exact wpAny_mono (h _ s.heap.objs.size h₁ FG ⟨hns, fun b o e => hk₁ b o (of_hideAll _ e), Nat.le_of_eq (hideAll_size _ _)⟩
    (fun p hp => ⟨hk₁ _ _ (N p hp).1, Nat.ne_of_lt (Heap.lt_size (N p hp).1), hideAll_none _ (List.mem_map_of_mem hp)⟩) BG (X₀.keeps st) (T.keeps st) DG _ fun _ _ hl => hl) (fun fl s' hl => lv _ _ hl) fun _ _ y => y.elim
end
end Mine
end

section
open PySem PySem.W PyProof.Rows
/-- between two texts: the walk forgets the lines of the text before, as a fresh process has none -/
theorem Mine.calm51 : ∀ (prog : Program) (w : World) (A : Around) (env : Env) (E : Value → Shared → Prop) (s : Shared) (Q : Flow → Shared → Prop), Q .next s → wpAny (model prog w) A (execs [] env) Q E s := by
  w_top off
  intro prog w A env E s Q h
  walk1
  exact h
end

section
open PySem PySem.W PyProof.Rows PySem.Calls
set_option Elab.async false
set_option maxRecDepth 100000
set_option maxHeartbeats 1000000
namespace Mine
section
variable {prog : Program} {w : World} {A₀ A : Around} {s : Shared} {base h₀ : Heap} {outer : List Env} {L : Addr} {m : Str → Option Value} {env : Env} {news : List (Addr × Obj)} {K : Frag} {p : Program} {loose : List Str} {mean : ExcName → Option Value} {mg mb : Str → Option Value}
  {R : Result → Shared → Prop} {name qual : Str} {params : Arguments} {body : List Stmt} {scope : Scope} {dV kV doc pm cdv ct oc : Value} {an od : Option Addr} {osl : Array (Option Value)} {f : Addr} {args : Args} {binds : List (Str × Value)}
/-- code_own of a def with cells -/
theorem code_ownC (B : Below A₀ base outer h₀) (F : Fr h₀ L s.heap m) (X₀ : K.In h₀) (N : News h₀ L s.heap news) (T : Top p loose mean mg mb h₀) (hA : A.frames = some (env :: outer)) (hf : env.frame = some L) (hke : env.scope.kind = .function)
    (ho : K.lookup f = some ⟨oc, od, .func (fnOf name qual params body scope dV kV doc pm an cdv ct), osl⟩) (hcd : codeIn K cdv qual = true) (hroom : A.depth < recursionLimit)
    (hbind : BindsTo s (fnOf name qual params body scope dV kV doc pm an cdv ct) args binds) (hkind : (binds.all fun y => scope.names.lookup y.1 == some .local || scope.names.lookup y.1 == some .cell) = true)
    (hnd : ((cellsFrom 0 scope.names []).map (·.1)).Nodup)
    (h : ∀ g L' h₁ tk cells, Fr h₀ L g m → Fr g L' h₁ (bindL (envOfC qual scope L' f cdv).kindOf binds fun _ => none) → News g L' h₁ (cells ++ news) →
      CellsAre (bindC (envOfC qual scope L' f cdv).kindOf binds fun _ => none) (cellsFrom (L' + 1) scope.names []) cells → Below A base (env :: outer) g → K.In g → Top p loose mean mg mb g → (∀ p ∈ news, p.1 < L') →
      ∀ Qb : Flow → Shared → Prop, (∀ fl s', LeaveK h₀ L m g R (match fl with | .ret v => v | _ => .none) s' → Qb fl s') →
      wpAny (model prog w) (A.deeper (envOfC qual scope L' f cdv)) (execs body (envOfC qual scope L' f cdv)) Qb (fun _ _ => False) { s with heap := h₁, toks := tk })
    (hco : scope.isCoroutine = false) (hgen : scope.isGenerator = false) (hk : scope.kind = .function) : codeAny (model prog w) A (.call (.ref f) args) R s := by
  obtain ⟨FG, BG, st, lv⟩ := groundX (R := R) B F N hA hf hke
  have X := X₀.keeps F.keep
  refine codeAny_call_function (fd := fnOf name qual params body scope dV kV doc pm an cdv ct) hroom (X _ _ ho) rfl hco hgen rfl (codeRec_of X hcd) (hbind _ _ _ _ ?_)
  refine wpAny_newFunctionEnv_cells hk (kindsX hkind _) fun env' he s' x => ?_
  subst he
  refine ⟨(T.nolimit.keeps F.keep).keeps x.toInCall.keep, codeAny_func ?_⟩
  obtain ⟨h₁, tk, rfl, _⟩ := x.done
  have hk₁ := x.toInCall.keep
  obtain ⟨cells, NC, Y⟩ := Cl.news (h₀ := s.heap) (Nat.le_refl _) fun n c hm => ⟨x.cell n c (lookup_of_mem_nodup (cellsFrom_names scope.names 0 (s.heap.objs.size + 1) [] [] rfl ▸ hnd) hm), x.above n c hm⟩
  refine wpAny_mono (h _ s.heap.objs.size h₁ tk cells FG ⟨x.toInCall.ns, fun b o e => hk₁ b o (of_hideAll _ e), Nat.le_of_eq (hideAll_size _ _)⟩ (fun p hp => ?_) Y BG (X₀.keeps st) (T.keeps st) (fun p hp => Heap.lt_size (N p hp).1) _ fun _ _ hl => hl) (fun fl s' hl => lv _ _ hl) fun _ _ y => y.elim
  rcases List.mem_append.mp hp with hp | hp
  · refine ⟨(NC p hp).1, (NC p hp).2.1, ?_⟩
    cases q : (hideAll s.heap (news.map (·.1))).get? p.1 with
    | none => rfl
    | some o => have := of_hideAll _ q; rw [(NC p hp).2.2] at this; cases this
  · exact ⟨hk₁ _ _ (N p hp).1, Nat.ne_of_lt (Heap.lt_size (N p hp).1), hideAll_none _ (List.mem_map_of_mem hp)⟩
end
end Mine
end

section
open PySem PySem.W PyProof.Rows
/-- between two texts: the walk forgets the lines of the text before, as a fresh process has none -/
theorem Mine.calm53 : ∀ (prog : Program) (w : World) (A : Around) (env : Env) (E : Value → Shared → Prop) (s : Shared) (Q : Flow → Shared → Prop), Q .next s → wpAny (model prog w) A (execs [] env) Q E s := by
  w_top off
  intro prog w A env E s Q h
  walk1
  exact h
end

section
open PySem PySem.W PyProof.Rows PySem.Calls PySem.SeqAt
set_option Elab.async false
set_option maxRecDepth 100000
set_option maxHeartbeats 1000000
namespace Mine
section
variable {prog : Program} {w : World} {A : Around} {E : Value → Shared → Prop} {s : Shared} {h₀ : Heap} {L : Addr} {m : Str → Option Value} {news : List (Addr × Obj)} {env : Env}
open LCg LCt in
end
end Mine
end

section
open PySem PySem.W PyProof.Rows
/-- between two texts: the walk forgets the lines of the text before, as a fresh process has none -/
theorem Mine.calm55 : ∀ (prog : Program) (w : World) (A : Around) (env : Env) (E : Value → Shared → Prop) (s : Shared) (Q : Flow → Shared → Prop), Q .next s → wpAny (model prog w) A (execs [] env) Q E s := by
  w_top off
  intro prog w A env E s Q h
  walk1
  exact h
end

section
open PySem PySem.W PyProof.Rows PySem.Calls PySem.SeqAt
set_option Elab.async false
set_option maxRecDepth 100000
set_option maxHeartbeats 1000000
namespace Mine
open LCg
section
variable {prog : Program} {w : World} {A : Around} {E : Value → Shared → Prop} {s : Shared} {h₀ : Heap} {L : Addr} {m : Str → Option Value} {env : Env}
end
/-- two lists of the ledger are put together -/
theorem cat_lists {prog : Program} {w : World} {A : Around} {E : Value → Shared → Prop} {s : Shared} {h₀ : Heap} {L l b : Addr} {m : Str → Option Value} {news : List (Addr × Obj)} {vs ws : List Value} {n1 n2 : Nat} {Q : Value → Shared → Prop} (F : Fr h₀ L s.heap m) (N : News h₀ L s.heap news)
    (h1 : (l, W.listOf vs.toArray n1) ∈ news) (h2 : (b, W.listOf ws.toArray n2) ∈ news) (hz : vs.length + ws.length < 2000)
    (k : ∀ B h', Fr h₀ L h' m → News h₀ L h' ((B, W.listOf (vs ++ ws).toArray 0) :: news) → (∀ q ∈ news, q.1 < B) → Q (.ref B) { s with heap := h' }) : wpAny (model prog w) A (binaryOp .Add (.ref l) (.ref b)) Q E s :=
  add_lists F N (PySem.IsL.isList (n := n1) (N _ h1).1) (PySem.IsL.isList (n := n2) (N _ h2).1) (fun h' F' N' => k _ h' F' N' fun q hq => Heap.lt_size (N q hq).1) (by rw [sizeLine_eq]; omega)
end Mine
end

section
open PySem PySem.W PyProof.Rows
/-- between two texts: the walk forgets the lines of the text before, as a fresh process has none -/
theorem Mine.calm57 : ∀ (prog : Program) (w : World) (A : Around) (env : Env) (E : Value → Shared → Prop) (s : Shared) (Q : Flow → Shared → Prop), Q .next s → wpAny (model prog w) A (execs [] env) Q E s := by
  w_top off
  intro prog w A env E s Q h
  walk1
  exact h
end

section
open PySem PySem.W PyProof.Rows PySem.Calls PySem.SeqAt
set_option Elab.async false
set_option maxRecDepth 100000
set_option maxHeartbeats 1000000
namespace Mine
section
variable {prog : Program} {w : World} {A₀ : Around} {E : Value → Shared → Prop} {s' : Shared} {base g g₀ h : Heap} {outer : List Env} {L a e : Addr} {m : Str → Option Value} {cn : Str} {cs : Scope} {ccd : Value} {cl : List (Str × Addr)}
  {b₀ : Stmt} {suite : List Stmt} {pos np : Pos} {rest : List ExceptHandler} {Q : Flow → Shared → Prop} {news : List (Addr × Obj)} {KF : Frag}
  {p : Program} {loose : List Str} {mean : ExcName → Option Value} {mg mb : Str → Option Value} {x : Str} {X T' : String}
end
section
variable {prog : Program} {w : World} {A₀ A : Around} {s : Shared} {base h₀ g₀ : Heap} {outer : List Env} {L : Addr} {m : Str → Option Value} {env : Env} {news : List (Addr × Obj)} {K : Frag} {p : Program} {loose : List Str} {mean : ExcName → Option Value} {mg mb : Str → Option Value}
  {R : Result → Shared → Prop} {name qual : Str} {params : Arguments} {body : List Stmt} {scope : Scope} {dV kV doc pm cdv ct oc : Value} {an od : Option Addr} {osl : Array (Option Value)} {f cc : Addr} {args : Args} {binds : List (Str × Value)}
end
section
variable {prog : Program} {w : World} {A : Around} {E : Value → Shared → Prop} {s : Shared} {h₀ : Heap} {L D : Addr} {news : List (Addr × Obj)}
end
end Mine
end

section
open PySem PySem.W PyProof.Rows
/-- between two texts: the walk forgets the lines of the text before, as a fresh process has none -/
theorem Mine.calm59 : ∀ (prog : Program) (w : World) (A : Around) (env : Env) (E : Value → Shared → Prop) (s : Shared) (Q : Flow → Shared → Prop), Q .next s → wpAny (model prog w) A (execs [] env) Q E s := by
  w_top off
  intro prog w A env E s Q h
  walk1
  exact h
end

section
open PySem PySem.W PyProof.Rows PySem.Calls PySem.SeqAt
set_option Elab.async false
set_option maxRecDepth 100000
set_option maxHeartbeats 1000000
namespace Mine
section
variable {prog : Program} {w : World} {A : Around} {E : Value → Shared → Prop} {s : Shared} {env : Env}
theorem append_led {h₀ : Heap} {L D : Addr} {m : Str → Option Value} {news : List (Addr × Obj)} {vs : List Value} {n : Nat} {v : Value} {Q : Value → Shared → Prop} (F : Fr h₀ L s.heap m) (N : News h₀ L s.heap news) (hm : (D, W.listOf vs.toArray n) ∈ news) (hz : vs.length < 1000)
    (h : ∀ h', Fr h₀ L h' m → News h₀ L h' ((D, W.listOf (vs ++ [v]).toArray (n + 1)) :: rest D news) → Q .none { s with heap := h' }) : wpAny (model prog w) A (call (.builtin "list.append") [.ref D, v]) Q E s := by
  have z := N _ hm
  refine append_at (hsz := by rw [List.size_toArray, sizeLine_eq]; omega) z.1 fun h' hs hD => h h' (F.change hs z.2.1 z.2.2) fun q hq => ?_
  rcases List.mem_cons.mp hq with rfl | hq
  · refine ⟨hD.trans ?_, z.2⟩
    simp [W.listOf]
  · have y := N q (List.mem_filter.mp hq).1
    exact ⟨hs.extBut _ _ (rest_ne q hq) y.1, y.2⟩
end
end Mine
end

section
open PySem PySem.W PyProof.Rows
/-- between two texts: the walk forgets the lines of the text before, as a fresh process has none -/
theorem Mine.calm61 : ∀ (prog : Program) (w : World) (A : Around) (env : Env) (E : Value → Shared → Prop) (s : Shared) (Q : Flow → Shared → Prop), Q .next s → wpAny (model prog w) A (execs [] env) Q E s := by
  w_top off
  intro prog w A env E s Q h
  walk1
  exact h
end

section
open PySem PySem.W PyProof.Rows PySem.Calls PySem.SeqAt
set_option Elab.async false
set_option maxRecDepth 100000
set_option maxHeartbeats 1000000
namespace Mine
section
variable {prog : Program} {w : World} {A : Around} {E : Value → Shared → Prop} {s : Shared} {env : Env}
/-- where a loop over range(a, b, d) stands whose turns raise nothing -/
inductive LoopD (prog : Program) (w : World) (A : Around) (env : Env) (x : Str) (body : List Stmt) (Q : Flow → Shared → Prop) : Value → Shared → Prop
  | mk {s : Shared} {hs : Heap} {ks : Nat} (r : Addr) (a b d : Int) (t u v : Tok) (n : Nat) (Ctx : Heap → Prop) (h₀ : Heap) (m : Str → Option Value) (news : List (Addr × Obj)) (J : Nat → (Str → Option Value) → List (Addr × Obj) → Prop)
    (hh : A.handled = none) (C : Ctx h₀) (F : Fr h₀ env.locals hs m) (N : News h₀ env.locals hs news) (hr : IsRange hs r a b d t u v) (hsm : Builtin.Range.small a b d = true) (hn : Builtin.Range.rangeSize a b d = ((n : Nat) : Int)) (h0 : J 0 m news)
    (turn : ∀ i t m₁ news₁ h₀' h tk I oI, i < n → Ctx h₀' → J i m₁ news₁ → (∀ p ∈ news₁, p.1 ≠ I) → Fr h₀' env.locals h (fun y => if y = x then some (.int (a + (i : Nat) * d) t) else m₁ y) → News h₀' env.locals h ((I, oI) :: news₁) →
      ∀ Qb : Flow → Shared → Prop, (∀ f h' tk' h₀' m₂ news₂, f = .next ∨ f = .cont → Ctx h₀' → Fr h₀' env.locals h' m₂ → News h₀' env.locals h' ((I, oI) :: news₂) → (∀ p ∈ news₂, p.1 ≠ I) → J (i + 1) m₂ news₂ → Qb f { s with heap := h', toks := tk' }) →
      wpAny (model prog w) A (execs body env) Qb (fun _ _ => False) { s with heap := h, toks := tk })
    (done : ∀ m₁ news₁ h₀' h tk, Ctx h₀' → J n m₁ news₁ → Fr h₀' env.locals h m₁ → News h₀' env.locals h news₁ → Q .next { s with heap := h, toks := tk }) :
    LoopD prog w A env x body Q (.ref r) { s with heap := hs, toks := ks }
/-- where the loop stands between two turns -/
inductive AtD (s₁ : Shared) (L I : Addr) (a d : Int) (n : Nat) (Ctx : Heap → Prop) (J : Nat → (Str → Option Value) → List (Addr × Obj) → Prop) : Nat → Shared → Prop
  | mk (h' : Heap) (tk i : Nat) (h₀' : Heap) (m' : Str → Option Value) (news' : List (Addr × Obj)) (hi : i ≤ n) (hit : IsRangeIter h' I (a + (i : Nat) * d) ((n : Int) - (i : Nat)) d) (C : Ctx h₀') (F : Fr h₀' L h' m') (N : News h₀' L h' news') (hI : h₀'.get? I = none) (off : ∀ p ∈ news', p.1 ≠ I) (j : J i m' news') :
    AtD s₁ L I a d n Ctx J (n + 1 - i) { s₁ with heap := h', toks := tk }
theorem For_rangeD {Q : Flow → Shared → Prop} {x : Str} {px pos : Pos} {iter : Expr} {body : List Stmt} (hx : env.kindOf x = some .local)
    (hp : (env.scope.kind == .class || (env.scope.kind == .module && env.locals != env.globals)) = false)
    (h : wpAny (model prog w) A (eval iter env) (LoopD prog w A env x body Q) E s)
    (hs : ∀ x, foldedSetIterable iter env x = pure x := by intro _; rfl) :
    wpAny (model prog w) A (exec (.For (.Name x px) iter body [] pos) env) Q E s := by
  refine wpAny_For (wpAny_mono h (fun xv s₁ h₁ => ?_) fun _ _ e => e) hs
  cases h₁ with
  | @mk s hs ks r a b d t u v n Ctx h₀ m news J hh C F N hr hsm hn hJ turn done =>
  refine wpAny_pyIter_range hr hsm ?_
  have W : Walks prog w A hs.objs.size [hs.objs.size] [hs.objs.size] n (fun i v => i < n ∧ ∃ t, v = .int (a + i * d) t) (fun i h => IsRangeIter h hs.objs.size (a + (i : Nat) * d) ((n : Int) - (i : Nat)) d) := (Walks.range hh hs.objs.size a d n).bound
  have hNI : ∀ p ∈ news, p.1 ≠ hs.objs.size := fun p hp q => absurd (Heap.lt_size (N p hp).1) (by rw [q]; exact Nat.lt_irrefl _)
  dsimp only
  generalize hI : hs.objs.size = I at W hNI ⊢
  have hIn : h₀.get? I = none := by
    cases q : h₀.get? I with
    | none => rfl
    | some o => exact absurd (Heap.lt_size (F.keep _ _ q)) (by rw [hI]; exact Nat.lt_irrefl _)
  have hIL : I ≠ env.locals := fun q => absurd F.ns.lt (by rw [hI, q]; exact Nat.lt_irrefl _)
  have hit0 : IsRangeIter (hs.push { cls := .type "range_iterator", data := .fields #[rawInt a, rawInt (Builtin.Range.rangeSize a b d), rawInt d] }) I (a + ((0 : Nat) : Int) * d) ((n : Int) - ((0 : Nat) : Int)) d := by
    show IsRangeIter _ _ _ _ _
    subst hI
    rw [hn]
    simpa using Heap.get?_push_size _ rfl
  refine codeAny_forLoop (R := fun r s' => match r with | .ok f => Q f s' | .error e => cameBackBy (model prog w) A env E e s')
    (AtD s env.locals I a d n Ctx J) ?_ (n + 1) (AtD.mk (s₁ := s) (i := 0) _ ks h₀ m news (Nat.zero_le _) hit0 C (F.push _) (fun p hp => ⟨Heap.get?_push_of_some _ (N p hp).1, (N p hp).2⟩) hIn hNI hJ)
  intro k s' hk
  cases hk with
  | mk h' tk i h₀' m' news' hi hit C' F' N' hIn' off hJ' =>
  have next : ∀ h₁ : Heap, (∀ b o, b ∉ [I] → h'.get? b = some o → h₁.get? b = some o) → Fr h₀' env.locals h₁ m' ∧ News h₀' env.locals h₁ news' := fun h₁ hk₁ =>
    ⟨⟨F'.ns.at' fun o e => hk₁ _ o (by simpa using Ne.symm hIL) e, fun b o e => hk₁ b o (fun q => by rw [List.mem_singleton.mp q, hIn'] at e; cases e) (F'.keep b o e), F'.above⟩,
      fun p hp => ⟨hk₁ _ _ (by simpa using off p hp) (N' p hp).1, (N' p hp).2⟩⟩
  by_cases hlt : i < n
  · refine W.item i _ _ _ hlt hit fun v h₁ tk₁ hP hst₁ hk₁ => ?_
    obtain ⟨-, tv, rfl⟩ := hP
    obtain ⟨F₁, N₁⟩ := next h₁ hk₁
    refine wpAny_assign_Name (wpAny_storeName_local hx F₁.ns (fun h₂ hn₂ hs₂ => ?_) hp)
    have F₂ := F₁.set hn₂ hs₂
    have N₂ := N₁.set hs₂
    obtain ⟨oI₂, heI, hoI⟩ : ∃ oI : Obj, h₂.get? I = some oI ∧ ∀ h : Heap, h.get? I = some oI → IsRangeIter h I (a + ((i + 1 : Nat) : Int) * d) ((n : Int) - ((i + 1 : Nat) : Int)) d := ⟨_, (hs₂.2 I hIL).trans hst₁, fun _ e => e⟩
    refine wpAny_mono (turn i tv m' news' h₀' h₂ _ I oI₂ hlt C' hJ' off F₂ (fun p hp => ?_) (fun f s₃ => ∃ j m₂, m₂ < n + 1 - i ∧ (f = .next ∨ f = .cont) ∧ AtD s env.locals I a d n Ctx J m₂ s₃ ∧ j = i) ?_) (fun f s₃ h₃ => ?_) fun _ _ e => e.elim
    · rcases List.mem_cons.mp hp with rfl | hp
      · exact ⟨heI, hIL, hIn'⟩
      · exact N₂ p hp
    · intro f h'' tk'' h₀'' m₂ news₂ hf C₂ F₃ N₃ off₃ j
      exact ⟨i, n + 1 - (i + 1), by omega, hf, AtD.mk (s₁ := s) (i := i + 1) h'' tk'' h₀'' m₂ news₂ hlt (hoI _ (N₃ _ (.head _)).1) C₂ F₃ (fun p hp => N₃ p (.tail _ hp)) (N₃ _ (.head _)).2.2 off₃ j, rfl⟩
    · obtain ⟨_, m₂, hlt2, hf, hat, _⟩ := h₃
      rcases hf with rfl | rfl <;> exact ⟨m₂, hlt2, hat⟩
  · have e : i = n := by omega
    subst e
    refine W.done _ _ _ hit fun h₁ tk₁ hk₁ => wpAny_execs_nil ?_
    obtain ⟨F₁, N₁⟩ := next h₁ hk₁
    exact done m' news' h₀' h₁ tk₁ C' hJ' F₁ N₁
end
end Mine
end

section
open PySem PySem.W PyProof.Rows
/-- between two texts: the walk forgets the lines of the text before, as a fresh process has none -/
theorem Mine.calm63 : ∀ (prog : Program) (w : World) (A : Around) (env : Env) (E : Value → Shared → Prop) (s : Shared) (Q : Flow → Shared → Prop), Q .next s → wpAny (model prog w) A (execs [] env) Q E s := by
  w_top off
  intro prog w A env E s Q h
  walk1
  exact h
end

section
open PySem PySem.W PyProof.Rows PySem.Calls
set_option Elab.async false
set_option maxRecDepth 100000
set_option maxHeartbeats 1000000
namespace Mine
theorem rangeSize_el {n el : Nat} (h : 4 < el) : Builtin.Range.rangeSize 8 (((n * el : Nat) : Int) + 4) (el : Int) = (n : Nat) := by
  unfold Builtin.Range.rangeSize
  rw [if_pos (by omega)]
  cases n with
  | zero => rw [if_neg (by simp)]; rfl
  | succ k =>
    have e : (((k + 1) * el : Nat) : Int) = (k : Int) * el + el := by rw [Nat.succ_mul]; push_cast; rfl
    have hk : (0 : Int) ≤ (k : Int) * el := Int.mul_nonneg (by omega) (by omega)
    rw [e, if_pos (by omega)]
    have e2 : (k : Int) * el + el + 4 - 8 - 1 = (el - 5) + (k : Int) * el := by omega
    rw [e2, Int.add_mul_ediv_right _ _ (by omega), Int.ediv_eq_zero_of_lt (by omega) (by omega)]
    push_cast
    omega
theorem small_el {n el : Nat} (h : 4 < el) (h1 : n ≤ 1000) (h2 : el ≤ 1000) : Builtin.Range.small 8 (((n * el : Nat) : Int) + 4) (el : Int) = true := by
  have h3 : n * el ≤ 1000 * 1000 := Nat.mul_le_mul h1 h2
  unfold Builtin.Range.small
  rw [rangeSize_el h]
  have h4 : (0 : Int) ≤ (n : Int) * el := Int.mul_nonneg (by omega) (by omega)
  have h5 : ((n * el : Nat) : Int) = (n : Int) * el := by push_cast; rfl
  simp only [Builtin.Range.rangeFitsLong, Bool.and_eq_true, Bool.or_eq_true, decide_eq_true_eq, beq_iff_eq, show ((el : Int) > 0) by omega, if_true]
  generalize n * el = p at *
  omega
theorem flatten_len {α : Type} {k : Nat} : ∀ {l : List (List α)}, (∀ o ∈ l, o.length = k) → l.flatten.length = l.length * k
  | [], _ => by simp
  | o :: l, h => by
    rw [List.flatten_cons, List.length_append, List.length_cons, Nat.succ_mul, h o (.head _), flatten_len fun o ho => h o (.tail _ ho)]
    omega
theorem flatten_at {α : Type} {l : List (List α)} {i : Nat} {o : List α} (h : l[i]? = some o) : l.flatten = (l.take i).flatten ++ (o ++ (l.drop (i + 1)).flatten) := by
  conv => lhs; rw [← List.take_append_drop i l]
  rw [List.flatten_append]
  congr 1
  obtain ⟨hi, e⟩ := List.getElem?_eq_some_iff.mp h
  rw [List.drop_eq_getElem_cons hi, List.flatten_cons, e]
end Mine
end

section
open PySem PySem.W PyProof.Rows
/-- between two texts: the walk forgets the lines of the text before, as a fresh process has none -/
theorem Mine.calm65 : ∀ (prog : Program) (w : World) (A : Around) (env : Env) (E : Value → Shared → Prop) (s : Shared) (Q : Flow → Shared → Prop), Q .next s → wpAny (model prog w) A (execs [] env) Q E s := by
  w_top off
  intro prog w A env E s Q h
  walk1
  exact h
end

section
open PySem PySem.W PyProof.Rows PySem.Calls
set_option Elab.async false
set_option maxRecDepth 100000
set_option maxHeartbeats 1000000
namespace Mine
theorem value_little : ∀ (n : Nat) (x : Int), 0 ≤ x → x < 256 ^ n → KFB.value (KTBy.little n x).reverse = x
  | 0, x, h0, h1 => by
    have : x = 0 := by simp at h1; omega
    subst this
    rfl
  | n + 1, x, h0, h1 => by
    have e : KTBy.little (n + 1) x = x % 256 :: KTBy.little n (x / 256) := rfl
    have ih := value_little n (x / 256) (Int.ediv_nonneg h0 (by decide)) (by
      rw [Int.pow_succ] at h1
      exact Int.ediv_lt_of_lt_mul (by decide) h1)
    rw [e, List.reverse_cons]
    unfold KFB.value at ih ⊢
    rw [List.foldl_append, ih]
    show x / 256 * 256 + x % 256 = x
    omega
open PyProof.V PySem.Spec in
/-- a part of a text whose pieces are known -/
theorem part_of {ks A B C : List Int} {lo hi : Int} (e : ks = A ++ (B ++ C)) (h1 : lo = A.length) (h2 : hi = A.length + B.length) :
    (ks.drop ((some lo).elim 0 (clipAt ks.length))).take ((some hi).elim ks.length (clipAt ks.length) - (some lo).elim 0 (clipAt ks.length)) = B := by
  subst e h1
  obtain rfl : hi = ((A.length + B.length : Nat) : Int) := by omega
  simp only [Option.elim, clipAt_nat, List.length_append]
  rw [show min A.length (A.length + (B.length + C.length)) = A.length by omega, show min (A.length + B.length) (A.length + (B.length + C.length)) = A.length + B.length by omega]
  rw [List.drop_left, show A.length + B.length - A.length = B.length by omega, List.take_left]
end Mine
end

section
open PySem PySem.W PyProof.Rows
/-- between two texts: the walk forgets the lines of the text before, as a fresh process has none -/
theorem Mine.calm67 : ∀ (prog : Program) (w : World) (A : Around) (env : Env) (E : Value → Shared → Prop) (s : Shared) (Q : Flow → Shared → Prop), Q .next s → wpAny (model prog w) A (execs [] env) Q E s := by
  w_top off
  intro prog w A env E s Q h
  walk1
  exact h
end

section
open PySem PySem.W PyProof.Rows PySem.Calls PySem.SeqAt
set_option Elab.async false
set_option maxRecDepth 100000
set_option maxHeartbeats 1000000
namespace Mine
section
variable {prog : Program} {w : World} {A : Around} {E : Value → Shared → Prop} {s : Shared} {env : Env}
theorem assign_three {x y z : Str} {px py pz tp : Pos} {kk : Nat} {T : Addr} {a b c : Value} {m : Str → Option Value} {Q : Unit → Shared → Prop} (hh : A.handled = none) (ht : s.heap.IsTuple T #[a, b, c])
    (hx : env.kindOf x = some .local) (hy : env.kindOf y = some .local) (hz : env.kindOf z = some .local) (hp : (env.scope.kind == .class || (env.scope.kind == .module && env.locals != env.globals)) = false) (hn : s.heap.Ns env.locals m)
    (h : ∀ (h' : Heap) (tk : Nat), h'.Ns env.locals (fun q => if q = z then some c else if q = y then some b else if q = x then some a else m q) → (∀ d o, d ≠ env.locals → s.heap.get? d = some o → h'.get? d = some o) → Q () { s with heap := h', toks := tk }) :
    wpAny (model prog w) A (assign (.Tuple [.Name x px, .Name y py, .Name z pz] kk tp) env (.ref T)) Q E s := by
  refine wpAny_assign_Tuple hh ht rfl rfl fun h₁ he₁ => ?_
  have hn₁ : h₁.Ns env.locals m := hn.at' fun o e => he₁ _ o (Nat.ne_of_lt hn.lt) e
  show wpAny _ _ (assignInOrder [assign (.Name x px) env, assign (.Name y py) env, assign (.Name z pz) env] [a, b, c]) _ _ _
  refine assignInOrder_cons (wpAny_assign_Name (wpAny_storeName_local hx hn₁ (fun h₂ hn₂ hs₂ => ?_) hp))
  refine assignInOrder_cons (wpAny_assign_Name (wpAny_storeName_local hy hn₂ (fun h₃ hn₃ hs₃ => ?_) hp))
  refine assignInOrder_cons (wpAny_assign_Name (wpAny_storeName_local hz hn₃ (fun h₄ hn₄ hs₄ => ?_) hp))
  refine assignInOrder_nil ?_
  exact h h₄ _ hn₄ fun d o hd e => hs₄.extBut d o hd (hs₃.extBut d o hd (hs₂.extBut d o hd (he₁ d o (Nat.ne_of_lt (Heap.lt_size e)) e)))
/-- where a loop over a made list of triples stands whose turns raise nothing -/
inductive LoopP (prog : Program) (w : World) (A : Around) (env : Env) (x y z : Str) (body : List Stmt) (Q : Flow → Shared → Prop) : Value → Shared → Prop
  | mk {s : Shared} {hs : Heap} {ks : Nat} (D : Addr) (vs : List Value) (n : Nat) (Ctx : Heap → Prop) (h₀ : Heap) (m : Str → Option Value) (news : List (Addr × Obj)) (J : Nat → (Str → Option Value) → List (Addr × Obj) → Prop)
    (hh : A.handled = none) (C : Ctx h₀) (F : Fr h₀ env.locals hs m) (N : News h₀ env.locals hs news) (hD : ∀ i m news, J i m news → (D, W.listOf vs.toArray n) ∈ news) (h0 : J 0 m news)
    (W : Nat → Value → Value → Value → List (Addr × Obj) → Prop) (htup : ∀ i m news v, J i m news → vs[i]? = some v → ∃ T a b c, v = .ref T ∧ (T, ({ cls := .type "tuple", data := .seq #[a, b, c] } : Obj)) ∈ news ∧ W i a b c news)
    (turn : ∀ i a b c m₁ news₁ h₀' h tk I oI, i < vs.length → W i a b c news₁ → Ctx h₀' → J i m₁ news₁ → (∀ p ∈ news₁, p.1 ≠ I) → Fr h₀' env.locals h (fun q => if q = z then some c else if q = y then some b else if q = x then some a else m₁ q) → News h₀' env.locals h ((I, oI) :: news₁) →
      ∀ Qb : Flow → Shared → Prop, (∀ f h' tk' h₀' m₂ news₂, f = .next ∨ f = .cont → Ctx h₀' → Fr h₀' env.locals h' m₂ → News h₀' env.locals h' ((I, oI) :: news₂) → (∀ p ∈ news₂, p.1 ≠ I) → J (i + 1) m₂ news₂ → Qb f { s with heap := h', toks := tk' }) →
      wpAny (model prog w) A (execs body env) Qb (fun _ _ => False) { s with heap := h, toks := tk })
    (done : ∀ m₁ news₁ h₀' h tk, Ctx h₀' → J vs.length m₁ news₁ → Fr h₀' env.locals h m₁ → News h₀' env.locals h news₁ → Q .next { s with heap := h, toks := tk }) :
    LoopP prog w A env x y z body Q (.ref D) { s with heap := hs, toks := ks }
/-- where the loop stands between two turns -/
inductive AtP (s₁ : Shared) (L D I : Addr) (vs : List Value) (Ctx : Heap → Prop) (J : Nat → (Str → Option Value) → List (Addr × Obj) → Prop) : Nat → Shared → Prop
  | mk (h' : Heap) (tk i : Nat) (h₀' : Heap) (m' : Str → Option Value) (news' : List (Addr × Obj)) (oI : Obj) (hi : i ≤ vs.length) (hit : h'.IsListIter I D i) (C : Ctx h₀') (F : Fr h₀' L h' m') (N : News h₀' L h' ((I, oI) :: news')) (off : ∀ p ∈ news', p.1 ≠ I) (j : J i m' news') :
    AtP s₁ L D I vs Ctx J (vs.length + 1 - i) { s₁ with heap := h', toks := tk }
theorem For_P {Q : Flow → Shared → Prop} {x y z : Str} {px py pz tp pos : Pos} {kk : Nat} {iter : Expr} {body : List Stmt} (hx : env.kindOf x = some .local) (hy : env.kindOf y = some .local) (hz : env.kindOf z = some .local)
    (hp : (env.scope.kind == .class || (env.scope.kind == .module && env.locals != env.globals)) = false)
    (h : wpAny (model prog w) A (eval iter env) (LoopP prog w A env x y z body Q) E s)
    (hs : ∀ x, foldedSetIterable iter env x = pure x := by intro _; rfl) :
    wpAny (model prog w) A (exec (.For (.Tuple [.Name x px, .Name y py, .Name z pz] kk tp) iter body [] pos) env) Q E s := by
  refine wpAny_For (wpAny_mono h (fun xv s₁ h₁ => ?_) fun _ _ e => e) hs
  cases h₁ with
  | @mk s hs ks D vs n Ctx h₀ m news J hh C F N hD hJ Wt htup turn done =>
  have hls : hs.IsList D vs.toArray := PySem.IsL.isList (n := n) (N _ (hD _ _ _ hJ)).1
  have hne : D ≠ hs.objs.size := Nat.ne_of_lt (Heap.lt_size (N _ (hD _ _ _ hJ)).1)
  refine wpAny_pyIter_list hls ?_
  have W := Walks.list (prog := prog) (w := w) hh hs.objs.size D hne vs.toArray
  have hsz : vs.toArray.size = vs.length := by simp
  dsimp only
  generalize hI : hs.objs.size = I at W ⊢
  have hIn : h₀.get? I = none := by
    cases q : h₀.get? I with
    | none => rfl
    | some o => exact absurd (Heap.lt_size (F.keep _ _ q)) (by rw [hI]; exact Nat.lt_irrefl _)
  have hIL : I ≠ env.locals := fun q => absurd F.ns.lt (by rw [hI, q]; exact Nat.lt_irrefl _)
  refine codeAny_forLoop_any (R := fun r s' => match r with | .ok f => Q f s' | .error e => cameBackBy (model prog w) A env E e s')
    (AtP s env.locals D I vs Ctx J) ?_ (vs.length + 1)
    (AtP.mk (s₁ := s) (i := 0) (hs.push { cls := .type "list_iterator", data := .fields #[.ref D, .int 0 0] }) ks h₀ m news { cls := .type "list_iterator", data := .fields #[.ref D, .int 0 0] } (Nat.zero_le _) ⟨_, hI ▸ Heap.get?_push_size _ rfl, rfl, rfl⟩ C (F.push _) (fun p hp => ?_) (fun p hp q => absurd (Heap.lt_size (N p hp).1) (by rw [hI, q]; exact Nat.lt_irrefl _)) hJ)
  · intro k s' hk
    cases hk with
    | mk h' tk i h₀' m' news' oI hi hit C' F' N' off hJ' =>
    have hI' := (N' _ (.head _)).2
    have hls' : h'.IsList D vs.toArray := PySem.IsL.isList (n := n) (N' _ (.tail _ (hD _ _ _ hJ'))).1
    have next : ∀ h₁ : Heap, (∀ b o, b ∉ [I] → h'.get? b = some o → h₁.get? b = some o) → Fr h₀' env.locals h₁ m' ∧ News h₀' env.locals h₁ news' := fun h₁ hk₁ =>
      ⟨⟨F'.ns.at' fun o e => hk₁ _ o (by simpa using Ne.symm hIL) e, fun b o e => hk₁ b o (fun q => by rw [List.mem_singleton.mp q, hI'.2] at e; cases e) (F'.keep b o e), F'.above⟩,
        fun p hp => ⟨hk₁ _ _ (by simpa using off p hp) (N' p (.tail _ hp)).1, (N' p (.tail _ hp)).2⟩⟩
    by_cases hlt : i < vs.length
    · refine W.item i _ _ _ (by rw [hsz]; exact hlt) ⟨hit, hls'⟩ fun v h₁ tk₁ hP hst₁ hk₁ => ?_
      obtain ⟨F₁, N₁⟩ := next h₁ hk₁
      have hv : vs[i]? = some v := by simpa using hP
      obtain ⟨T, a, b, c, rfl, hT, hW⟩ := htup _ _ _ _ hJ' hv
      refine wpAny_letOwnedTupleGo_listiter hst₁.1 ?_
      refine assign_three hh ⟨_, (N₁ _ hT).1, rfl, _, rfl⟩ hx hy hz hp F₁.ns fun h₂ tk₂ hn₂ hk₂ => ?_
      have F₂ : Fr h₀' env.locals h₂ (fun q => if q = z then some c else if q = y then some b else if q = x then some a else m' q) := ⟨hn₂, fun d o e => hk₂ d o (fun q => by
        have := F₁.above
        exact absurd (Heap.lt_size e) (by rw [q]; exact Nat.not_lt.mpr this)) (F₁.keep d o e), F₁.above⟩
      have N₂ : News h₀' env.locals h₂ news' := fun p hp => ⟨hk₂ _ _ (N₁ p hp).2.1 (N₁ p hp).1, (N₁ p hp).2⟩
      obtain ⟨oI₂, heI, hcI, hdI⟩ : h₂.IsListIter I D (i + 1) := hst₁.1.at fun o e => hk₂ _ _ hIL e
      refine wpAny_mono (turn i a b c m' news' h₀' h₂ tk₂ I oI₂ hlt hW C' hJ' off F₂ (fun p hp => ?_) (fun f s₃ => ∃ j m₂, m₂ < vs.length + 1 - i ∧ (f = .next ∨ f = .cont) ∧ AtP s env.locals D I vs Ctx J m₂ s₃ ∧ j = i) ?_) (fun f s₃ h₃ => ?_) fun _ _ e => e.elim
      · rcases List.mem_cons.mp hp with rfl | hp
        · exact ⟨heI, hI'⟩
        · exact N₂ p hp
      · intro f h'' tk'' h₀'' m₂ news₂ hf C₂ F₃ N₃ off₃ j
        exact ⟨i, vs.length + 1 - (i + 1), by omega, hf, AtP.mk (s₁ := s) (i := i + 1) h'' tk'' h₀'' m₂ news₂ oI₂ hlt ⟨_, (N₃ _ (.head _)).1, hcI, hdI⟩ C₂ F₃ N₃ off₃ j, rfl⟩
      · obtain ⟨_, m₂, hlt2, hf, hat, _⟩ := h₃
        rcases hf with rfl | rfl <;> exact ⟨m₂, hlt2, hat⟩
    · have e : i = vs.length := by omega
      subst e
      refine W.done _ _ _ (by rw [hsz]; exact ⟨hit, hls'⟩) fun h₁ tk₁ hk₁ => wpAny_execs_nil ?_
      obtain ⟨F₁, N₁⟩ := next h₁ hk₁
      exact done m' news' h₀' h₁ tk₁ C' hJ' F₁ N₁
  · rcases List.mem_cons.mp hp with rfl | hp
    · exact ⟨hI ▸ Heap.get?_push_size _ rfl, hIL, hIn⟩
    · exact ⟨Heap.get?_push_of_some _ (N p hp).1, (N p hp).2⟩
end
end Mine
end

section
open PySem PySem.W PyProof.Rows
/-- between two texts: the walk forgets the lines of the text before, as a fresh process has none -/
theorem Mine.calm69 : ∀ (prog : Program) (w : World) (A : Around) (env : Env) (E : Value → Shared → Prop) (s : Shared) (Q : Flow → Shared → Prop), Q .next s → wpAny (model prog w) A (execs [] env) Q E s := by
  w_top off
  intro prog w A env E s Q h
  walk1
  exact h
end

section
open PySem PySem.W PyProof.Rows PySem.Calls PySem.SeqAt
set_option Elab.async false
set_option maxRecDepth 100000
set_option maxHeartbeats 1000000
namespace Mine
section
variable {m : Str → Option Value}
variable {prog : Program} {w : World} {A : Around} {E : Value → Shared → Prop} {s : Shared} {h₀ : Heap} {L D : Addr} {news : List (Addr × Obj)}
/-- the last item of a list -/
theorem item_last {value slice : PySem.Expr} {vs : List Value} {n : Nat} {t : Tok} {v : Value} {Q : Value → Shared → Prop} (N : News h₀ L s.heap news) (hm : (D, W.listOf vs.toArray n) ∈ news) (h0 : 0 < vs.length) (hv : vs[vs.length - 1]? = some v) (hz : vs.length < 1000) (h : Q v s)
    (hs : subscripted slice false (.ref D) (.int (-1) t) = operate [.ref D, .int (-1) t] (getItem (.ref D) (.int (-1) t)) := by with_unfolding_all rfl) (hg : ∀ r, letTemporaryGo value (.ref D) r = pure () := by intro _; with_unfolding_all rfl) :
    wpAny (model prog w) A (subscriptTail value slice (.ref D) (.int (-1) t)) Q E s := by
  have hl : s.heap.IsList D vs.toArray := PySem.IsL.isList (n := n) (N _ hm).1
  exact subscriptTail_builtin hl.typeIs slot_list_getitem.lookup (wpAny_getItem_list_neg hl (by decide) (by simp; omega) (by decide) (by
    rw [show ((-1 : Int) + vs.toArray.size).toNat = vs.length - 1 by simp; omega]
    simpa using hv) h) hs hg
end
end Mine
end

section
open PySem PySem.W PyProof.Rows
/-- between two texts: the walk forgets the lines of the text before, as a fresh process has none -/
theorem Mine.calm71 : ∀ (prog : Program) (w : World) (A : Around) (env : Env) (E : Value → Shared → Prop) (s : Shared) (Q : Flow → Shared → Prop), Q .next s → wpAny (model prog w) A (execs [] env) Q E s := by
  w_top off
  intro prog w A env E s Q h
  walk1
  exact h
end

section
open PySem PySem.W PyProof.Rows PySem.Calls
set_option Elab.async false
set_option maxRecDepth 100000
set_option maxHeartbeats 1000000
namespace Mine
/-- an exception goes on through a frame, of any function -/
theorem leave_onG {M : Model} {A : Around} {E : Value → Shared → Prop} {s' : Shared} {base g g₂ : Heap} {env : Env} {outer : List Env} {L e : Addr} {m : Str → Option Value} {Q : Unit → Shared → Prop} {news : List (Addr × Obj)} {cls : Value}
    (K : Below A base outer g) (F : Fr g L g₂ m) (R : RaisedSN base g₂ (env :: outer) e cls news s'.heap) (hsm : g₂.UpToSlots s'.heap) (hf : env.frame = some L)
    (hQ : ∀ h', RaisedSN base g outer e cls news h' → g.UpToSlots h' → Q () { s' with heap := h' }) :
    wpAny M (A.deeper env) (leaving env (.ref e)) Q E s' := by
  obtain ⟨B, a0, hB, hBG, hl, hfl⟩ := R
  exact wpAny_leaves_onW (Around.frames_deeper K.stack) hf hfl fun h' x1 x2 =>
    hQ h' ⟨B, a0, hB, fun b o q nm => hBG b o (F.keep b o q) (fun hm => by
      rcases frames_mem hf hm with z | z
      · rw [z, kts_self F] at q
        cases q
      · exact nm z), fun q hq => ⟨(hl q hq).1, kts_none F.keep (hl q hq).2.1, (hl q hq).2.2⟩, x1⟩ ((Heap.UpToSlots.of_keeps F.keep).trans (hsm.trans x2))
end Mine
end

section
open PySem PySem.W PyProof.Rows
/-- between two texts: the walk forgets the lines of the text before, as a fresh process has none -/
theorem Mine.calm73 : ∀ (prog : Program) (w : World) (A : Around) (env : Env) (E : Value → Shared → Prop) (s : Shared) (Q : Flow → Shared → Prop), Q .next s → wpAny (model prog w) A (execs [] env) Q E s := by
  w_top off
  intro prog w A env E s Q h
  walk1
  exact h
end

section
open PySem PySem.W PyProof.Rows PySem.Calls PySem.SeqAt
set_option Elab.async false
set_option maxRecDepth 100000
set_option maxHeartbeats 1000000
namespace Mine
open LCg
/-- the end of a turn of a comprehension over triples -/
inductive TripEnd (h₀ : Heap) (L : Addr) (m : Str → Option Value) (s : Shared) (I C D : Addr) (oI oC oD : Obj) (J : Value → List (Addr × Obj) → Prop) (y : Value) : Shared → Prop
  | mk (h : Heap) (tk : Nat) (nw : List (Addr × Obj)) (F : Fr h₀ L h m) (N : News h₀ L h ((I, oI) :: (C, oC) :: (D, oD) :: nw)) (off : ∀ q ∈ nw, q.1 ≠ I ∧ q.1 ≠ C ∧ q.1 ≠ D) (j : J y nw) : TripEnd h₀ L m s I C D oI oC oD J y { s with heap := h, toks := tk }
/-- where the comprehension's loop stands -/
inductive TripAt (h₀ : Heap) (L : Addr) (m : Str → Option Value) (s : Shared) (I l C D : Addr) (N : Nat) (J : Nat → List Value → List (Addr × Obj) → Prop) : Nat → Shared → Prop
  | mk (h : Heap) (tk i : Nat) (ys : List Value) (mC : Str → Option Value) (nw : List (Addr × Obj)) (hi : i ≤ N) (hy : ys.length = i) (hI : h.IsListIter I l i) (F : Fr h₀ L h m) (hC : h.Ns C mC) (n : News h₀ L h ((D, lst ys) :: nw)) (off : ∀ q ∈ nw, q.1 ≠ I ∧ q.1 ≠ C ∧ q.1 ≠ D) (j : J i ys nw) :
    TripAt h₀ L m s I l C D N J (N + 1 - i) { s with heap := h, toks := tk }
theorem trip_end1 {h₀ h' : Heap} {L I C D : Addr} {m : Str → Option Value} {s : Shared} {oI oC oD : Obj} {J : Value → List (Addr × Obj) → Prop} {y : Value} {tk : Nat} {p : Addr × Obj} {nw : List (Addr × Obj)}
    (F : Fr h₀ L h' m) (N : News h₀ L h' (p :: (I, oI) :: (C, oC) :: (D, oD) :: nw)) (off : ∀ q ∈ nw, q.1 ≠ I ∧ q.1 ≠ C ∧ q.1 ≠ D) (lt : @LT.lt Nat _ I p.1 ∧ @LT.lt Nat _ C p.1 ∧ @LT.lt Nat _ D p.1 ∧ AllLt p.1 nw) (j : J y (p :: nw)) :
    TripEnd h₀ L m s I C D oI oC oD J y { s with heap := h', toks := tk } := by
  refine .mk h' tk (p :: nw) F (fun q hq => N q ?_) (fun q hq => ?_) j
  · simp only [List.mem_cons] at hq ⊢
    rcases hq with h | h | h | h | h
    · exact .inr (.inl h)
    · exact .inr (.inr (.inl h))
    · exact .inr (.inr (.inr (.inl h)))
    · exact .inl h
    · exact .inr (.inr (.inr (.inr h)))
  · rcases List.mem_cons.mp hq with rfl | hq
    · exact ⟨Nat.ne_of_gt lt.1, Nat.ne_of_gt lt.2.1, Nat.ne_of_gt lt.2.2.1⟩
    · exact off q hq
section
variable {prog : Program} {w : World} {A : Around} {E : Value → Shared → Prop} {s : Shared} {h₀ : Heap} {L : Addr} {m : Str → Option Value} {env : Env}
theorem comp_three {elt iter : Expr} {a b c yn : Str} {pa pb pc tp py spos : Pos} {kk : Nat} {scope : Scope} {cl : List (Str × Addr)} {pos : Pos} {Q : Flow → Shared → Prop} {l : Addr} {vs : List Value} {n : Nat} {news : List (Addr × Obj)} (J : Nat → List Value → List (Addr × Obj) → Prop) (Wt : Nat → Value → Value → Value → List (Addr × Obj) → Prop)
    (hsw : swapsWith (.ListComp elt [⟨.Tuple [.Name a pa, .Name b pb, .Name c pc] kk tp, iter, [], 0⟩] scope pos) (some (.Name yn py)) spos.line env = pure true) (hL : env.locals = L) (hyn : env.kindOf yn = some .local) (hpn : (env.scope.kind == .class || (env.scope.kind == .module && env.locals != env.globals)) = false)
    (hh : A.handled = none) (hclos : closureFor scope env = pure cl) (hcell : ∀ y ∈ scope.names, y.2 ≠ .cell) (hkind : scope.kind = .function)
    (hnames : ∀ y ∈ scope.names, y.2 = .local → scope.names.lookup y.1 = some .local) (hxa : scope.names.lookup a = some .local) (hxb : scope.names.lookup b = some .local) (hxc : scope.names.lookup c = some .local) (hab : ¬ a = b) (hac : ¬ a = c) (hbc : ¬ b = c) (hz : vs.length ≤ sizeLine)
    (hit : wpAny (model prog w) A (eval iter env) (fun v s₁ => ∃ h1 tk1, v = .ref l ∧ s₁ = { s with heap := h1, toks := tk1 } ∧ Fr h₀ L h1 m ∧ News h₀ L h1 news) E s) (hl : ∀ i ys nw, J i ys nw → (l, W.listOf vs.toArray n) ∈ nw) (h0 : J 0 [] news)
    (htup : ∀ i ys nw v, J i ys nw → vs[i]? = some v → ∃ T x y z, v = .ref T ∧ (T, ({ cls := .type "tuple", data := .seq #[x, y, z] } : Obj)) ∈ nw ∧ Wt i x y z nw)
    (turn : ∀ i x y z ys nw I oI C oC D m₂ h tk (E' : Value → Shared → Prop), i < vs.length → Wt i x y z nw → J i ys nw → NsObj oC m₂ → m₂ a = some x → m₂ b = some y → m₂ c = some z → Fr h₀ L h m → News h₀ L h ((I, oI) :: (C, oC) :: (D, lst ys) :: nw) →
      (∀ q ∈ nw, q.1 ≠ I ∧ q.1 ≠ C ∧ q.1 ≠ D) → (I ≠ C ∧ I ≠ D ∧ C ≠ D) → wpAny (model prog w) A (eval elt (compEnvC scope cl C env)) (TripEnd h₀ L m s I C D oI oC (lst ys) (fun y nw' => J (i + 1) (ys ++ [y]) nw')) E' { s with heap := h, toks := tk })
    (done : ∀ ys nw D h tk, J vs.length ys nw → Fr h₀ L h (fun q => if q = yn then some (.ref D) else m q) → News h₀ L h ((D, lst ys) :: nw) → (∀ q ∈ nw, q.1 ≠ D) → Q .next { s with heap := h, toks := tk })
    (hs : ∀ x, foldedSetIterable iter env x = pure x := by intro _; rfl) :
    wpAny (model prog w) A (exec (.Assign [.Name yn py] (.ListComp elt [⟨.Tuple [.Name a pa, .Name b pb, .Name c pc] kk tp, iter, [], 0⟩] scope pos) spos) env) Q E s := by
  subst hL
  rw [exec_Assign_Name_used _ _ _ _ hsw]
  refine wpAny_bind (wpAny_standAt (wpAny_bind ?_))
  show wpAny _ A (do let _ ← comprehension (.ListComp elt [⟨.Tuple [.Name a pa, .Name b pb, .Name c pc] kk tp, iter, [], 0⟩] scope pos) scope env _ (newList []) false (eval iter env) (some (assign (.Name yn py) env))) _ _ s
  refine wpAny_bind (wpAny_mono (wpAny_comprehension_free (use := some (assign (.Name yn py) env)) (Q := fun _ s' => Q .next s') rfl hs hclos hkind hnames (wpAny_mono hit (fun xv s₁ h₁ => ?_) fun _ _ e => e)) (fun _ s' hq => wpAny_pure (wpAny_pure hq)) fun _ _ e => e)
  obtain ⟨g1, tk1, rfl, rfl, G1, N1⟩ := h₁
  have hls : g1.IsList l vs.toArray := PySem.IsL.isList (n := n) (N1 _ (hl _ _ _ h0)).1
  refine wpAny_pyIter_list hls ?_
  dsimp only
  generalize hIa : g1.objs.size = I
  generalize hH1 : g1.push { cls := .type "list_iterator", data := .fields #[.ref l, .int 0 0] } = h1
  have hz1 : h1.objs.size = I + 1 := by rw [← hH1, Heap.size_push, hIa]
  have hit1 : h1.IsListIter I l 0 := ⟨_, hH1 ▸ hIa ▸ Heap.get?_push_size _ rfl, rfl, rfl⟩
  have F1 : Fr h₀ env.locals h1 m := hH1 ▸ G1.push _
  have up1 : ∀ b o, g1.get? b = some o → h1.get? b = some o := fun b o q => hH1 ▸ Heap.get?_push_of_some _ q
  have ltN : ∀ q ∈ news, q.1 < I := fun q hq => hIa ▸ Heap.lt_size (N1 q hq).1
  refine wpAny_newObj_type (wpAny_newFunctionEnv hcell (by intro y hy; simp at hy) (fun h2 hC hsb => ?_) hkind)
  dsimp only at hC hsb ⊢
  generalize hH2 : h1.push { cls := .type "list", data := .seq ([] : List Value).toArray } = H2 at hC hsb ⊢
  have hz2 : H2.objs.size = h1.objs.size + 1 := by rw [← hH2, Heap.size_push]
  generalize hCa : H2.objs.size = Ca at *
  generalize hDa : h1.objs.size = Da at *
  have old : ∀ b o, h1.get? b = some o → h2.get? b = some o := fun b o q => by
    have hb : b < Da := hDa ▸ Heap.lt_size q
    exact hsb.extBut b o (Nat.ne_of_lt (hz2 ▸ Nat.lt_succ_of_lt hb)) (Heap.get?_push_of_some _ (hH2 ▸ Heap.get?_push_of_some _ q))
  have hD2 : h2.get? Da = some (lst []) := hsb.extBut _ _ (hz2 ▸ Nat.ne_of_lt (Nat.lt_succ_self _)) (Heap.get?_push_of_some _ (hH2 ▸ hDa ▸ Heap.get?_push_size _ rfl))
  have new : ∀ k, I ≤ k → h₀.get? k = none := fun k hk => by
    cases q : h₀.get? k with
    | none => rfl
    | some o => exact absurd (Heap.lt_size (G1.keep _ _ q)) (Nat.not_lt.mpr (hIa ▸ hk))
  have nI := new I (Nat.le_refl _)
  have nD := new Da (by rw [hz1]; exact Nat.le_succ _)
  have nC := new Ca (by rw [hz2, hz1]; exact Nat.le_trans (Nat.le_succ _) (Nat.le_succ _))
  have ltL : env.locals < I := hIa ▸ G1.ns.lt
  have iD : I < Da := by rw [hz1]; exact Nat.lt_succ_self _
  have dC : Da < Ca := by rw [hz2]; exact Nat.lt_succ_self _
  have eL : env.locals ≠ I ∧ env.locals ≠ Ca ∧ env.locals ≠ Da := ⟨Nat.ne_of_lt ltL, Nat.ne_of_lt (Nat.lt_trans ltL (Nat.lt_trans iD dC)), Nat.ne_of_lt (Nat.lt_trans ltL iD)⟩
  have e1 : I ≠ Ca := Nat.ne_of_lt (Nat.lt_trans iD dC)
  have e2 : I ≠ Da := Nat.ne_of_lt iD
  have e3 : Ca ≠ Da := Nat.ne_of_gt dC
  suffices loop : codeAny (model prog w) A (.compLoop (.ListComp elt [⟨.Tuple [.Name a pa, .Name b pb, .Name c pc] kk tp, iter, [], 0⟩] scope pos) 0 (.ref I) (.ref Da) (compEnvC scope cl Ca env)) (compPost (model prog w) A E (some (assign (.Name yn py) env)) (fun _ s' => Q .next s') (.ref Da) Ca)
      { s with heap := h2, toks := tk1 + ([] : List (Str × Value)).length } from codeAny_compStart_list loop (wpAny_pyIter_listiter (hit1.at fun o q => old _ o q) loop)
  refine kcp_loop (TripAt h₀ env.locals m s I l Ca Da vs.length J) ?_ (vs.length + 1) (TripAt.mk (i := 0) h2 _ [] _ news (Nat.zero_le _) rfl (hit1.at fun o q => old _ o q) (F1.keeps old) hC (fun q hq => ?_) (fun q hq => ?_) h0)
  · intro k s' hk
    cases hk with
    | mk h3 tk3 i ys mC nw hi hyl hI3 F3 C3 N3 off3 hJ =>
    have hls : h3.IsList l vs.toArray := PySem.IsL.isList (n := n) (N3 _ (.tail _ (hl _ _ _ hJ))).1
    by_cases hlt : i < vs.length
    · have hv : vs[i]? = some vs[i] := List.getElem?_eq_getElem hlt
      generalize vs[i] = v at hv
      obtain ⟨T, x, y, z, rfl, hT, hW⟩ := htup _ _ _ _ hJ hv
      refine wpAny_pyNext_list_item hI3 hls (x := .ref T) (by simpa using hv) fun h4 hI4 hs4 => ?_
      refine wpAny_letOwnedTupleGo_listiter hI4 ?_
      have hT3 := (N3 _ (.tail _ hT)).1
      have up4 : ∀ b o, b ≠ I → h3.get? b = some o → h4.get? b = some o := fun b o q1 q => hs4.extBut b o q1 q
      refine assign_three (env := compEnvC scope cl Ca env) hh ⟨_, up4 _ _ (off3 _ hT).1 hT3, rfl, _, rfl⟩ (lookup_relabel_local hxa) (lookup_relabel_local hxb) (lookup_relabel_local hxc) (by simp [compEnvC, relabel, hkind]) (C3.at' fun o q => up4 _ o (Ne.symm e1) q) fun h6 tk6 hn6 hs6 => ?_
      have up6 : ∀ b o, b ≠ I → b ≠ Ca → h3.get? b = some o → h6.get? b = some o := fun b o q1 q3 q => hs6 b o q3 (up4 b o q1 q)
      obtain ⟨oI, hi6, hoI⟩ : ∃ oI : Obj, h6.get? I = some oI ∧ ∀ h : Heap, h.get? I = some oI → h.IsListIter I l (i + 1) := by
        obtain ⟨oI, q1, q2, q3⟩ := hI4
        exact ⟨oI, hs6 I _ e1 q1, fun _ q => ⟨oI, q, q2, q3⟩⟩
      obtain ⟨oC, hc6, hoC⟩ := ns_obj hn6
      have F6 : Fr h₀ env.locals h6 m := ⟨F3.ns.at' fun o q => up6 _ o eL.1 eL.2.1 q, fun b o q => up6 b o (fun r => by rw [r, nI] at q; cases q) (fun r => by rw [r, nC] at q; cases q) (F3.keep b o q), F3.above⟩
      have N6 : News h₀ env.locals h6 ((I, oI) :: (Ca, oC) :: (Da, lst ys) :: nw) := fun q hq => by
        rcases List.mem_cons.mp hq with rfl | hq
        · exact ⟨hi6, Ne.symm eL.1, nI⟩
        rcases List.mem_cons.mp hq with rfl | hq
        · exact ⟨hc6, Ne.symm eL.2.1, nC⟩
        have z := N3 q hq
        have y : q.1 ≠ I ∧ q.1 ≠ Ca := by
          rcases List.mem_cons.mp hq with rfl | hq
          · exact ⟨Ne.symm e2, Ne.symm e3⟩
          · exact ⟨(off3 q hq).1, (off3 q hq).2.1⟩
        exact ⟨up6 _ _ y.1 y.2 z.1, z.2⟩
      refine wpAny_mono (turn i x y z ys nw I oI Ca oC Da _ h6 tk6 _ hlt hW hJ hoC ?_ ?_ ?_ F6 N6 off3 ⟨e1, e2, e3⟩) (fun y s5 h5 => ?_) fun _ _ e => e
      · simp [hab, hac]
      · simp [hbc]
      · simp
      cases h5 with
      | mk h7 tk7 nw7 F7 N7 off7 hJ7 =>
      have zD := (N7 _ (.tail _ (.tail _ (.head _)))).1
      refine append_at (hsz := by show ys.toArray.size ≤ sizeLine; rw [List.size_toArray, hyl]; omega) zD fun h8 hs8 hD8 => ?_
      refine ⟨vs.length + 1 - (i + 1), by omega, TripAt.mk (i := i + 1) h8 tk7 (ys ++ [y]) _ nw7 hlt (by rw [List.length_append, List.length_singleton, hyl]) (hoI h8 (hs8.extBut _ _ e2 (N7 _ (.head _)).1)) (F7.change hs8 (Ne.symm eL.2.2) nD) ((hoC.ns (N7 _ (.tail _ (.head _))).1).sameBut hs8 e3) (fun q hq => ?_) off7 hJ7⟩
      rcases List.mem_cons.mp hq with rfl | hq
      · exact ⟨hD8.trans (congrArg some (lst_snoc ys y)), Ne.symm eL.2.2, nD⟩
      · have z := N7 q (.tail _ (.tail _ (.tail _ hq)))
        exact ⟨hs8.extBut _ _ (off7 q hq).2.2 z.1, z.2⟩
    · have hin : i = vs.length := by omega
      subst hin
      refine wpAny_pyNext_list_end hh hI3 hls (by simp) fun h4 k4 => ?_
      have F4 : Fr h₀ env.locals h4 m := ⟨F3.ns.at' fun o q => k4 _ o eL.1 q, fun b o q => k4 b o (fun r => by rw [r, nI] at q; cases q) (F3.keep b o q), F3.above⟩
      have N4 : News h₀ env.locals h4 ((Da, lst ys) :: nw) := fun q hq => by
        have z := N3 q hq
        refine ⟨k4 _ _ ?_ z.1, z.2⟩
        rcases List.mem_cons.mp hq with rfl | hq
        · exact Ne.symm e2
        · exact (off3 q hq).1
      show wpAny _ A (assign (.Name yn py) env (.ref Da)) _ _ _
      refine wpAny_assign_Name (wpAny_storeName_local hyn F4.ns (fun h5 hn5 hs5 => ?_) hpn)
      have F5 := F4.set hn5 hs5
      have N5 := N4.set hs5
      refine ⟨mC, (C3.at' fun o q => k4 _ o (Ne.symm e1) q).sameBut hs5 (Ne.symm eL.2.1), fun h6 hs6 => ?_⟩
      refine done ys nw Da h6 _ hJ (F5.change hs6 (Ne.symm eL.2.1) nC) (fun q hq => ?_) fun q hq => (off3 q hq).2.2
      have z := N5 q hq
      refine ⟨hs6.extBut _ _ ?_ z.1, z.2⟩
      rcases List.mem_cons.mp hq with rfl | hq
      · exact Ne.symm e3
      · exact (off3 q hq).2.1
  · rcases List.mem_cons.mp hq with rfl | hq
    · exact ⟨hD2, Ne.symm eL.2.2, nD⟩
    · exact ⟨old _ _ (up1 _ _ (N1 q hq).1), (N1 q hq).2⟩
  · have hq' := ltN q hq
    exact ⟨Nat.ne_of_lt hq', Nat.ne_of_lt (Nat.lt_trans hq' (Nat.lt_trans iD dC)), Nat.ne_of_lt (Nat.lt_trans hq' iD)⟩
end
end Mine
end

section
open PySem PySem.W PyProof.Rows
/-- between two texts: the walk forgets the lines of the text before, as a fresh process has none -/
theorem Mine.calm75 : ∀ (prog : Program) (w : World) (A : Around) (env : Env) (E : Value → Shared → Prop) (s : Shared) (Q : Flow → Shared → Prop), Q .next s → wpAny (model prog w) A (execs [] env) Q E s := by
  w_top off
  intro prog w A env E s Q h
  walk1
  exact h
end

section
open PySem PySem.W PyProof.Rows PySem.Calls
set_option Elab.async false
set_option maxRecDepth 100000
set_option maxHeartbeats 1000000
namespace Mine
section
variable {prog : Program} {w : World} {A₀ A : Around} {s : Shared} {base h₀ g₀ : Heap} {outer : List Env} {L : Addr} {m : Str → Option Value} {env : Env} {news : List (Addr × Obj)} {K : Frag} {p : Program} {loose : List Str} {mean : ExcName → Option Value} {mg mb : Str → Option Value}
  {R : Result → Shared → Prop} {name qual : Str} {params : Arguments} {body : List Stmt} {scope : Scope} {dV kV doc pm cdv ct oc : Value} {an od : Option Addr} {osl : Array (Option Value)} {f : Addr} {args : Args} {binds : List (Str × Value)}
/-- code_turn over calm stacks -/
theorem codeS_turn (B : Below A₀ base outer h₀) (F : Fr h₀ L s.heap m) (X₀ : K.In h₀) (N : News h₀ L s.heap news) (T : Top p loose mean mg mb h₀) (XB : K.In base) (TB : Top p loose mean mg mb base) (D : KtsDicts (outer.filterMap (·.frame)) h₀)
    (T0 : KtsTurn (outer.filterMap (·.frame)) g₀ h₀) (hA : A.frames = some (env :: outer)) (hf : env.frame = some L) (hke : env.scope.kind = .function)
    (ho : K.lookup f = some ⟨oc, od, .func (fnOf name qual params body scope dV kV doc pm an cdv ct), osl⟩) (hcd : codeIn K cdv qual = true) (hroom : A.depth < recursionLimit)
    (hbind : BindsTo s (fnOf name qual params body scope dV kV doc pm an cdv ct) args binds) (hloc : ∀ y ∈ binds, scope.names.lookup y.1 = some .local)
    (h : ∀ g L' h₁, Fr h₀ L g m → Fr g L' h₁ (fun y => binds.reverse.lookup y) → News g L' h₁ news → Below A base (env :: outer) g → K.In g → Top p loose mean mg mb g → KtsDicts ((env :: outer).filterMap (·.frame)) g →
      ∀ Qb : Flow → Shared → Prop, (∀ fl s', LeaveS ((env :: outer).filterMap (·.frame)) A₀ base outer K p loose mean mg mb g₀ h₀ L m g R (match fl with | .ret v => v | _ => .none) s' → Qb fl s') →
      wpS (model prog w) (A.deeper (envOf qual scope L' f cdv)) (execs body (envOf qual scope L' f cdv)) Qb (fun _ _ => False) { s with heap := h₁, toks := s.toks + binds.length })
    (hcell : ∀ x ∈ scope.names, x.2 ≠ .cell) (hco : scope.isCoroutine = false) (hgen : scope.isGenerator = false) (hk : scope.kind = .function) : codeS (model prog w) A (.call (.ref f) args) R s := by
  obtain ⟨FG, BG, st, DG, lv⟩ := groundT (R := R) B F X₀ N T XB TB D T0 hA hf hke
  have X := X₀.keeps F.keep
  have hlim := T.nolimit.keeps F.keep
  refine codeS_call_function (fd := fnOf name qual params body scope dV kV doc pm an cdv ct) (body := body) hroom (X _ _ ho) rfl hco hgen rfl (codeRec_of X hcd) (hbind _ _ _ _ ?_)
  refine wpAny_newFunctionEnv hcell hloc (fun h₁ hns hsb => ⟨hlim.fresh _ hsb, codeS_func ?_⟩) hk
  have hk₁ : ∀ b o, s.heap.get? b = some o → h₁.get? b = some o := fun b o e => hsb.extBut b o (Nat.ne_of_lt (Heap.lt_size e)) (Heap.get?_push_of_some _ e)
  exact wpS_mono (h _ s.heap.objs.size h₁ FG ⟨hns, fun b o e => hk₁ b o (of_hideAll _ e), Nat.le_of_eq (hideAll_size _ _)⟩
    (fun p hp => ⟨hk₁ _ _ (N p hp).1, Nat.ne_of_lt (Heap.lt_size (N p hp).1), hideAll_none _ (List.mem_map_of_mem hp)⟩) BG (X₀.keeps st) (T.keeps st) DG _ fun _ _ hl => hl) (fun fl s' hl => lv _ _ hl) fun _ _ y => y.elim
end
section
variable {M : Model} {A : Around} {E : Value → Shared → Prop} {s : Shared} {env : Env}
/-- a try whose body these walk -/
theorem wpS_Try_except {body orelse : List Stmt} {h₀ : ExceptHandler} {hs : List ExceptHandler} {pos : Pos} {Q : Flow → Shared → Prop}
    (h : wpS M A (execs body env) (fun f s₁ => match f with | .next => wpAny M A (execs orelse env) Q E s₁ | f => Q f s₁)
      (fun e s₁ => wpAny M A (noteFrame e env) (fun _ s₂ => wpAny M A (setFlight e none) (fun _ s₃ => wpAny M A (handleBy e env (h₀ :: hs)) Q E s₃) E s₂) E s₁) s) :
    wpS M A (exec (.Try body (h₀ :: hs) orelse [] pos) env) Q E s := by
  rw [arm_exec_Try]
  refine wpS_step (wpAny_standAt ?_)
  unfold tryStmt
  simp only [List.isEmpty_nil, if_true, List.isEmpty_cons, Bool.false_and, Bool.false_eq_true, if_false]
  refine wpS_bind (wpS_attempt (wpS_mono h (fun f s₁ h₁ => ?_) fun e s₁ h₁ => ?_))
  · cases f <;> first | exact wpS_of h₁ | exact wpS_pure h₁
  · exact wpS_of (wpAny_bind (wpAny_mono h₁ (fun _ _ h₂ => wpAny_bind h₂) fun _ _ x => x))
end
section
variable {M : Model} {A : Around} {E : Value → Shared → Prop} {s : Shared} {env : Env} {Q : Value → Shared → Prop}
theorem wpS_keep {α : Type} {vs : List Value} {m : Sem α} {Q : α → Shared → Prop} (h : wpS M A m Q E s) : wpS M A (m.keep vs) Q E s := fun Γ p a b c => by
  rw [Sem.wp_keep]
  exact h Γ p a b c
/-- a method of the text's own without arguments -/
theorem callWithS_K0 {K : Frag} {pos : Pos} {f : Value} {first : List Value} (X : K.In s.heap) (hk : keepIn K f = true) (h : wpS M A (call f (first ++ [])) Q E s) : wpS M A (callWith pos f first (backTo pos (starEach [] env)) []) Q E s := by
  have hplain : ((backTo pos (starEach [] env)).any (·.1) || ([] : List (Option Str × Sem Value)).any (·.1.isNone)) = false := rfl
  unfold callWith
  refine wpS_step (wpAny_holding (evalArgs_nil3 (wpS_step (wpAny_standAt ?_))))
  simp only [hplain]
  obtain ⟨k, hk', L⟩ := keeps_K (M := M) hk _ X
  refine wpS_step (L.here ?_)
  have tail : ∀ {t : Sem Value}, wpS M A t Q E s → wpS M A (t >>= fun r => holding [r] point >>= fun _ => pure r) Q E s :=
    fun ht => wpS_bind (wpS_mono ht (fun r s₂ hr => wpS_step (wpAny_holding (wpAny_point (wpS_pure hr)))) fun _ _ x => x)
  have marked (mk : Value) : wpS M A (callMarked mk f (first ++ []) []) Q E s := by unfold callMarked; exact wpS_keep h
  rcases hk' with rfl | rfl | rfl <;> dsimp only <;> first | exact tail h | (split <;> first | exact tail h | exact tail (marked _))
end
section
variable {prog : Program} {w : World} {A : Around} {E : Value → Shared → Prop} {s : Shared} {env : Env} {Q : Value → Shared → Prop}
/-- a call of a method, whatever it is -/
theorem wpS_Call_attr {o : Expr} {name : Str} {apos pos : Pos} {args : List Expr}
    (hbase : attributeBase o name env (eval o env) = eval o env)
    (hfew : methodCallForm (args.length + ([] : List Keyword).length) (backTo pos (starEach args env)) (backToKw pos (keywordEach [] env)) = true)
    (hline : (apos.endLine == pos.line) = true)
    (h : wpAny (model prog w) A (eval o env) (fun ov s₁ => wpAny (model prog w) A (getMethod ov name (do return (← importBound o env).getD true)) (fun g s₂ => wpS (model prog w) A (callWith pos g.1 g.2 (backTo pos (starEach args env)) []) Q E s₂) E s₁) E s) :
    wpS (model prog w) A (eval (.Call (.Attribute o name apos) args [] pos) env) Q E s := by
  rw [arm_eval_Call, hbase]
  refine wpS_step (wpAny_mono h (fun ov s₁ h₁ => ?_) fun _ _ e => e)
  refine wpS_step (wpAny_standAt ?_)
  have hpos : methodCallPos true o env apos pos = pure pos := by unfold methodCallPos; simp [hline]
  unfold methodCall
  rw [hfew]
  refine wpS_step (wpAny_holding (wpAny_mono h₁ (fun g s₂ h₂ => ?_) fun _ _ e => e))
  exact wpS_step (wpAny_of_eq hpos h₂)
end
end Mine
end

section
open PySem PySem.W PyProof.Rows
/-- between two texts: the walk forgets the lines of the text before, as a fresh process has none -/
theorem Mine.calm77 : ∀ (prog : Program) (w : World) (A : Around) (env : Env) (E : Value → Shared → Prop) (s : Shared) (Q : Flow → Shared → Prop), Q .next s → wpAny (model prog w) A (execs [] env) Q E s := by
  w_top off
  intro prog w A env E s Q h
  walk1
  exact h
end

section
open PySem PySem.W PyProof.Rows PySem.Calls
set_option Elab.async false
set_option maxRecDepth 100000
set_option maxHeartbeats 1000000
namespace Mine
section
variable {M : Model} {A : Around} {E : Value → Shared → Prop} {s : Shared} {env : Env}
theorem wpS_If {test : Expr} {body orelse : List Stmt} {pos : Pos} {Q : Flow → Shared → Prop}
    (h : wpS M A (isTrue test env (eval test env)) (fun b s₂ => if b then wpS M A (execs body env) Q E s₂ else wpS M A (execs orelse env) Q E s₂) E s) : wpS M A (exec (.If test body orelse pos) env) Q E s := by
  rw [exec_If]
  refine wpS_step (wpAny_standAt (wpS_bind (wpS_mono h (fun b s₂ h₂ => ?_) fun _ _ e => e)))
  cases b <;> exact h₂
theorem wpS_isTrue_Not {x : Expr} {pos : Pos} {whole : Sem Value} {Q : Bool → Shared → Prop} (h : wpS M A (isTrue x env (eval x env)) (fun b s₁ => Q (!b) s₁) E s) : wpS M A (isTrue (.UnaryOp .Not x pos) env whole) Q E s := by
  rw [arm_isTrue_UnaryOp]
  exact wpS_bind (wpS_mono h (fun b s₁ h₁ => wpS_pure h₁) fun _ _ e => e)
theorem wpS_isTrue_Call {f : Expr} {args : List Expr} {kws : List Keyword} {pos : Pos} {whole : Sem Value} {Q : Bool → Shared → Prop} (h : wpS M A whole (fun v s₁ => wpAny M A (truthy v) Q E s₁) E s) : wpS M A (isTrue (.Call f args kws pos) env whole) Q E s := by
  show wpS M A (do let v ← whole; standAt pos; holding [v] (truthy v)) Q E s
  exact wpS_bind (wpS_mono h (fun v s₁ h₁ => wpS_step (wpAny_standAt (wpS_of (wpAny_holding h₁)))) fun _ _ e => e)
/-- a call of a def of the text's own with arguments -/
theorem callWithS_K {K : Frag} {pos : Pos} {f : Value} {first : List Value} {e : Expr} {rest : List Expr} {Q : Value → Shared → Prop} (hk : keepIn K f = true)
    (h : wpAny M A (spliced (backTo pos (starEach (e :: rest) env))) (fun vs s₁ => K.In s₁.heap ∧ wpS M A (call f (first ++ vs)) Q E s₁) E s)
    (he : starEach (e :: rest) env = (false, eval e env) :: starEach rest env := by rfl) (hp : ((backTo pos (starEach (e :: rest) env)).any (·.1) || ([] : List (Option Str × Sem Value)).any (·.1.isNone)) = false := by rfl) :
    wpS M A (callWith pos f first (backTo pos (starEach (e :: rest) env)) []) Q E s := by
  unfold callWith
  rw [hp]
  rw [he] at h ⊢
  refine wpS_step (wpAny_holding (evalArgs_plain (wpAny_mono h (fun vs s₁ h₁ => wpS_step (wpAny_standAt ?_)) fun _ _ x => x)))
  obtain ⟨k, hk', L⟩ := keeps_K (M := M) hk _ h₁.1
  refine wpS_step (L.here ?_)
  have tail : ∀ {t : Sem Value}, wpS M A t Q E s₁ → wpS M A (t >>= fun r => holding [r] point >>= fun _ => pure r) Q E s₁ :=
    fun ht => wpS_bind (wpS_mono ht (fun r s₂ hr => wpS_step (wpAny_holding (wpAny_point (wpS_pure hr)))) fun _ _ x => x)
  have marked (mk : Value) : wpS M A (callMarked mk f (first ++ vs) []) Q E s₁ := by unfold callMarked; exact wpS_keep h₁.2
  rcases hk' with rfl | rfl | rfl <;> dsimp only <;> first | exact tail h₁.2 | (split <;> first | exact tail h₁.2 | exact tail (marked _))
end
section
variable {prog : Program} {w : World} {A : Around} {R : Result → Shared → Prop} {s : Shared} {name : Str} {params : Arguments} {body : List Stmt} {scope : Scope} {dV kV pm cd doc : Value} {a : Addr} {o : Obj} {args : Args} {binds : List (Str × Value)}
/-- the law itself is called -/
theorem call_topS (hroom : A.depth < recursionLimit) (ho : s.heap.get? a = some o) (hdata : o.data = .func { docDef name params body scope pm cd doc with defaults := dV, kwdefaults := kV }) (hlim : s.heap.NoLimit) (hcd : s.heap.CodeRec cd name)
    (hbind : BindsTo s { docDef name params body scope pm cd doc with defaults := dV, kwdefaults := kV } args binds) (hloc : ∀ x ∈ binds, scope.names.lookup x.1 = some .local)
    (h : ∀ h₁, Fr s.heap s.heap.objs.size h₁ (fun x => binds.reverse.lookup x) →
      wpS (model prog w) (A.deeper (envOf name scope s.heap.objs.size a cd)) (execs body (envOf name scope s.heap.objs.size a cd)) (fun f s' => R (.ok (.ret (match f with | .ret v => v | _ => .none))) s') (fun _ _ => False) { s with heap := h₁, toks := s.toks + binds.length })
    (hcell : ∀ x ∈ scope.names, x.2 ≠ .cell) (hco : scope.isCoroutine = false := by rfl) (hgen : scope.isGenerator = false := by rfl) (hk : scope.kind = .function := by rfl) : codeS (model prog w) A (.call (.ref a) args) R s := by
  refine codeS_call_function hroom ho hdata hco hgen rfl hcd (hbind _ _ _ _ ?_)
  refine wpAny_newFunctionEnv hcell hloc (fun h₁ hns hsb => ⟨hlim.fresh _ hsb, codeS_func ?_⟩) hk
  exact wpS_mono (h h₁ ⟨hns, fun b o e => hsb.extBut b o (Nat.ne_of_lt (Heap.lt_size e)) (Heap.get?_push_of_some _ e), Nat.le_refl _⟩) (fun _ _ x => x) fun _ _ y => y.elim
end
theorem enter_callS {M : Model} {A : Around} {s : Shared} {f : Value} {pos : List Value} {kw : List (Str × Value)} {c : ClaimW} {cl : Str → Option Addr} {mean : ExcName → Option Value} {args : List WData} {s₁ : Shared}
    (h : codeS M A (.call f ⟨pos, kw⟩) (GoodWG c cl mean args s₁) s) : wpS M A (PySem.call f pos kw) (fun v s' => GoodWG c cl mean args s₁ (.ok (.ret v)) s') (fun e s' => GoodWG c cl mean args s₁ (.error e) s') s :=
  wpS_call (codeS_mono h fun res s' g => by rcases g.1 with ⟨v, _, _, rfl, _⟩ | ⟨e, _, _, rfl, _⟩ <;> exact g)
end Mine
end

section
open PySem PySem.W PyProof.Rows
/-- between two texts: the walk forgets the lines of the text before, as a fresh process has none -/
theorem Mine.calm79 : ∀ (prog : Program) (w : World) (A : Around) (env : Env) (E : Value → Shared → Prop) (s : Shared) (Q : Flow → Shared → Prop), Q .next s → wpAny (model prog w) A (execs [] env) Q E s := by
  w_top off
  intro prog w A env E s Q h
  walk1
  exact h
end

section
open PySem PySem.W PyProof.Rows
set_option Elab.async false
set_option maxRecDepth 100000
set_option maxHeartbeats 0
namespace Mine
def vw : Program := view PySem.Challenge.pw_ke0002_01 [0, 1, 3, 4, 5, 6, 7, 8, 9, 10, 12, 13, 14, 16, 17, 18, 19, 20, 21, 22, 24, 25, 27, 28, 29, 30, 31, 32, 33, 34, 35, 36, 37, 38]
def loose : List Str := ["_tuplegetter", "TreeConf", "Record", "Reference", "Node", "RecordNode", "LonelyRootNode", "LeafNode", "ReferenceNode", "RootNode", "InternalNode"]
theorem left_seen (w : World) : ((fencedOpening treeTable PySem.Challenge.pw_ke0002_01 w 14300).bind (topFromT treeTable PySem.Challenge.pw_ke0002_01 w 14300)).map (fun s => openSeen vw loose (importedModules PySem.Challenge.pw_ke0002_01.main.body) (fun s => xlAt vw [] s && recOk [] s) true s) = some (openGood vw loose) := by
  unfold fencedOpening topFromT
  rw [PySem.W.Fast.te10110043849684766642, PySem.W.Fast.te10274390034422433532, PySem.W.Fast.te1435165496053646825, PySem.W.Fast.te14289696077712309145, PySem.W.Fast.te4187177175401517315, PySem.W.Fast.te14364793385576792824]
  kernel_rfl
local macro_rules | `(tactic| o_head $H:term) => `(tactic| (
  refine holds_openS (q := vw) (loose := loose) (Xt := fun s => xlAt vw [] s && recOk [] s) (XP := XL vw []) (Yf := Hook.obs $H) (Ya := Hook.val $H) (YP := Hook.says $H) (N := 14300) ?hl (Hook.of $H) (Hook.keeps $H)
    (fun s e => xl_of s (Bool.and_eq_true_iff.mp e).1) XL.keeps (by rfl) (by rfl) (by rfl) (fun s e => recFacts_of (Bool.and_eq_true_iff.mp e).2) (by rfl) (by assumption) (by decide +kernel) ⟨rfl, rfl, rfl, rfl, rfl, by decide +kernel⟩ ?hw ?hc
  case hl =>
    refine left_of2 left_seen ?_
    intro w
    unfold fencedOpening topFromT
    rw [PySem.W.Fast.te10110043849684766642, PySem.W.Fast.te10274390034422433532, PySem.W.Fast.te1435165496053646825, PySem.W.Fast.te14289696077712309145, PySem.W.Fast.te14364793385576792824]
    kernel_rfl))
theorem said : OpenLaw.wellSaid PySem.Challenge.rw_ke0002_01 = true := by
  unfold OpenLaw.wellSaid OpenRow.wellSaid OpenRow.partSaid looksOpen
  repeat' (with_reducible refine look_both ?_ ?_)
  all_goals ((try rw [PySem.W.Fast.te11788848310118352699]); (try rw [PySem.W.Fast.te9807087744658564304]); (try rw [PySem.W.Fast.te12862048085361865435]); (try rw [PySem.W.Fast.te8377067652309620493]); (try rw [PySem.W.Fast.te18344453789297297638]); (try rw [PySem.W.Fast.te14412699480532031325]); (try rw [PySem.W.Fast.te8326940854005059898]); (try rw [PySem.W.Fast.te17691160309236699985]); (try rw [PySem.W.Fast.te17119622794617984870]); (try rw [PySem.W.Fast.sDec_eq]); (try rw [PySem.W.Fast.te3471404346716756564]); (try rw [PySem.W.Fast.named_eq]); (try rw [PySem.W.Fast.te8179353310426384613]); (try rw [PySem.W.Fast.te10501279942588096481]); (try rw [PySem.W.Fast.te9558739934217749035]); (try rw [PySem.W.Fast.te16286561074155671207]); (try rw [PySem.W.Fast.te6984425678791042302]); (try rw [PySem.W.Fast.te797321630700447069]); (try rw [PySem.W.Fast.te9572597257264208301]); (try rw [PySem.W.Fast.te482687673346738481]); (try rw [PySem.W.Fast.te10792542408131684335]); kernel_rfl)
local macro_rules | `(tactic| o_law) => `(tactic| refine holds_law said fun _ => ?_)
open_top hd for PySem.Challenge.rw_ke0002_01
end Mine
end

section
open PySem PySem.W PyProof.Rows
/-- between two texts: the walk forgets the lines of the text before, as a fresh process has none -/
theorem Mine.calm81 : ∀ (prog : Program) (w : World) (A : Around) (env : Env) (E : Value → Shared → Prop) (s : Shared) (Q : Flow → Shared → Prop), Q .next s → wpAny (model prog w) A (execs [] env) Q E s := by
  w_top off
  intro prog w A env E s Q h
  walk1
  exact h
end

section
open PySem PySem.W PyProof.Rows
set_option Elab.async false
set_option maxRecDepth 100000
set_option maxHeartbeats 4000000
namespace Mine
/-- the names that the top may bind otherwise -/
def lsw : List Str := ["_tuplegetter", "TreeConf", "Record", "Reference", "Node", "RecordNode", "LonelyRootNode", "LeafNode", "ReferenceNode", "RootNode", "InternalNode", "insort_right"]
theorem lsw_eq : looseW vw loose = lsw := by kernel_rfl
abbrev Led := List (Addr × Obj)
def Apart (tl news : Led) : Prop := ∀ q ∈ news, ∀ p ∈ tl, q.1 ≠ p.1
/-- the tree t, at any frame of the text's own, from a ledger of which Pre holds: ends with r and a ledger with tl more, of which Post holds; it never raises -/
def TreeSpec (w : World) (t : Sem Value) (cost : Nat) (Pre : Led → Prop) (Post : Value → Led → Led → Prop) : Prop :=
  ∀ (mean : ExcName → Option Value) (mg mb : Str → Option Value) (dp un : Nat) (gd : Option (List Code)) (cn : Str) (nms : List (Str × NameKind)) (ig ic : Bool) (mo : List (Str × Const)) (a : Addr) (ccd : Value) (cl : List (Str × Addr)) (outer : List Env) (A₀ : Around) (base h₀ : Heap) (L : Addr)
    (m : Str → Option Value) (news : Led) (s : Shared) (Q E : Value → Shared → Prop),
    Below A₀ base outer h₀ → Fr h₀ L s.heap m → (hd.heap_1 w.params).In h₀ → News h₀ L s.heap news → Top vw lsw mean mg mb h₀ → dp + cost < 400 → un + 8 * cost < 5000 → Pre news →
    (∀ r tl h' tk', Fr h₀ L h' m → News h₀ L h' (tl ++ news) → Apart tl news → Post r news tl → Q r { s with heap := h', toks := tk' }) →
    wpAny (model PySem.Challenge.rw_ke0002_01.row.prog w) (ktrTop dp un gd cn ⟨.function, nms, ig, ic, mo⟩ L a ccd cl outer) t Q E s
theorem Apart.nil {news : Led} : Apart [] news := fun _ _ _ h => nomatch h
theorem Apart.cons {p : Addr × Obj} {tl news : Led} (h : ∀ q ∈ news, q.1 ≠ p.1) (t : Apart tl news) : Apart (p :: tl) news := fun q hq p' hp => by
  rcases List.mem_cons.mp hp with rfl | hp
  · exact h q hq
  · exact t q hq p' hp
section
variable (A : Around) (env : Env) (C : Addr) (vals : List Value) (kw : List (Str × Value)) (hv : Option Value) (dp un : Nat) (gd : Option (List Code)) (cn : Str) (cs : Scope) (L a : Addr) (ccd : Value) (cl : List (Str × Addr)) (outer : List Env)
end
theorem sub_nil0 {a : Led} : ∀ q ∈ a, q ∈ [] ++ a := fun _ h => h
theorem sub_nil {a b : Led} (h : ∀ q ∈ a, q ∈ b) : ∀ q ∈ [] ++ a, q ∈ b := h
theorem sub_cons {p : Addr × Obj} {l a b : Led} (hp : p ∈ b) (h : ∀ q ∈ l ++ a, q ∈ b) : ∀ q ∈ (p :: l) ++ a, q ∈ b := fun q hq => by
  rcases List.mem_cons.mp hq with rfl | hq
  · exact hp
  · exact h q hq
theorem news_sub {h₀ h : Heap} {L : Addr} {a b : Led} (N : News h₀ L h b) (k : ∀ q ∈ a, q ∈ b) : News h₀ L h a := fun p hp => N p (k p hp)
theorem TreeSpec.use {w : World} {t : Sem Value} {cost : Nat} {Pre : Led → Prop} {Post : Value → Led → Led → Prop} (S : TreeSpec w t cost Pre Post)
    {mean : ExcName → Option Value} {mg mb : Str → Option Value} {dp un : Nat} {gd : Option (List Code)} {cn : Str} {nms : List (Str × NameKind)} {ig ic : Bool} {mo : List (Str × Const)} {a : Addr} {ccd : Value} {cl : List (Str × Addr)} {outer : List Env} {A₀ : Around} {base h₀ : Heap} {L : Addr}
    {m : Str → Option Value} {news : Led} {s : Shared} {hs : Heap} {ks : Nat} {Q E : Value → Shared → Prop}
    (B : Below A₀ base outer h₀) (F : Fr h₀ L hs m) (X : (hd.heap_1 w.params).In h₀) (N : News h₀ L hs news) (T : Top vw lsw mean mg mb h₀) (hd : dp + cost < 400) (hu : un + 8 * cost < 5000) (pre : Pre news)
    (k : ∀ r tl h' tk', Fr h₀ L h' m → News h₀ L h' (tl ++ news) → Apart tl news → Post r news tl → Q r { s with heap := h', toks := tk' }) :
    wpAny (model PySem.Challenge.rw_ke0002_01.row.prog w) (ktrTop dp un gd cn ⟨.function, nms, ig, ic, mo⟩ L a ccd cl outer) t Q E { s with heap := hs, toks := ks } :=
  S mean mg mb dp un gd cn nms ig ic mo a ccd cl outer A₀ base h₀ L m news { s with heap := hs, toks := ks } Q E B F X N T hd hu pre k
/-- a tree that gives v and makes nothing -/
theorem TreeSpec.use0 {w : World} {t : Sem Value} {cost : Nat} {Pre : Led → Prop} {v : Value} (S : TreeSpec w t cost Pre (fun r _ tl => r = v ∧ tl = []))
    {mean : ExcName → Option Value} {mg mb : Str → Option Value} {dp un : Nat} {gd : Option (List Code)} {cn : Str} {nms : List (Str × NameKind)} {ig ic : Bool} {mo : List (Str × Const)} {a : Addr} {ccd : Value} {cl : List (Str × Addr)} {outer : List Env} {A₀ : Around} {base h₀ : Heap} {L : Addr}
    {m : Str → Option Value} {news : Led} {s : Shared} {hs : Heap} {ks : Nat} {Q E : Value → Shared → Prop}
    (B : Below A₀ base outer h₀) (F : Fr h₀ L hs m) (X : (hd.heap_1 w.params).In h₀) (N : News h₀ L hs news) (T : Top vw lsw mean mg mb h₀) (hd : dp + cost < 400) (hu : un + 8 * cost < 5000) (pre : Pre news)
    (k : ∀ h' tk', Fr h₀ L h' m → News h₀ L h' news → Q v { s with heap := h', toks := tk' }) :
    wpAny (model PySem.Challenge.rw_ke0002_01.row.prog w) (ktrTop dp un gd cn ⟨.function, nms, ig, ic, mo⟩ L a ccd cl outer) t Q E { s with heap := hs, toks := ks } :=
  S.use B F X N T hd hu pre (fun _ _ h' tk' F' N' _ e => by obtain ⟨rfl, rfl⟩ := e; exact k h' tk' F' N')
/-- a tree that gives an int and makes nothing -/
theorem TreeSpec.useI {w : World} {t : Sem Value} {cost : Nat} {Pre : Led → Prop} {i : Int} (S : TreeSpec w t cost Pre (fun r _ tl => ∃ u, r = Value.int i u ∧ tl = []))
    {mean : ExcName → Option Value} {mg mb : Str → Option Value} {dp un : Nat} {gd : Option (List Code)} {cn : Str} {nms : List (Str × NameKind)} {ig ic : Bool} {mo : List (Str × Const)} {a : Addr} {ccd : Value} {cl : List (Str × Addr)} {outer : List Env} {A₀ : Around} {base h₀ : Heap} {L : Addr}
    {m : Str → Option Value} {news : Led} {s : Shared} {hs : Heap} {ks : Nat} {Q E : Value → Shared → Prop}
    (B : Below A₀ base outer h₀) (F : Fr h₀ L hs m) (X : (hd.heap_1 w.params).In h₀) (N : News h₀ L hs news) (T : Top vw lsw mean mg mb h₀) (hd : dp + cost < 400) (hu : un + 8 * cost < 5000) (pre : Pre news)
    (k : ∀ u h' tk', Fr h₀ L h' m → News h₀ L h' news → Q (Value.int i u) { s with heap := h', toks := tk' }) :
    wpAny (model PySem.Challenge.rw_ke0002_01.row.prog w) (ktrTop dp un gd cn ⟨.function, nms, ig, ic, mo⟩ L a ccd cl outer) t Q E { s with heap := hs, toks := ks } :=
  S.use B F X N T hd hu pre (fun _ _ h' tk' F' N' _ e => by obtain ⟨u, rfl, rfl⟩ := e; exact k u h' tk' F' N')
end Mine
end

section
open PySem PySem.W PyProof.Rows
/-- between two texts: the walk forgets the lines of the text before, as a fresh process has none -/
theorem Mine.calm83 : ∀ (prog : Program) (w : World) (A : Around) (env : Env) (E : Value → Shared → Prop) (s : Shared) (Q : Flow → Shared → Prop), Q .next s → wpAny (model prog w) A (execs [] env) Q E s := by
  w_top off
  intro prog w A env E s Q h
  walk1
  exact h
end

section
open PySem PySem.W PyProof.Rows Mine
local macro_rules | `(tactic| k_room) => `(tactic| first | exact room1 (by assumption) (by rfl) | exact room2 (by assumption) (by rfl) | exact room0 (by assumption) (by rfl))
local macro_rules | `(tactic| k_units) => `(tactic| first | exact room2 (by assumption) (by rfl) | exact room1 (by assumption) (by rfl) | exact room3 (by assumption) (by rfl) | exact room4 (by assumption) (by rfl))
local macro_rules | `(tactic| k_lt $h:ident) => `(tactic| (replace $h := allLt_of $h; (try simp only [AllLt, and_true] at $h:ident)))
local macro_rules | `(tactic| k_mem) => `(tactic| assumption)
local macro_rules | `(tactic| walk_at "execs cons") => `(tactic| ((with_reducible show wpAny _ _ _ _ _ _); first | (k_here; k_gentoks) | (k_here; k_made; walk_at "execs cons") | ((try dsimp only); with_reducible refine execs_consT ?_)))
local macro_rules | `(tactic| walk_at "eval BinOp") => `(tactic| (first | ((with_reducible show wpAny _ _ _ _ _ _); (k_here; k_compRoot)) | with_reducible refine BinOpT ?_))
local macro_rules | `(tactic| walk_at "spliced") => `(tactic| ((with_reducible refine' args_consT ?_ ?he); (case he => rfl)))
local macro_rules | `(tactic| walk_at "spliced") => `(tactic| (k_here; k_dflt ((with_reducible refine' argE ?c ?F ?v ?_); (case c => kernel_rfl!); (case F => k_asm); (case v => walk_at "MINE look"); k_whole)))
local macro_rules | `(tactic| walk_at "exec Assign") => `(tactic| ((with_reducible refine' AssignT ?_ ?he); (case he => rfl)))
local macro_rules | `(tactic| walk_at "eval Slice") => `(tactic| (with_reducible refine SliceT ?_))
local macro_rules | `(tactic| walk_at "MINE look") => `(tactic| first | eq_refl | with_reducible assumption | ((repeat (refine skip_ne (by decide) ?_)); with_reducible assumption))
local macro_rules | `(tactic| walk_at "eval Name") => `(tactic| (k_here; k_dflt (first | ((with_reducible refine' nameG ?c ?g ?F ?X ?T ?e ?_); (case c => kernel_rfl!); (case g => rfl); (case F => k_asm); (case X => k_asm); (case T => k_asm); (case e => k_is); k_whole) | ((with_reducible refine' nameB ?c ?g ?b ?F ?X ?T ?e ?v ?n ?_); (case c => kernel_rfl!); (case g => rfl); (case b => rfl); (case F => k_asm); (case X => k_asm); (case T => k_asm); (case e => k_is); (case v => first | boot_by_name | boot_fast); (case n => decide); k_whole) | ((with_reducible refine' nameX_C ?N ?c ?m ?d ?_ ?a ?b ?e); (case a => rfl); (case b => kernel_rfl!); (case e => decide); (case N => k_asm); (case c => rfl); (case m => k_mem); (case d => k_asm); k_whole))))
local macro_rules | `(tactic| walk_at "eval Name") => `(tactic| (k_here; k_dflt ((with_reducible refine' nameE ?c ?F ?v ?_); (case c => kernel_rfl!); (case F => k_asm); (case v => walk_at "MINE look"); k_whole)))
local macro_rules | `(tactic| walk_at "eval Attribute Name") => `(tactic| (k_here; k_dflt ((with_reducible refine' attrE ?c ?F ?v ?_); (case c => kernel_rfl!); (case F => k_asm); (case v => walk_at "MINE look"); k_whole)))
local macro_rules | `(tactic| walk_at "storeName") => `(tactic| (k_here; k_dflt ((with_reducible refine' storeE ?c ?F ?N ?_); (case c => kernel_rfl!); (case F => k_asm); (case N => k_asm); k_whole; intro h' F' N'; (try k_sweep))))
local macro_rules | `(tactic| walk_at "eval Attribute Attribute") => `(tactic| ((with_reducible refine' AttrT ?_ ?he); (case he => with_unfolding_all rfl)))
local macro_rules | `(tactic| k_in) => `(tactic| ((with_reducible refine' Frag.In.keeps ?X (Fr.keep ?F)); (case F => with_reducible assumption); (case X => with_reducible assumption)))
local macro_rules | `(tactic| walk_at "callWith ref") => `(tactic| (k_here; k_dflt (first | ((with_reducible refine' callK ?w ?X ?a ?_ ?he ?hp); (case w => kernel_rfl!); (case he => rfl); (case hp => kernel_rfl!); (case X => k_asm); (case a => k_is); k_whole) | ((with_reducible refine' callK0 ?w ?X ?a ?_); (case w => kernel_rfl!); (case X => k_in); (case a => k_is); k_whole) | ((with_reducible refine' callM ?w ?X ?N ?q ?a ?_ ?he ?hp); (case w => kernel_rfl!); (case he => rfl); (case hp => kernel_rfl!); (case X => k_asm); (case N => k_asm); (case q => k_mem); (case a => k_is); k_whole) | ((with_reducible refine' callWith_KW ?X ?a ?w ?_ ?hp ?he); (case w => kernel_rfl!); (case he => rfl); (case hp => kernel_rfl!); (case X => k_asm); (case a => k_is); k_whole))))
local macro_rules | `(tactic| walk_at "getAttr ref") => `(tactic| (k_here; k_dflt ((with_reducible refine' get_own ?k1 ?k2 ?k3 ?k4 ?k5 ?k6 ?k7 ?k8 ?k9 ?_); (case k1 => k_asm); (case k2 => k_asm); (case k3 => k_inst); (case k4 => k_is); (case k5 => k_is); (case k6 => k_is); (case k7 => k_is); (case k8 => k_get); (case k9 => k_handed); k_whole)))
local macro_rules | `(tactic| walk_at "LeaveK") => `(tactic| (k_dflt ((with_reducible refine' leaveK_ ?k1 ?k2 ?_); (case k1 => k_asm); (case k2 => k_asm); k_whole); intro kF kN; (try dsimp only [InitBack, CmpBack, LenBack, StrBack, BoolBack]); (try refine ⟨rfl, ?_⟩); (try refine handed_on rfl ?_)))

section
open PySem PySem.W PyProof.Rows PySem.Calls
set_option Elab.async false
set_option maxRecDepth 100000
set_option maxHeartbeats 400000
namespace Mine
section
variable {prog : Program} {w : World} {M : Model} {A : Around} {E : Value → Shared → Prop} {s : Shared} {K : Frag} {C x : Addr} {Q : Value → Shared → Prop}

theorem issub_kind : builtinKind "issubclass" = none := by decide +kernel
theorem issub_plain : plainId "issubclass" = true := by decide +kernel
theorem issub_entry : entryFor table "issubclass" = some Builtin.«issubclass» := entryFor_of_tree (by kernel_rfl)
theorem issub_args (a b : Value) : argsOk "issubclass" ⟨[a, b], []⟩ := by unfold argsOk; kernel_rfl
theorem issubn_entry : entryFor table "issubclass.nested" = some Builtin.«issubclass.nested» := entryFor_of_tree (by kernel_rfl)
theorem tuple_typeOf : typeOf (.type "tuple") = pure (.type "type") := by first | rfl | kernel_rfl
theorem tuple_isType : isType (.type "tuple") = pure true := by first | rfl | kernel_rfl | (unfold isType; rw [isSubtype_type]; kernel_rfl)

theorem issub_call (X : K.In s.heap) (hi : instIn K (.ref C) (.type "type") = some true) (hc : isClsIn K C = true) (hs : subIn K (.ref C) (.type "tuple") = some true)
    (h : Q (.bool true) s) : wpAny (model prog w) A (call (.builtin "issubclass") [.ref C, .type "tuple"]) Q E s := by
  refine call_function_any issub_kind issub_plain issub_entry (issub_args _ _) ?_
  refine wpAny_bind (wpAny_of_eq (a := [Value.ref C, .type "tuple"]) (by first | rfl | kernel_rfl) ?_)
  refine wpAny_pure (a := Fin.again (.builtin "issubclass.nested" ⟨[.ref C, .type "tuple", rawInt 0], []⟩)) ⟨Code.quiet_builtin _ (by decide +kernel), codeAny_builtin issubn_entry ?_⟩
  rw [Around.under_plainId (id := "issubclass.nested") (by decide +kernel) _]
  obtain ⟨hh, g, d, t, os⟩ := s
  have L1 : Looks (model prog w) hh (isSubtype (.ref C) (.type "tuple")) true := looks_subIn X hs
  have L2 : Looks (model prog w) hh (isInstance (.ref C) (.type "type")) true := looks_instIn X hi
  unfold Builtin.«issubclass.nested»
  refine wpAny_bind (wpAny_of_eq tuple_typeOf ?_)
  rw [if_pos (by decide)]
  k_delta "plainIsSubclass"
  have L3 : Looks (model prog w) hh (isType (.type "tuple")) true := Looks.of_pure tuple_isType
  unfold isClsIn clsIn at hc
  split at hc
  · rename_i ho
    have ho' := X _ _ ho
    have L4 : Looks (model prog w) hh (isType (.ref C)) true := by
      intro A' Q' E' s' k q
      unfold isType
      obtain ⟨hh', g', d', t', os'⟩ := s'
      have L2' := L2.keeps k
      have ho'' := k _ _ ho'
      repeat lk
      try exact q
    refine wpAny_bind (wpAny_bind (L4.at (wpAny_bind (L3.at ?_))))
    simp only [Bool.and_self, if_true]
    with_reducible refine Looks.at L1 ?_
    exact wpAny_pure h
  · cases hc

theorem tga_kind : builtinKind "tuple.__getattribute__" = some .slot := by decide +kernel
theorem tga_split : splitId "tuple.__getattribute__" = some ("tuple", "__getattribute__") := by decide +kernel
theorem tga_plain : plainId "tuple.__getattribute__" = true := by decide +kernel
theorem findObj_any {a g : Value} {od : Option Obj} {name : Str} (hc : (clsIn K C).isSome = true) (ha : findIn K (.ref C) name = some (some a)) (hg : specialIn K a "__get__" = some (some g)) (ht : takesIn K a = some true) : findObj K C od name = some (.bind g a) := by
  obtain ⟨cd, hc⟩ := Option.isSome_iff_exists.mp hc
  unfold findObj
  rw [hc, Option.bind_some, ha, Option.bind_some]
  simp [hg, ht]

theorem conf_get {name : Str} {expr : Bool} {ox : Obj} {od : Option Obj} {a g : Value} (X : K.In s.heap) (I : InstAt s.heap x ox C od) (hga : findIn K (.ref C) "__getattribute__" = some (some (.builtin "tuple.__getattribute__")))
    (hgt : findIn K (.ref C) "__getattr__" = some none) (hc : isClsIn K C = true) (ha : findIn K (.ref C) name = some (some a)) (hg : specialIn K a "__get__" = some (some g)) (ht : takesIn K a = some true) (hsub : subIn K (.ref C) (.type "tuple") = some true)
    (h : wpAny (model prog w) A.in1 (call g [a, .ref x, .ref C]) (fun v s' => handedIn v = true ∧ Q v s') (fun _ _ => False) { s with toks := s.toks + 1 }) :
    wpAny (model prog w) A (getAttr (.ref x) name expr) Q E s := by
  obtain ⟨hh, gg, d, t, os⟩ := s
  have L0 := I.type (M := model prog w)
  have L1 := looks_findIn (M := model prog w) X hga
  have L2 := looks_findIn (M := model prog w) X hgt
  have L3 := looks_find (M := model prog w) X I (findObj_any hc ha hg ht)
  have L4 : Looks (model prog w) hh (isInstance (.ref x) (.type "tuple")) true := L0.andThen (looks_subIn X hsub)
  unfold getAttr getAttrBy
  refine wpAny_bind (wpAny_mkText (wpAny_holding (wpAny_bind (L0.at (wpAny_bind (L1.at ?_))))))
  show wpAny _ _ (getAttrByItsOwn _ _ _ _ _ _) _ _ _
  unfold getAttrByItsOwn
  refine wpAny_bind (L2.at ?_)
  refine wpAny_bind (wpAny_attempt (wpAny_holding ?_))
  unfold callGetattribute
  rw [if_neg (by cases expr <;> decide)]
  unfold boundAndCalled
  rw [F.slot_tuple_getattribute.bind (.ref x)]
  refine wpAny_bind (wpAny_pure ?_)
  show wpAny _ _ (call (Value.builtin "tuple.__getattribute__") [Value.ref x, Value.str name t]) _ _ _
  refine wpAny_call ?_
  refine codeAny_call_builtin tga_plain am_entry_tuple_getattribute ?_
  refine @check_slot (model prog w) A.in1 _ _ "tuple.__getattribute__" "tuple" "__getattribute__" (.ref x) [.str name t] [] _ tga_kind tga_split L4 (F.args_tuple_getattribute_2 _ _) ?_
  unfold Builtin.«object.__getattribute__»
  refine wpAny_bind (wpAny_of_eq (a := (Value.ref x, [Value.str name t])) (by kernel_rfl) ?_)
  refine wpAny_bind (wpAny_of_eq (a := name) (by kernel_rfl) ?_)
  refine wpAny_bind (L0.at (wpAny_bind (L3.at ?_)))
  show wpAny _ _ (holding [a] (call g [a, .ref x, .ref C]) >>= ret) _ _ _
  refine wpAny_bind (wpAny_holding (wpAny_mono h (fun v s' z => wpAny_pure ?_) fun _ _ z => z.elim))
  show wpAny _ _ (handedOut v) _ _ _
  exact handed_on z.1 z.2

theorem type_method {T : String} {name : Str} {a : Value} {pl : Sem Bool} {Q : Value × List Value → Shared → Prop} (X : K.In s.heap) (hstub : Manifest.isStub T = false) (ht : typeOf (.type T) = pure (.type "type")) (e : findCls K (.type T) (.type "type") name = some (.val a)) (hh : handedIn a = true)
    (h : Q (a, []) { s with toks := s.toks + 1 }) : wpAny (model prog w) A (getMethod (.type T) name pl) Q E s := by
  have hs : opaqueClassAbove (.type T) = pure none := by unfold opaqueClassAbove; dsimp only; rw [hstub]; rfl
  have L0 : Looks (model prog w) s.heap (typeOf (.type T)) (.type "type") := Looks.of_pure ht
  have hg : findIn K (.type "type") "__getattribute__" = some (some (.builtin "type.__getattribute__")) := type_tga
  unfold getMethod specialOf
  refine wpAny_bind (wpAny_bind (L0.here ((looks_findIn X hg).here ?_)))
  dsimp only
  rw [if_pos canon_tga]
  refine wpAny_bind (wpAny_mono (Q := fun v => Q (v, [])) (E := E) ?_ (fun _ _ z => wpAny_pure z) fun _ _ z => z)
  refine cls_open X (Looks.of_pure hs) L0 hg (looks_hook X (r := none) (by rfl)) (by show subIn K _ _ = _; rfl) e ?_
  exact wpAny_pure (handed_on hh h)

theorem tgi_find : findCls K (.type "tuple") (.type "type") "__getitem__" = some (.val (.builtin "tuple.__getitem__")) := by kernel_rfl
theorem tnew_find : findCls K (.type "tuple") (.type "type") "__new__" = some (.val (.builtin "tuple.__new__")) := by kernel_rfl
abbrev confObj (C dx : Addr) (vs : List Value) : Obj := ⟨.ref C, some dx, .seq vs.toArray 0, #[]⟩
theorem conf_inst {h₀ h : Heap} {L dx : Addr} {news : Led} {vs : List Value} (N : News h₀ L h news) (hm : (x, confObj C dx vs) ∈ news) (hm' : (dx, emptyDict) ∈ news) : InstAt h x (confObj C dx vs) C (some emptyDict) := ⟨(N _ hm).1, rfl, rfl, (N _ hm').1⟩

theorem tgi_kind : builtinKind "tuple.__getitem__" = some .slot := by decide +kernel
theorem tgi_split : splitId "tuple.__getitem__" = some ("tuple", "__getitem__") := by decide +kernel
theorem tgi_plain : plainId "tuple.__getitem__" = true := by decide +kernel
theorem tgi_call {vs : List Value} {k : Int} {t : Tok} {j : Nat} {v : Value} {dc : Addr} {od : Option Obj} (X : K.In s.heap) (I : InstAt s.heap x (confObj C dc vs) C od) (hsub : subIn K (.ref C) (.type "tuple") = some true)
    (hlo : -(2 ^ 63) ≤ k) (hhi : k < 2 ^ 63) (hj : seqIndex? k vs.length = some j) (hx : vs[j]? = some v) (h : Q v s) :
    wpAny (model prog w) A (call (.builtin "tuple.__getitem__") [.ref x, .int k t]) Q E s := by
  obtain ⟨hh, gg, d, tk, os⟩ := s
  have L4 : Looks (model prog w) hh (isInstance (.ref x) (.type "tuple")) true := (I.type (M := model prog w)).andThen (looks_subIn X hsub)
  refine wpAny_call ?_
  refine codeAny_call_builtin tgi_plain entry_tuple_getitem ?_
  refine @check_slot (model prog w) A.in1 _ _ "tuple.__getitem__" "tuple" "__getitem__" (.ref x) [.int k t] [] _ tgi_kind tgi_split L4 (args_tuple_getitem _ _) ?_
  show wpAny _ _ (Builtin.Tuple.tupleItemsOf (.ref x) >>= _) _ _ _
  have L5 : Looks (model prog w) hh (Builtin.Tuple.tupleItemsOf (.ref x)) vs.toArray := (Looks.ld (part := none) I.at_).andThen .now
  refine wpAny_bind (L5.at ?_)
  refine wpAny_bind (wpAny_typeOf (typeIs_int _ k t) ?_)
  rw [if_neg (by decide)]
  refine wpAny_bind (wpAny_specialOf (T := "int") (typeIs_int _ k t) int_index ?_)
  rw [if_neg (by simp)]
  refine wpAny_bind (wpAny_of_eq (a := k) rfl ?_)
  rw [if_neg (by simp only [Bool.or_eq_true, decide_eq_true_eq]; omega)]
  simp only [List.size_toArray, hj, Option.bind_some, List.getElem?_toArray, hx]
  exact wpAny_pure h
end
end Mine
end

section
open PySem PySem.W PyProof.Rows
/-- between two texts: the walk forgets the lines of the text before, as a fresh process has none -/
theorem Mine.calm86 : ∀ (prog : Program) (w : World) (A : Around) (env : Env) (E : Value → Shared → Prop) (s : Shared) (Q : Flow → Shared → Prop), Q .next s → wpAny (model prog w) A (execs [] env) Q E s := by
  w_top off
  intro prog w A env E s Q h
  walk1
  exact h
end

section
open PySem PySem.W PyProof.Rows PySem.Calls
set_option Elab.async false
set_option maxRecDepth 100000
set_option maxHeartbeats 1000000
namespace Mine
section
variable {prog : Program} {w : World} {M : Model} {A : Around} {E : Value → Shared → Prop} {s : Shared} {h : Heap} {K : Frag} {C x : Addr} {Q : Value → Shared → Prop}

theorem made_none {oc : Value} {od : Option Addr} {cd : ClassData} {sl : Array (Option Value)} (X : K.In h) (ho : K.lookup C = some ⟨oc, od, .cls cd, sl⟩) (hs : sl.toList[4]? = some (some .none)) (hm : cd.mro.isEmpty = false) :
    Looks M h (Bind.madeBy (.ref C)) none := by
  have hc : clsIn K C = some cd := by unfold clsIn; rw [ho]
  have L : Looks M h (mroOf (.ref C)) cd.mro := (looks_clsIn X hc).andThen .now
  obtain ⟨c, l, hl⟩ : ∃ c l, cd.mro = c :: l := by cases q : cd.mro with | nil => rw [q] at hm; cases hm | cons c l => exact ⟨c, l, rfl⟩
  intro A Q E s k q
  unfold Bind.madeBy
  refine wpAny_bind (L A _ E s k ?_)
  rw [hl, List.forIn_cons]
  refine wpAny_bind (wpAny_bind (wpAny_bind (wpAny_bind (wpAny_loadPart (k _ _ (X _ _ ho)) (wpAny_pure ?_)))))
  dsimp only
  rw [← Array.getElem?_toList, hs]
  exact wpAny_pure (wpAny_pure (wpAny_pure q))

theorem oi_args_any (a : Value) (l : List Value) : argsOk "object.__init__" ⟨a :: l, []⟩ := by unfold argsOk; kernel_rfl

theorem init_plain {rest : List Value} (T : Looks M s.heap (typeOf (.ref x)) (.ref C)) (L : Looks M s.heap (typeLookup (.ref C) "__init__") (some (.builtin "object.__init__"))) (hm : Looks M s.heap (Bind.madeBy (.ref C)) none) {P : Fin → Shared → Prop} (h : P (.done (.ret .none)) s) :
    wpAny M A (Builtin.«object.__init__» ⟨.ref x :: rest, []⟩) P E s := by
  obtain ⟨hh, gg, d, t, os⟩ := s
  unfold Builtin.«object.__init__»
  dsimp only
  cases rest with
  | nil => exact wpAny_pure h
  | cons r l =>
    refine wpAny_ite ?_
    rw [if_pos (by rfl)]
    refine wpAny_bind (T.at (wpAny_bind (L.at (wpAny_bind (hm.at ?_)))))
    rw [if_neg (by decide), show ((none : Option String) != some "object.__new__") = true from by decide, Bool.or_true]
    exact wpAny_pure h

def OwnBack (K : Frag) (C : Addr) (Q : Value → Shared → Prop) (obj : Value) (s₂ : Shared) : Prop := ∃ x ox, obj = .ref x ∧ s₂.heap.get? x = some ox ∧ ox.cls = .ref C ∧ K.In s₂.heap ∧ Q (.ref x) s₂
theorem make_own {rest : List Value} {oc : Value} {od : Option Addr} {cd : ClassData} {sl : Array (Option Value)} (X : K.In s.heap) (ho : K.lookup C = some ⟨oc, od, .cls cd, sl⟩) (hs : sl.toList[4]? = some (some .none)) (hm : cd.mro.isEmpty = false)
    (hcall : specialIn K (.ref C) "__call__" = some (some (.builtin "type.__call__"))) (hti : instIn K (.ref C) (.type "type") = some true) (hself : mroIn K C (.ref C) = some true) (hobj : mroIn K C (.type "object") = some true) (hini : findIn K (.ref C) "__init__" = some (some (.builtin "object.__init__")))
    (h : wpAny (model prog w) (A.under (.builtin "type.__call__" ⟨.ref C :: rest, []⟩)) (getAttr (.ref C) "__new__") (fun new s₁ => wpAny (model prog w) (A.under (.builtin "type.__call__" ⟨.ref C :: rest, []⟩)) (call new (.ref C :: rest))
      (OwnBack K C Q) (fun _ _ => False) s₁) (fun _ _ => False) s) :
    wpAny (model prog w) A (call (.ref C) rest) Q E s := by
  obtain ⟨hh, g, d, t, os⟩ := s
  have hC := X _ _ ho
  have call := looks_specialIn (M := model prog w) X hcall
  have typ := looks_instIn (M := model prog w) X hti
  have made := made_none (M := model prog w) X ho hs hm
  refine wpAny_call (codeAny_of_tree ?_)
  show wpAny _ _ (callAny (.ref C) _) _ _ _
  refine nd_load hC ?_
  show wpAny _ _ (callAny.viaDunder (.ref C) _) _ _ _
  unfold callAny.viaDunder
  refine wpAny_bind (call.at ?_)
  dsimp only
  rw [tc_bind]
  refine wpAny_bind (wpAny_pure (wpAny_bind (wpAny_pure ?_)))
  refine wpAny_pure (a := Fin.again (.call (.builtin "type.__call__") ⟨.ref C :: rest, []⟩)) (And.intro rfl ?_)
  refine codeAny_call_builtin_at (Code.quiet_builtin _ (by decide +kernel)) entry_typeCall (check_slot tc_kind tc_split typ (tc_args _ _ _) ?_)
  unfold Builtin.«type.__call__»
  have hmro : Looks (model prog w) hh (mroOf (.ref C)) cd.mro := ((Looks.ld (part := none) hC).andThen .now).andThen .now
  repeat (first | simp only [hm, Bool.false_eq_true, if_false] | (fail_if_success (with_reducible show wpAny _ _ (getAttr _ _ _) _ _ _)); lk)
  refine wpAny_mono h (fun new s₁ h₁ => ?_) (fun _ _ z => z.elim)
  refine wpAny_bind (wpAny_holding (wpAny_mono h₁ (fun obj s₂ h₂ => ?_) fun _ _ z => z.elim))
  obtain ⟨y, oy, rfl, hy, hcl, X₂, q⟩ := h₂
  obtain ⟨hh₂, g₂, d₂, t₂, os₂⟩ := s₂
  have t1 : Looks (model prog w) hh₂ (typeOf (.ref y)) (.ref C) := hcl ▸ (Looks.ld (part := none) hy).andThen .now
  have i1 : Looks (model prog w) hh₂ (isInstance (.ref y) (.ref C)) true := t1.andThen (looks_mroIn X₂ hself)
  have i2 : Looks (model prog w) hh₂ (isInstance (.ref y) (.type "object")) true := t1.andThen (looks_mroIn X₂ hobj)
  have l1 := looks_findIn (M := model prog w) X₂ hini
  have m1 := made_none (M := model prog w) X₂ ho hs hm
  refine wpAny_bind (m := isInstance _ _) (i1.at ?_)
  simp only [Bool.not_true, Bool.false_eq_true, if_false]
  have b1 : Looks (model prog w) hh₂ (bindSpecial (.builtin "object.__init__") (.ref y)) (.builtin "object.__init__", [.ref y]) := Looks.of_pure (oi_bind _)
  unfold callSpecial? specialOf
  repeat (first | with_reducible refine wpAny_call ?_ | lk)
  refine codeAny_call_builtin oi_plain entry_oi (@check_slot (model prog w) _ _ _ "object.__init__" "object" "__init__" (.ref y) rest [] _ oi_kind oi_split i2 (oi_args_any _ _) ?_)
  refine init_plain t1 l1 m1 ?_
  exact wpAny_pure (wpAny_pure q)
end
end Mine
end

section
open PySem PySem.W PyProof.Rows
/-- between two texts: the walk forgets the lines of the text before, as a fresh process has none -/
theorem Mine.calm88 : ∀ (prog : Program) (w : World) (A : Around) (env : Env) (E : Value → Shared → Prop) (s : Shared) (Q : Flow → Shared → Prop), Q .next s → wpAny (model prog w) A (execs [] env) Q E s := by
  w_top off
  intro prog w A env E s Q h
  walk1
  exact h
end

section
open PySem PySem.W PyProof.Rows PySem.Calls
set_option Elab.async false
set_option maxRecDepth 100000
set_option maxHeartbeats 4000000
namespace Mine
local macro_rules | `(tactic| k_inst) => `(tactic| first | exact conf_inst (by k_asm) (by k_mem) (by k_mem) | exact InstAt.of_K (by k_in) (by assumption) (by assumption))
local macro_rules | `(tactic| walk_at "call builtin:issubclass") => `(tactic| refine' Held.out ?_)
local macro_rules | `(tactic| walk_at "getMethod type:tuple") => `(tactic| refine' Held.out ?_)
local macro_rules | `(tactic| walk_at "call builtin:tuple.__getitem__") => `(tactic| refine' Held.out ?_)
/-- the tree t, an exception handled or none; it makes nothing -/
def TreeSpecM (w : World) (t : Sem Value) (cost : Nat) (Pre : Led → Prop) (Post : Value → Prop) : Prop :=
  ∀ (hv : Option Value) (mean : ExcName → Option Value) (mg mb : Str → Option Value) (dp un : Nat) (gd : Option (List Code)) (cn : Str) (nms : List (Str × NameKind)) (ig ic : Bool) (mo : List (Str × Const)) (a : Addr) (ccd : Value) (cl : List (Str × Addr)) (outer : List Env) (A₀ : Around) (base h₀ : Heap) (L : Addr)
    (m : Str → Option Value) (news : Led) (s : Shared) (Q E : Value → Shared → Prop),
    Below A₀ base outer h₀ → Fr h₀ L s.heap m → (hd.heap_1 w.params).In h₀ → News h₀ L s.heap news → Top vw lsw mean mg mb h₀ → dp + cost < 400 → un + 8 * cost < 5000 → Pre news →
    (∀ r h' tk', Fr h₀ L h' m → News h₀ L h' news → Post r → Q r { s with heap := h', toks := tk' }) →
    wpAny (model PySem.Challenge.rw_ke0002_01.row.prog w) { handled := hv, depth := dp, frames := some (envX cn ⟨.function, nms, ig, ic, mo⟩ L a ccd cl :: outer), guards := gd, units := un } t Q E s
theorem TreeSpecM.use {w : World} {t : Sem Value} {cost : Nat} {Pre : Led → Prop} {Post : Value → Prop} (S : TreeSpecM w t cost Pre Post)
    {hv : Option Value} {mean : ExcName → Option Value} {mg mb : Str → Option Value} {dp un : Nat} {gd : Option (List Code)} {cn : Str} {nms : List (Str × NameKind)} {ig ic : Bool} {mo : List (Str × Const)} {a : Addr} {ccd : Value} {cl : List (Str × Addr)} {outer : List Env} {A₀ : Around} {base h₀ : Heap} {L : Addr}
    {m : Str → Option Value} {news : Led} {s : Shared} {hs : Heap} {ks : Nat} {Q E : Value → Shared → Prop}
    (B : Below A₀ base outer h₀) (F : Fr h₀ L hs m) (X : (hd.heap_1 w.params).In h₀) (N : News h₀ L hs news) (T : Top vw lsw mean mg mb h₀) (hd : dp + cost < 400) (hu : un + 8 * cost < 5000) (pre : Pre news)
    (k : ∀ r h' tk', Fr h₀ L h' m → News h₀ L h' news → Post r → Q r { s with heap := h', toks := tk' }) :
    wpAny (model PySem.Challenge.rw_ke0002_01.row.prog w) { handled := hv, depth := dp, frames := some (envX cn ⟨.function, nms, ig, ic, mo⟩ L a ccd cl :: outer), guards := gd, units := un } t Q E { s with heap := hs, toks := ks } :=
  S hv mean mg mb dp un gd cn nms ig ic mo a ccd cl outer A₀ base h₀ L m news { s with heap := hs, toks := ks } Q E B F X N T hd hu pre k
theorem TreeSpecM.none {w : World} {t : Sem Value} {cost : Nat} {Pre : Led → Prop} {Post : Value → Prop} (S : TreeSpecM w t cost Pre Post) : TreeSpec w t cost Pre (fun r _ tl => Post r ∧ tl = []) :=
  fun mean mg mb dp un gd cn nms ig ic mo a ccd cl outer A₀ base h₀ L m news s Q E B F X N T hd hu pre k =>
    S Option.none mean mg mb dp un gd cn nms ig ic mo a ccd cl outer A₀ base h₀ L m news s Q E B F X N T hd hu pre fun r h' tk' F' N' p => k r [] h' tk' F' N' Apart.nil ⟨p, rfl⟩
theorem getterM (w : World) (x dc d dx : Addr) (vs : List Value) (v : Value) (i : Int) (u : Tok) (j : Nat) (hs1 hs2 : Int) (t1 t2 : Tok) (v2 : Value) : TreeSpecM w (call (.ref 71) [.ref d, .ref x, .ref 169]) 3
    (fun news => (x, confObj 169 dc vs) ∈ news ∧ (dc, emptyDict) ∈ news ∧ (hd.heap_1 w.params).lookup d = some ⟨.ref 88, some dx, .plain, #[]⟩ ∧ (hd.heap_1 w.params).lookup dx = some (dictOf [⟨hs1, .str "index" t1, .int i u⟩, ⟨hs2, .str "__doc__" t2, v2⟩] 2) ∧
      -(2 ^ 63) ≤ i ∧ i < 2 ^ 63 ∧ seqIndex? i vs.length = some j ∧ vs[j]? = some v)
    (fun r => r = v) := by
  unfold TreeSpecM
  k_fill
  intro hv mean mg mb dp un gd cn nms ig ic mo a ccd cl outer A₀ base h₀ L m news s Q E B F X N T hdp hun pre0 post
  obtain ⟨hm, hm', hk1, hk2, hlo, hhi, hj, hx⟩ := pre0
  refine wpAny_call ?_
  k_dflt k_enter
  k_steps
  refine ⟨?_⟩
  refine' issub_call ?X ?a ?b ?c ?_
  case X => k_in
  case a => k_is
  case b => k_is
  case c => k_is
  k_steps
  refine ⟨?_⟩
  refine' type_method ?X ?a ?t ?b ?c ?_
  case X => k_in
  case b => exact tgi_find
  case a => decide +kernel
  case t => kernel_rfl
  case c => decide +kernel
  k_steps
  refine ⟨?_⟩
  refine' tgi_call ?X ?I ?a ?b ?c ?d ?e ?_
  case X => k_in
  case I => exact conf_inst (by k_asm) (by k_mem) (by k_mem)
  case a => k_is
  case b => assumption
  case c => assumption
  case d => assumption
  case e => assumption
  k_steps
  exact post _ _ _ (by assumption) (by assumption) rfl
end Mine
end

section
open PySem PySem.W PyProof.Rows
/-- between two texts: the walk forgets the lines of the text before, as a fresh process has none -/
theorem Mine.calm90 : ∀ (prog : Program) (w : World) (A : Around) (env : Env) (E : Value → Shared → Prop) (s : Shared) (Q : Flow → Shared → Prop), Q .next s → wpAny (model prog w) A (execs [] env) Q E s := by
  w_top off
  intro prog w A env E s Q h
  walk1
  exact h
end

section
open PySem PySem.W PyProof.Rows
set_option Elab.async false
set_option maxRecDepth 100000
set_option maxHeartbeats 4000000
namespace Mine

/-- an attribute of the configuration -/
def confIs (x : Addr) (vs : List Value) (news : Led) : Prop := ∃ dx, (x, confObj 169 dx vs) ∈ news ∧ (dx, emptyDict) ∈ news
/-- the five attributes of a configuration -/
structure Cf where
  ps : Int
  od : Int
  ks : Int
  vz : Int
  t1 : Tok
  t2 : Tok
  t3 : Tok
  t4 : Tok
  ser : Addr
def Cf.vals (c : Cf) : List Value := [.int c.ps c.t1, .int c.od c.t2, .int c.ks c.t3, .int c.vz c.t4, .ref c.ser]
theorem conf_attr {w : World} {x d dx : Addr} {vs : List Value} {v : Value} {i : Int} {u : Tok} {j : Nat} {hs1 hs2 : Int} {t1 t2 : Tok} {v2 : Value} {name : Str} {expr : Bool}
    (ha : findIn (hd.heap_1 w.params) (.ref 169) name = some (some (.ref d))) (hg : specialIn (hd.heap_1 w.params) (.ref d) "__get__" = some (some (.ref 71))) (ht : takesIn (hd.heap_1 w.params) (.ref d) = some true)
    (hk1 : (hd.heap_1 w.params).lookup d = some ⟨.ref 88, some dx, .plain, #[]⟩) (hk2 : (hd.heap_1 w.params).lookup dx = some (dictOf [⟨hs1, .str "index" t1, .int i u⟩, ⟨hs2, .str "__doc__" t2, v2⟩] 2))
    (hlo : -(2 ^ 63) ≤ i) (hhi : i < 2 ^ 63) (hj : seqIndex? i vs.length = some j) (hx : vs[j]? = some v) (hv9 : handedIn v = true) :
    TreeSpecM w (getAttr (.ref x) name expr) 5 (confIs x vs) (fun r => r = v) := by
  unfold TreeSpecM
  k_fill
  intro hv mean mg mb dp un gd cn nms ig ic mo a ccd cl outer A₀ base h₀ L m news s Q E B F X N T hdp hun pre0 post
  obtain ⟨dc, hm, hm'⟩ := pre0
  refine conf_get (C := 169) (g := .ref 71) (X.keeps F.keep) (conf_inst N hm hm') (by k_is) (by k_is) (by k_is) ha hg ht (by k_is) ?_
  refine getterM w x dc d dx vs v i u j hs1 hs2 t1 t2 v2 hv mean mg mb dp (un + 1) gd cn nms ig ic mo a ccd cl outer A₀ base h₀ L m news _ _ _ B F X N T (by omega) (by omega) ⟨hm, hm', hk1, hk2, hlo, hhi, hj, hx⟩ ?_
  rintro r h' tk' F' N' rfl
  exact ⟨hv9, post _ _ _ F' N' rfl⟩
/-- the attributes' names and values -/
inductive CfA (c : Cf) : Str → Value → Prop
  | ps : CfA c "page_size" (.int c.ps c.t1)
  | od : CfA c "order" (.int c.od c.t2)
  | ks : CfA c "key_size" (.int c.ks c.t3)
  | vz : CfA c "value_size" (.int c.vz c.t4)
  | ser : CfA c "serializer" (.ref c.ser)
theorem conf_oneM {w : World} {x : Addr} {c : Cf} {expr : Bool} {name : Str} {v : Value} (h : CfA c name v) : TreeSpecM w (getAttr (.ref x) name expr) 5 (confIs x c.vals) (fun r => r = v) := by
  k_fill
  cases h with
  | ps => exact conf_attr (d := 152) (dx := 151) (j := 0) (by k_is) (by k_is) (by k_is) (by k_is) (by k_is) (by decide) (by decide) rfl rfl rfl
  | od => exact conf_attr (d := 155) (dx := 154) (j := 1) (by k_is) (by k_is) (by k_is) (by k_is) (by k_is) (by decide) (by decide) rfl rfl rfl
  | ks => exact conf_attr (d := 158) (dx := 157) (j := 2) (by k_is) (by k_is) (by k_is) (by k_is) (by k_is) (by decide) (by decide) rfl rfl rfl
  | vz => exact conf_attr (d := 161) (dx := 160) (j := 3) (by k_is) (by k_is) (by k_is) (by k_is) (by k_is) (by decide) (by decide) rfl rfl rfl
  | ser => exact conf_attr (d := 164) (dx := 163) (j := 4) (by k_is) (by k_is) (by k_is) (by k_is) (by k_is) (by decide) (by decide) rfl rfl rfl
theorem conf_one {w : World} {x : Addr} {c : Cf} {expr : Bool} {name : Str} {v : Value} (h : CfA c name v) : TreeSpec w (getAttr (.ref x) name expr) 5 (confIs x c.vals) (fun r _ tl => r = v ∧ tl = []) := (conf_oneM h).none
end Mine
end

section
open PySem PySem.W PyProof.Rows
/-- between two texts: the walk forgets the lines of the text before, as a fresh process has none -/
theorem Mine.calm92 : ∀ (prog : Program) (w : World) (A : Around) (env : Env) (E : Value → Shared → Prop) (s : Shared) (Q : Flow → Shared → Prop), Q .next s → wpAny (model prog w) A (execs [] env) Q E s := by
  w_top off
  intro prog w A env E s Q h
  walk1
  exact h
end

section
open PySem PySem.W PyProof.Rows PySem.Calls
set_option Elab.async false
set_option maxRecDepth 100000
set_option maxHeartbeats 1000000
namespace Mine
theorem fr_ext {h₀ h h' : Heap} {L : Addr} {m : Str → Option Value} (F : Fr h₀ L h m) (k : ∀ b o, h.get? b = some o → h'.get? b = some o) : Fr h₀ L h' m := ⟨F.ns.keeps k, fun b o e => k b o (F.keep b o e), F.above⟩
theorem news_ext {h₀ h h' : Heap} {L : Addr} {news : Led} (N : News h₀ L h news) (k : ∀ b o, h.get? b = some o → h'.get? b = some o) : News h₀ L h' news := fun p hp => ⟨k _ _ (N p hp).1, (N p hp).2⟩
section
variable {prog : Program} {w : World} {M : Model} {A : Around} {E : Value → Shared → Prop} {s : Shared} {h h₀ : Heap} {K : Frag} {C x L : Addr} {Q : Value → Shared → Prop} {m : Str → Option Value} {news : Led}
theorem tnew_plain : plainId "tuple.__new__" = true := by decide +kernel
theorem tnew_entry : entryFor table "tuple.__new__" = some Builtin.«tuple.__new__» := entryFor_of_tree (by kernel_rfl)

theorem tnew_call {t : Addr} {vs : List Value} (F : Fr h₀ L s.heap m) (N : News h₀ L s.heap news) (hck : Looks (model prog w) s.heap (checkBuiltinCall "tuple.__new__" ⟨[.ref C, .ref t], []⟩) ()) (hty : Looks (model prog w) s.heap (isType (.ref C)) true)
    (hsub : Looks (model prog w) s.heap (isSubtype (.ref C) (.type "tuple")) true) (hmh : Looks (model prog w) s.heap (Bind.madeHere "tuple.__new__" (.ref C)) ()) (hini : Looks (model prog w) s.heap (typeLookup (.ref C) "__init__") (some (.builtin "object.__init__")))
    (hdel : ∀ h', (∀ b o, s.heap.get? b = some o → h'.get? b = some o) → Looks (model prog w) h' (classHasDel C) false)
    (ht : (t, ({ cls := .type "tuple", data := .seq vs.toArray } : Obj)) ∈ news) (hsz : vs.length ≤ sizeLine)
    (h : ∀ dx x h', Fr h₀ L h' m → News h₀ L h' ((x, confObj C dx vs) :: (dx, emptyDict) :: news) → (∀ p ∈ news, p.1 < dx) → dx < x → Q (.ref x) { s with heap := h' }) :
    wpAny (model prog w) A (call (.builtin "tuple.__new__") [.ref C, .ref t]) Q E s := by
  refine wpAny_call ?_
  refine codeAny_call_builtin tnew_plain tnew_entry ?_
  obtain ⟨hh, g, d, tk, os⟩ := s
  refine hck.at ?_
  unfold Builtin.«tuple.__new__»
  dsimp only
  refine wpAny_bind (hty.at ?_)
  simp only [Bool.not_true, Bool.false_eq_true, if_false]
  refine wpAny_bind (m := isSubtype _ _) (hsub.at ?_)
  simp only [Bool.not_true, Bool.false_eq_true, if_false]
  refine wpAny_bind (hmh.at (wpAny_bind (hini.at ?_)))
  rw [if_pos (by decide)]
  refine wpAny_bind (wpAny_of_eq (a := ()) (by first | rfl | kernel_rfl) (wpAny_bind (wpAny_of_eq (a := ()) (by first | rfl | kernel_rfl) ?_)))
  rw [if_neg (by intro q; cases (eq_of_beq q))]
  refine wpAny_bind (m := collect (.ref t)) ((wpAny_collect_seq t (.inr rfl) (N _ ht).1 rfl rfl (fun h' k => ?_) (by rw [List.size_toArray]; exact hsz)))
  refine wpAny_bind (wpAny_pure ?_)
  refine wpAny_bind (wpAny_alloc ?_)
  have F' := (fr_ext F k).push emptyDict
  have N' := (news_ext N k).push (fr_ext F k) emptyDict
  have hfit : ¬ (vs.toArray.toList.toArray.size > sizeLine) := by simp; exact hsz
  show wpAny _ _ (newObj _ _ _ >>= _) _ _ _
  unfold newObj
  dsimp only
  rw [if_neg hfit]
  unfold newObjAsIs
  refine wpAny_bind (wpAny_bind (wpAny_alloc ?_))
  have F'' := F'.push (confObj C h'.objs.size vs)
  have N'' := N'.push F' (confObj C h'.objs.size vs)
  have q := h h'.objs.size (h'.push emptyDict).objs.size ((h'.push emptyDict).push (confObj C h'.objs.size vs)) F'' N'' (fun p hp => Heap.lt_size ((news_ext N k) p hp).1) (by rw [Heap.size_push]; exact Nat.lt_succ_self _)
  refine wpAny_bind ((hdel _ fun b o e => Heap.get?_push_of_some _ (Heap.get?_push_of_some _ (k _ _ e))).at ?_)
  simp only [Bool.false_eq_true, if_false]
  exact wpAny_pure (wpAny_pure q)
end
local macro_rules | `(tactic| walk_at "getMethod type:tuple") => `(tactic| refine' Held.out ?_)
local macro_rules | `(tactic| walk_at "call builtin:tuple.__new__") => `(tactic| refine' Held.out ?_)
theorem conf_make (w : World) (c : Cf) : TreeSpec w (call (.ref 169) c.vals) 10 (fun _ => True) (fun r _ tl => ∃ x dx, r = .ref x ∧ tl = [(x, confObj 169 dx c.vals), (dx, emptyDict)]) := by
  unfold TreeSpec
  k_fill
  intro mean mg mb dp un gd cn nms ig ic mo a ccd cl outer A₀ base h₀ L m news s Q E B F X N T hdp hun _ post
  have X' := X.keeps F.keep
  refine' make_own X' ?ho ?hs ?hm ?hcall ?hti ?hself ?hobj ?hini ?_
  case ho => k_is
  case hs => rfl
  case hm => rfl
  case hcall => k_is
  case hti => k_is
  case hself => k_is
  case hobj => k_is
  case hini => k_is
  unfold Cf.vals
  k_steps
  refine ⟨?_⟩
  refine' type_method ?X ?a ?t ?b ?c ?_
  case X => k_in
  case b => exact tnew_find
  case a => decide +kernel
  case t => kernel_rfl
  case c => decide +kernel
  k_steps
  refine ⟨?_⟩
  refine' tnew_call (C := 169) ?F ?N ?a ?b ?c ?d ?e ?f ?g ?z ?_
  case F => k_asm
  case N => k_asm
  case a => exact Looks.of_peek (by k_in) (by kernel_rfl)
  case b => exact Looks.of_peek (by k_in) (by kernel_rfl)
  case c => exact Looks.of_peek (by k_in) (by kernel_rfl)
  case d => exact Looks.of_peek (by k_in) (by kernel_rfl)
  case e => exact Looks.of_peek (by k_in) (by kernel_rfl)
  case f => exact fun h' k => Looks.of_peek (Frag.In.keeps (by k_in) k) (by kernel_rfl)
  case g => exact .head _
  case z => size_fits
  intro dx' x' h' F' N' l1 l2
  k_steps
  rename_i kF kN
  refine ⟨_, _, rfl, (kN _ (.head _)).1, rfl, Frag.In.keeps (by assumption) kF.keep, ?_⟩
  exact post _ [_, _] _ _ kF (news_sub kN (sub_cons (.head _) (sub_cons (.tail _ (.head _)) (sub_nil fun _ h => .tail _ (.tail _ (.tail _ h)))))) (Apart.cons (fun q hq => Nat.ne_of_lt (Nat.lt_trans (l1 q (.tail _ hq)) l2)) (Apart.cons (fun q hq => Nat.ne_of_lt (l1 q (.tail _ hq))) Apart.nil)) ⟨x', dx', rfl, rfl⟩
end Mine
end

section
open PySem PySem.W PyProof.Rows
/-- between two texts: the walk forgets the lines of the text before, as a fresh process has none -/
theorem Mine.calm94 : ∀ (prog : Program) (w : World) (A : Around) (env : Env) (E : Value → Shared → Prop) (s : Shared) (Q : Flow → Shared → Prop), Q .next s → wpAny (model prog w) A (execs [] env) Q E s := by
  w_top off
  intro prog w A env E s Q h
  walk1
  exact h
end

section
open PySem PySem.W PyProof.Rows PySem.Calls
set_option Elab.async false
set_option maxRecDepth 100000
set_option maxHeartbeats 4000000
namespace Mine
abbrev en (w : World) (n : Str) (u : Tok) (v : Value) : DictEntry := ⟨PyData.keyHash w.params n, .str n u, v⟩
abbrev recDict (w : World) (u1 u2 u3 u4 u5 : Tok) (x : Addr) (key val len ov : Value) (n : Nat) : Obj := dictOf [en w "_tree_conf" u1 (.ref x), en w "key" u2 key, en w "value" u3 val, en w "length" u4 len, en w "overflow_page" u5 ov] n
abbrev refDict (w : World) (u1 u2 u3 u4 u5 : Tok) (x : Addr) (len key bef aft : Value) (n : Nat) : Obj := dictOf [en w "_tree_conf" u1 (.ref x), en w "length" u2 len, en w "key" u3 key, en w "before" u4 bef, en w "after" u5 aft] n
end Mine
end

section
open PySem PySem.W PyProof.Rows
/-- between two texts: the walk forgets the lines of the text before, as a fresh process has none -/
theorem Mine.calm96 : ∀ (prog : Program) (w : World) (A : Around) (env : Env) (E : Value → Shared → Prop) (s : Shared) (Q : Flow → Shared → Prop), Q .next s → wpAny (model prog w) A (execs [] env) Q E s := by
  w_top off
  intro prog w A env E s Q h
  walk1
  exact h
end

section
open PySem PySem.W PyProof.Rows PySem.Calls
set_option Elab.async false
set_option maxRecDepth 100000
set_option maxHeartbeats 1000000
namespace Mine
section
variable {prog : Program} {w : World} {A : Around} {E : Value → Shared → Prop} {s : Shared} {h₀ : Heap} {L : Addr} {Q : Value → Shared → Prop} {m : Str → Option Value} {news : Led}

theorem lnew0_check : checkBuiltinCall "list.__new__" ⟨[.type "list"], []⟩ = pure () := by kernel_rfl
theorem lcall0_check : checkTypeCall "list" ⟨[], []⟩ = pure () := by kernel_rfl
theorem linit_entry : entryFor table "list.__init__" = some Builtin.«list.__init__» := entryFor_of_tree (by kernel_rfl)
theorem linit_args (a : Value) : argsOk "list.__init__" ⟨[a], []⟩ := by unfold argsOk; kernel_rfl
theorem code_lnew0 {Q₁ : Value → Shared → Prop} (h : Q₁ (.ref s.heap.objs.size) { s with heap := s.heap.push { cls := .type "list", data := .seq #[] } }) :
    codeAny (model prog w) A (.call (.builtin "list.__new__") ⟨[.type "list"], []⟩) (wants Q₁ E) s := by
  refine codeAny_of_tree ?_
  show wpAny _ A.in1 (do checkBuiltinCall "list.__new__" ⟨[.type "list"], []⟩; again (.builtin "list.__new__" ⟨[.type "list"], []⟩)) _ _ s
  refine wpAny_bind (wpAny_of_eq lnew0_check (wpAny_pure ⟨plainId_quiet F.plain_list_new _, codeAny_builtin_stack F.entry_list_new rfl fun p st => ?_⟩))
  rw [Around.under_plainId F.plain_list_new _]
  have hsub := sub_list_self
  have hown := owner_list_new
  obtain ⟨hp, g, d, tk, os⟩ := s
  simp only [hown]
  wp_walk
  exact h

theorem list0 (hF : Fr h₀ L s.heap m) (N : News h₀ L s.heap news)
    (h : ∀ D h', Fr h₀ L h' m → News h₀ L h' ((D, ({ cls := .type "list", data := .seq (([] : List Value).toArray) 0 } : Obj)) :: news) → (∀ q ∈ news, q.1 < D) → Q (.ref D) { s with heap := h' }) :
    wpAny (model prog w) A (call (.type "list") []) Q E s := by
  obtain ⟨hp, g, d, tk, os⟩ := s
  refine callType_codes (Q₁ := fun obj s₁ => obj = .ref hp.objs.size ∧ s₁ = ⟨hp.push { cls := .type "list", data := .seq #[] }, g, d, tk, os⟩) F.called_list lcall0_check linit_entry (code_lnew0 ⟨rfl, rfl⟩) ?_
  rintro obj s₁ ⟨rfl, rfl⟩
  have hS : (hp.push { cls := .type "list", data := .seq #[] }).get? hp.objs.size = some { cls := .type "list", data := .seq #[] 0 } := Heap.get?_push_size _ rfl
  refine ⟨⟨_, hS, rfl⟩, linit_args _, ?_⟩
  unfold Builtin.«list.__init__»
  dsimp only
  rw [if_neg (by decide), if_neg (by decide)]
  have L1 : Looks (model prog w) (hp.push { cls := .type "list", data := .seq #[] }) (Builtin.List.listItems (.ref hp.objs.size)) #[] := ((Looks.ld (part := none) hS).andThen .now).andThen .now
  refine wpAny_bind (L1.at ?_)
  show wpAny _ _ (updateSeq hp.objs.size _ >>= _) _ _ _
  refine wpAny_bind (wpAny_updateSeq hS rfl ?_ (by decide) (by decide))
  have F' := hF.push ({ cls := .type "list", data := .seq (([] : List Value).toArray) 0 } : Obj)
  have N' := N.push hF ({ cls := .type "list", data := .seq (([] : List Value).toArray) 0 } : Obj)
  obtain ⟨F2, N2⟩ := news_upd (pre := []) (f := Obj.mapSeq fun _ => #[]) (o' := ({ cls := .type "list", data := .seq (([] : List Value).toArray) 0 } : Obj)) F' N' (fun _ h => nomatch h) (fun p hp' => Nat.ne_of_lt (Heap.lt_size (N p hp').1)) rfl rfl
  have q := h hp.objs.size _ F2 N2 fun p hp' => Heap.lt_size (N p hp').1
  exact wpAny_bind (wpAny_pure (wpAny_pure ⟨rfl, q⟩))
end
end Mine
end

section
open PySem PySem.W PyProof.Rows
/-- between two texts: the walk forgets the lines of the text before, as a fresh process has none -/
theorem Mine.calm98 : ∀ (prog : Program) (w : World) (A : Around) (env : Env) (E : Value → Shared → Prop) (s : Shared) (Q : Flow → Shared → Prop), Q .next s → wpAny (model prog w) A (execs [] env) Q E s := by
  w_top off
  intro prog w A env E s Q h
  walk1
  exact h
end

section
open PySem PySem.W PyProof.Rows PySem.Calls
set_option Elab.async false
set_option maxRecDepth 100000
set_option maxHeartbeats 4000000
namespace Mine
abbrev anyNode : List Addr := [518, 540, 607, 629]
abbrev recNode : List Addr := [518, 540]
abbrev refNode : List Addr := [607, 629]
abbrev nodeDict (w : World) (u1 u2 u3 u4 u5 u6 u7 u8 u9 : Tok) (x : Addr) (nt mn mx : Value) (ec : Addr) (le : Addr) (page par nx : Value) (n : Nat) : Obj :=
  dictOf [en w "_node_type_int" u1 nt, en w "min_children" u2 mn, en w "max_children" u3 mx, en w "_entry_class" u4 (.ref ec), en w "_tree_conf" u5 (.ref x), en w "entries" u6 (.ref le), en w "page" u7 page, en w "parent" u8 par, en w "next_page" u9 nx] n
abbrev lst (vs : List Value) (n : Nat) : Obj := { cls := .type "list", data := .seq vs.toArray n }
abbrev Kept (a : Addr) (news news' : Led) : Prop := ∀ q ∈ news, q.1 ≠ a → q ∈ news'
/-- the tree t at any frame of the text's own: it may change the ledger -/
def MutSpec (w : World) (t : Sem Value) (cost : Nat) (Pre : Led → Prop) (Post : Value → Led → Led → Prop) : Prop :=
  ∀ (mean : ExcName → Option Value) (mg mb : Str → Option Value) (dp un : Nat) (gd : Option (List Code)) (cn : Str) (nms : List (Str × NameKind)) (ig ic : Bool) (mo : List (Str × Const)) (a : Addr) (ccd : Value) (cl : List (Str × Addr)) (outer : List Env) (A₀ : Around) (base h₀ : Heap) (L : Addr)
    (m : Str → Option Value) (news : Led) (s : Shared) (Q E : Value → Shared → Prop),
    Below A₀ base outer h₀ → Fr h₀ L s.heap m → (hd.heap_1 w.params).In h₀ → News h₀ L s.heap news → Top vw lsw mean mg mb h₀ → dp + cost < 400 → un + 8 * cost < 5000 → Pre news →
    (∀ r news' h' tk', Fr h₀ L h' m → News h₀ L h' news' → Post r news news' → Q r { s with heap := h', toks := tk' }) →
    wpAny (model PySem.Challenge.rw_ke0002_01.row.prog w) (ktrTop dp un gd cn ⟨.function, nms, ig, ic, mo⟩ L a ccd cl outer) t Q E s
def nodeIs (w : World) (C y le x : Addr) (nt mn mx : Value) (ec : Addr) (page par nx : Value) (news : Led) : Prop :=
  ∃ dy u1 u2 u3 u4 u5 u6 u7 u8 u9 n, (y, instObj C dy) ∈ news ∧ (dy, nodeDict w u1 u2 u3 u4 u5 u6 u7 u8 u9 x nt mn mx ec le page par nx n) ∈ news
theorem nodeIs.elim {w : World} {C y le x : Addr} {nt mn mx : Value} {ec : Addr} {page par nx : Value} {news : Led} {G : Prop} (h : nodeIs w C y le x nt mn mx ec page par nx news)
    (c : ∀ dy u1 u2 u3 u4 u5 u6 u7 u8 u9 n, (y, instObj C dy) ∈ news → (dy, nodeDict w u1 u2 u3 u4 u5 u6 u7 u8 u9 x nt mn mx ec le page par nx n) ∈ news → G) : G := by
  obtain ⟨dy, u1, u2, u3, u4, u5, u6, u7, u8, u9, n, h1, h2⟩ := h
  exact c dy u1 u2 u3 u4 u5 u6 u7 u8 u9 n h1 h2
end Mine
end

section
open PySem PySem.W PyProof.Rows
/-- between two texts: the walk forgets the lines of the text before, as a fresh process has none -/
theorem Mine.calm100 : ∀ (prog : Program) (w : World) (A : Around) (env : Env) (E : Value → Shared → Prop) (s : Shared) (Q : Flow → Shared → Prop), Q .next s → wpAny (model prog w) A (execs [] env) Q E s := by
  w_top off
  intro prog w A env E s Q h
  walk1
  exact h
end

section
open PySem PySem.W PyProof.Rows PySem.Calls
set_option Elab.async false
set_option linter.unusedSimpArgs false
set_option maxRecDepth 100000
set_option maxHeartbeats 4000000
namespace Mine
local macro_rules | `(tactic| walk_at "call builtin:int.to_bytes") => `(tactic| refine' Held.out ?_)
/-- the serializer of ints -/
def serIs (y : Addr) (news : Led) : Prop := ∃ dy, (y, instObj 676 dy) ∈ news ∧ (dy, emptyDict) ∈ news
theorem serIs.sub {y : Addr} {a b : Led} (h : serIs y a) (s : ∀ q ∈ a, q ∈ b) : serIs y b := Exists.elim h fun dy q => ⟨dy, s _ q.1, s _ q.2⟩
theorem mk_ser1 (w : World) : TreeSpec w (call (.ref 676) []) 12 (fun _ => True) (fun r _ tl => ∃ y, r = .ref y ∧ serIs y tl) := by
  unfold TreeSpec
  k_fill
  intro mean mg mb dp un gd cn nms ig ic mo a ccd cl outer A₀ base h₀ L m news s Q E B F X N T hdp hun pre0 post
  k_steps
  rename News _ _ _ _ => kN
  with_reducible rename AllLt _ news => l1
  with_reducible rename @LT.lt Nat _ _ _ => l2
  exact post _ [_, _] _ _ (by assumption) kN (Apart.cons (fun q hq => Nat.ne_of_lt (Nat.lt_trans (ktn_ltOf l1 q hq) l2)) (Apart.cons (fun q hq => Nat.ne_of_lt (ktn_ltOf l1 q hq)) Apart.nil)) ⟨_, rfl, _, .head _, .tail _ (.head _)⟩
theorem serialize (w : World) (y : Addr) (k : Int) (n : Nat) (t u : Tok) (hn : n ≤ 8) (h0 : 0 ≤ k) (h1 : k < 256 ^ n) :
    TreeSpec w (call (.ref 666) [.ref y, .int k t, .int (n : Nat) u]) 8 (fun _ => True) (fun r _ tl => (∃ b t', r = .bytes b t' ∧ KBw.bInts b = KTBy.little n k) ∧ tl = []) := by
  unfold TreeSpec
  k_fill
  intro mean mg mb dp un gd cn nms ig ic mo a ccd cl outer A₀ base h₀ L m news s Q E B F X N T hdp hun pre0 post
  refine wpAny_call ?_
  k_dflt (refine' code_own ?k1 ?k2 ?k3 ?k4 ?k5 ?kA ?kF ?kK ?k6 ?k7 ?k8 ?k9 ?kB ?_ ?c5 ?c2 ?c3 ?c4; (case kA => exact rfl); (case kF => exact rfl); (case kK => exact rfl); (case k2 => k_asm); (case k1 => k_asm); (case k3 => k_asm); (case k4 => k_asm); (case k5 => k_asm); (case k6 => k_is); (case k7 => k_is); (case k8 => k_room); (case k9 => first | exact binds_K (by k_in) rfl (by k_is) rfl rfl rfl | exact BindsTo.of_eq rfl); (case kB => exact locs rfl); (case c5 => decide); (case c2 => exact rfl); (case c3 => exact rfl); (case c4 => exact rfl); k_whole; intro g' L' h' FG' F' N' B' X' T' Qb hQ; (try dsimp only); (try k_lift B'); (try k_fold))
  refine letA ?_
  intro A1
  refine letE ?_
  intro e1
  k_steps
  refine ⟨?_⟩
  refine KTBy.to_little (k := n) hn rfl h0 h1 ?_
  intro b t' k' hb hl
  k_steps
  refine hQ _ _ ?_
  k_steps
  exact post _ [] _ _ (by assumption) (news_sub (by assumption) sub_nil0) Apart.nil ⟨⟨b, t', rfl, hb⟩, rfl⟩
end Mine
end

section
open PySem PySem.W PyProof.Rows
/-- between two texts: the walk forgets the lines of the text before, as a fresh process has none -/
theorem Mine.calm102 : ∀ (prog : Program) (w : World) (A : Around) (env : Env) (E : Value → Shared → Prop) (s : Shared) (Q : Flow → Shared → Prop), Q .next s → wpAny (model prog w) A (execs [] env) Q E s := by
  w_top off
  intro prog w A env E s Q h
  walk1
  exact h
end

section
open PySem PySem.W PyProof.Rows PySem.Calls
set_option Elab.async false
set_option maxRecDepth 100000
set_option maxHeartbeats 4000000
namespace Mine
def recIs (w : World) (x y : Addr) (k : Int) (v : Value) (news : Led) : Prop := ∃ dy u1 u2 u3 u4 u5 t l ov n, (y, instObj 260 dy) ∈ news ∧ (dy, recDict w u1 u2 u3 u4 u5 x (.int k t) v l ov n) ∈ news
def refIs (w : World) (x y : Addr) (k : Int) (b a : Value) (news : Led) : Prop := ∃ dy u1 u2 u3 u4 u5 t l n, (y, instObj 301 dy) ∈ news ∧ (dy, refDict w u1 u2 u3 u4 u5 x l (.int k t) b a n) ∈ news
theorem recIs.elim {w : World} {x y : Addr} {k : Int} {v : Value} {news : Led} {G : Prop} (h : recIs w x y k v news) (c : ∀ dy u1 u2 u3 u4 u5 t l ov n, (y, instObj 260 dy) ∈ news → (dy, recDict w u1 u2 u3 u4 u5 x (.int k t) v l ov n) ∈ news → G) : G := by
  obtain ⟨dy, u1, u2, u3, u4, u5, t, l, ov, n, h1, h2⟩ := h
  exact c dy u1 u2 u3 u4 u5 t l ov n h1 h2
theorem refIs.elim {w : World} {x y : Addr} {k : Int} {b a : Value} {news : Led} {G : Prop} (h : refIs w x y k b a news) (c : ∀ dy u1 u2 u3 u4 u5 t l n, (y, instObj 301 dy) ∈ news → (dy, refDict w u1 u2 u3 u4 u5 x l (.int k t) b a n) ∈ news → G) : G := by
  obtain ⟨dy, u1, u2, u3, u4, u5, t, l, n, h1, h2⟩ := h
  exact c dy u1 u2 u3 u4 u5 t l n h1 h2
end Mine
end

section
open PySem PySem.W PyProof.Rows
/-- between two texts: the walk forgets the lines of the text before, as a fresh process has none -/
theorem Mine.calm104 : ∀ (prog : Program) (w : World) (A : Around) (env : Env) (E : Value → Shared → Prop) (s : Shared) (Q : Flow → Shared → Prop), Q .next s → wpAny (model prog w) A (execs [] env) Q E s := by
  w_top off
  intro prog w A env E s Q h
  walk1
  exact h
end

section
open PySem PySem.W PyProof.Rows PySem.Calls
set_option Elab.async false
set_option maxRecDepth 100000
set_option maxHeartbeats 4000000
namespace Mine
theorem MutSpec.use {w : World} {t : Sem Value} {cost : Nat} {Pre : Led → Prop} {Post : Value → Led → Led → Prop} (S : MutSpec w t cost Pre Post)
    {mean : ExcName → Option Value} {mg mb : Str → Option Value} {dp un : Nat} {gd : Option (List Code)} {cn : Str} {nms : List (Str × NameKind)} {ig ic : Bool} {mo : List (Str × Const)} {a : Addr} {ccd : Value} {cl : List (Str × Addr)} {outer : List Env} {A₀ : Around} {base h₀ : Heap} {L : Addr}
    {m : Str → Option Value} {news : Led} {s : Shared} {hs : Heap} {ks : Nat} {Q E : Value → Shared → Prop}
    (B : Below A₀ base outer h₀) (F : Fr h₀ L hs m) (X : (hd.heap_1 w.params).In h₀) (N : News h₀ L hs news) (T : Top vw lsw mean mg mb h₀) (hd : dp + cost < 400) (hu : un + 8 * cost < 5000) (pre : Pre news)
    (k : ∀ r news' h' tk', Fr h₀ L h' m → News h₀ L h' news' → Post r news news' → Q r { s with heap := h', toks := tk' }) :
    wpAny (model PySem.Challenge.rw_ke0002_01.row.prog w) (ktrTop dp un gd cn ⟨.function, nms, ig, ic, mo⟩ L a ccd cl outer) t Q E { s with heap := hs, toks := ks } :=
  S mean mg mb dp un gd cn nms ig ic mo a ccd cl outer A₀ base h₀ L m news { s with heap := hs, toks := ks } Q E B F X N T hd hu pre k
def All2 {α : Type} (R : Value → α → Prop) : List Value → List α → Prop
  | [], [] => True
  | v :: vs, a :: as => R v a ∧ All2 R vs as
  | _, _ => False
theorem All2.len {α : Type} {R : Value → α → Prop} : ∀ {vs : List Value} {as : List α}, All2 R vs as → vs.length = as.length
  | [], [], _ => rfl
  | _ :: _, _ :: _, h => congrArg (· + 1) (All2.len h.2)
theorem All2.imp {α : Type} {R S : Value → α → Prop} (f : ∀ v a, R v a → S v a) : ∀ {vs : List Value} {as : List α}, All2 R vs as → All2 S vs as
  | [], [], _ => trivial
  | _ :: _, _ :: _, h => ⟨f _ _ h.1, All2.imp f h.2⟩
theorem All2.get {α : Type} {R : Value → α → Prop} : ∀ {vs : List Value} {as : List α} {i : Nat} {v : Value}, All2 R vs as → vs[i]? = some v → ∃ a, as[i]? = some a ∧ R v a
  | _ :: _, _ :: _, 0, _, h, e => by cases e; exact ⟨_, rfl, h.1⟩
  | _ :: _, _ :: _, i + 1, _, h, e => by
    simp only [List.getElem?_cons_succ] at e ⊢
    exact All2.get h.2 e
theorem All2.append {α : Type} {R : Value → α → Prop} : ∀ {vs vs' : List Value} {as as' : List α}, All2 R vs as → All2 R vs' as' → All2 R (vs ++ vs') (as ++ as')
  | [], _, [], _, _, h => h
  | _ :: _, _, _ :: _, _, h, h' => ⟨h.1, All2.append h.2 h'⟩
theorem All2.take {α : Type} {R : Value → α → Prop} : ∀ {vs : List Value} {as : List α} (n : Nat), All2 R vs as → All2 R (vs.take n) (as.take n)
  | [], [], n, _ => by simp [All2]
  | _ :: _, _ :: _, 0, _ => trivial
  | _ :: _, _ :: _, n + 1, h => ⟨h.1, All2.take n h.2⟩
theorem All2.drop {α : Type} {R : Value → α → Prop} : ∀ {vs : List Value} {as : List α} (n : Nat), All2 R vs as → All2 R (vs.drop n) (as.drop n)
  | [], [], n, _ => by simp [All2]
  | _ :: _, _ :: _, 0, h => h
  | _ :: _, _ :: _, n + 1, h => All2.drop n h.2
theorem recIs.keep {w : World} {x y : Addr} {k : Int} {v : Value} {news news' : Led} {a : Addr} {o o' : Obj} {h₀ h : Heap} {L : Addr} (N : News h₀ L h news) (hm : (a, o) ∈ news) (ho : o.cls = .type "list") (c : Chg a o' news news') (r : recIs w x y k v news) : recIs w x y k v news' := by
  refine recIs.elim r ?_
  intro dy u1 u2 u3 u4 u5 t l ov n h1 h2
  refine ⟨dy, u1, u2, u3, u4, u5, t, l, ov, n, c.2 _ h1 ?_, c.2 _ h2 ?_⟩
  · exact (news_ne N h1 hm fun e => by rw [← e] at ho; exact absurd ho (fun q => nomatch q))
  · exact (news_ne N h2 hm fun e => by rw [← e] at ho; exact absurd ho (show ¬Value.type "dict" = Value.type "list" by decide))
end Mine
end

section
open PySem PySem.W PyProof.Rows
/-- between two texts: the walk forgets the lines of the text before, as a fresh process has none -/
theorem Mine.calm106 : ∀ (prog : Program) (w : World) (A : Around) (env : Env) (E : Value → Shared → Prop) (s : Shared) (Q : Flow → Shared → Prop), Q .next s → wpAny (model prog w) A (execs [] env) Q E s := by
  w_top off
  intro prog w A env E s Q h
  walk1
  exact h
end

section
open PySem PySem.W PyProof.Rows PySem.Calls
set_option Elab.async false
set_option linter.unusedSimpArgs false
set_option maxRecDepth 100000
set_option maxHeartbeats 4000000
namespace Mine
local macro_rules | `(tactic| walk_at "MINE spec") => `(tactic| ((case mB | mF | mX | mN | mT => k_asm); (case mhd | mhu => k_units)))
local macro_rules | `(tactic| walk_at "getAttr ref") => `(tactic| (k_here; k_dflt (refine' (conf_one ?h).use0 ?mB ?mF ?mX ?mN ?mT ?mhd ?mhu ?mp ?_; (case h => with_reducible constructor); (walk_at "MINE spec"); (case mp => exact ⟨_, by k_mem, by k_mem⟩); intro h' tk' F' N'; (try k_sweep))))
local macro_rules | `(tactic| walk_at "call ref") => `(tactic| refine' Held.out ?_)
local macro_rules | `(tactic| walk_at "call builtin:int.to_bytes") => `(tactic| refine' Held.out ?_)
local macro_rules | `(tactic| walk_at "call builtin:len") => `(tactic| refine' Held.out ?_)
local macro_rules | `(tactic| walk_at "call type:bytes") => `(tactic| refine' Held.out ?_)
local macro_rules | `(tactic| walk_at "binaryOp Add bytes bytes") => `(tactic| refine' Held.out ?_)
/-- a record with its value, its overflow page and its length -/
def rec1 (w : World) (x y : Addr) (k : Int) (v : Value) (len : Int) (ov : Value) (news : Led) : Prop :=
  ∃ dy u1 u2 u3 u4 u5 t l n, (y, instObj 260 dy) ∈ news ∧ (dy, recDict w u1 u2 u3 u4 u5 x (.int k t) v (.int len l) ov n) ∈ news
theorem rec1.elim {w : World} {x y : Addr} {k : Int} {v : Value} {len : Int} {ov : Value} {news : Led} {G : Prop} (h : rec1 w x y k v len ov news)
    (c : ∀ dy u1 u2 u3 u4 u5 t l n, (y, instObj 260 dy) ∈ news → (dy, recDict w u1 u2 u3 u4 u5 x (.int k t) v (.int len l) ov n) ∈ news → G) : G := by
  obtain ⟨dy, u1, u2, u3, u4, u5, t, l, n, h1, h2⟩ := h
  exact c dy u1 u2 u3 u4 u5 t l n h1 h2
/-- a configuration of the law's -/
structure Cf1 (c : Cf) (pn on kn vn : Nat) : Prop where
  ps : c.ps = (pn : Nat)
  od : c.od = (on : Nat)
  ks : c.ks = (kn : Nat)
  vz : c.vz = (vn : Nat)
  p1 : 48 ≤ pn
  p2 : pn < 88
  o1 : 3 ≤ on
  o2 : on ≤ 8
  k1 : 1 ≤ kn
  k2 : kn ≤ 3
  v2 : vn ≤ 3
theorem rep_ints (n : Nat) : KBw.bInts (Array.replicate n (0 : UInt8)) = List.replicate n 0 := by
  unfold KBw.bInts
  rw [Array.toList_replicate, List.map_replicate]
  rfl
/-- what a record's value and overflow page write -/
inductive ValD (vn : Nat) : Value → Value → List Int → Int → Prop
  | v (b0 : Array UInt8) (t0 : Tok) (h : b0.size ≤ vn) : ValD vn (.bytes b0 t0) .none (KBw.bInts b0) 0
  | o (o : Int) (to : Tok) (h1 : 0 < o) (h2 : o < 256 ^ 4) : ValD vn .none (.int o to) [] o
theorem ValD.len {vn : Nat} {v ov : Value} {vb : List Int} {o : Int} (h : ValD vn v ov vb o) : vb.length ≤ vn ∧ 0 ≤ o ∧ o < 256 ^ 4 := by
  cases h with
  | v b0 t0 h => exact ⟨by rw [KBw.ints_length]; exact h, by decide, by decide⟩
  | o o to h1 h2 => exact ⟨Nat.zero_le _, Int.le_of_lt h1, h2⟩
/-- octets with their numbers, not too many -/
structure Bd (b : Array UInt8) (ks : List Int) (n : Nat) : Prop where
  is : KBw.bInts b = ks
  le : ks.length ≤ n
section
variable {p : Program} {w : World} {A : Around} {s : Shared} {E : Value → Shared → Prop}
theorem add_S {b c : Array UInt8} {t u : Tok} {ks ls : List Int} {n q : Nat} {Q : Value → Shared → Prop} (hb : Bd b ks n) (hc : Bd c ls q) (hl : n + q ≤ 16777216)
    (h : ∀ t' k, Bd (b ++ c) (ks ++ ls) (n + q) → Q (.bytes (b ++ c) t') { s with toks := k }) : wpAny (model p w) A (binaryOp .Add (.bytes b t) (.bytes c u)) Q E s :=
  have e : ks.length + ls.length ≤ n + q := Nat.add_le_add hb.le hc.le
  KBa.add_K hb.is hc.is (Nat.le_trans e hl) fun t' k h' => h t' k ⟨h', by rw [List.length_append]; exact e⟩
theorem little_S {k : Nat} {B x : Int} {t u v : Tok} {Q : Value → Shared → Prop} (hk : k ≤ 8) (hB : (256 : Int) ^ k = B) (h0 : 0 ≤ x) (h1 : x < B)
    (h : ∀ b t' k', Bd b (KTBy.little k x) k → Q (.bytes b t') { s with toks := k' }) : wpAny (model p w) A (call (.builtin "int.to_bytes") [.int x t, .int (k : Int) u, .str (PySem.Str.ofString "little") v]) Q E s :=
  KTBy.to_little hk hB h0 h1 fun b t' k' e l => h b t' k' ⟨e, Nat.le_of_eq l⟩
theorem zeros_S {i : Int} {n N : Nat} {u : Tok} {Q : Value → Shared → Prop} (hi : i = n) (hn : n ≤ N) (hN : N ≤ 1000) (h : ∀ b t k, Bd b (List.replicate n 0) N → Q (.bytes b t) { s with toks := k }) : wpAny (model p w) A (call (.type "bytes") [.int i u]) Q E s := by
  subst hi
  exact ba_bytes_int (Int.natCast_nonneg n) (Int.ofNat_le.mpr (Nat.le_trans hn hN)) fun t k => h _ t k ⟨rep_ints _, by rw [List.length_replicate]; exact hn⟩
end
theorem rec_dump (w : World) (x y : Addr) (c : Cf) (pn on kn vn : Nat) (k : Int) (len : Int) (v ov : Value) (vb : List Int) (o : Int) (C : Cf1 c pn on kn vn) (h0 : 0 ≤ k) (h1 : k < 256 ^ kn) (D : ValD vn v ov vb o) :
    TreeSpec w (call (.ref 250) [.ref y]) 20 (fun news => rec1 w x y k v len ov news ∧ confIs x c.vals news ∧ serIs c.ser news)
    (fun r _ tl => ∃ b t, r = .bytes b t ∧ KBw.bInts b = KTBy.little 2 kn ++ KTBy.little kn k ++ KTBy.little 2 vb.length ++ vb ++ List.replicate (vn - vb.length) 0 ++ KTBy.little 4 o) := by
  unfold TreeSpec
  k_fill
  intro mean mg mb dp un gd cn nms ig ic mo a ccd cl outer A₀ base h₀ L m news s Q E B F X N T hdp hun pre0 post
  obtain ⟨hr, ⟨dc, hc1, hc2⟩, hs⟩ := pre0
  have hk2 := C.k2
  have hv2 := C.v2
  obtain ⟨hvl, ho0, ho1⟩ := D.len
  refine rec1.elim hr ?_
  intro dy u1 u2 u3 u4 u5 t l n hm hm'
  obtain ⟨ds, hs1, hs2⟩ := id hs
  refine wpAny_call ?_
  k_dflt (refine' code_own ?k1 ?k2 ?k3 ?k4 ?k5 ?kA ?kF ?kK ?k6 ?k7 ?k8 ?k9 ?kB ?_ ?c5 ?c2 ?c3 ?c4; (case kA => exact rfl); (case kF => exact rfl); (case kK => exact rfl); (case k2 => k_asm); (case k1 => k_asm); (case k3 => k_asm); (case k4 => k_asm); (case k5 => k_asm); (case k6 => k_is); (case k7 => k_is); (case k8 => k_room); (case k9 => first | exact binds_K (by k_in) rfl (by k_is) rfl rfl rfl | exact BindsTo.of_eq rfl); (case kB => exact locs rfl); (case c5 => decide); (case c2 => exact rfl); (case c3 => exact rfl); (case c4 => exact rfl); k_whole; intro g' L' h' FG' F' N' B' X' T' Qb hQ; (try dsimp only); (try k_lift B'); (try k_fold))
  refine letA ?_
  intro A1
  refine letE ?_
  intro e1
  refine cutn (fun X => ∀ h tk m, (Fr g' L' h m) → (News g' L' h news) → (m "self" = some (.ref y)) → X h tk) (l1 := [_]) (l2 := _) rfl ?zas ?zr1
  case zas =>
    intro Qb hQb
    cases D
    all_goals k_steps
    all_goals exact hQb _ _ _ (by assumption) (by assumption) rfl
  case zr1 =>
  clear F' N'
  intro hx1 tk1 m1 F1 N1 b1
  refine cutn (fun X => ∀ h tk m kb kt t9, (Fr g' L' h m) → (News g' L' h news) → (m "self" = some (.ref y)) → (m "key_as_bytes" = some (.bytes kb kt)) → (m "used_key_length" = some (.int kn t9)) → (Bd kb (KTBy.little kn k) 3) → X h tk) (l1 := [_, _]) (l2 := _) rfl ?zser ?zr2
  case zser =>
    intro Qb hQb
    k_steps
    refine ⟨?_⟩
    rw [C.ks]
    refine' TreeSpec.use (serialize w c.ser k kn t c.t3 (by omega) h0 h1) ?mB ?mF ?mX ?mN ?mT ?mhd ?mhu ?mp ?_
    (case mB => k_asm); (case mF => k_asm); (case mX => k_asm); (case mN => k_asm); (case mT => k_asm); (case mhd => first | exact room2 (by assumption) (by rfl) | exact room1 (by assumption) (by rfl) | exact room3 (by assumption) (by rfl) | exact room4 (by assumption) (by rfl) | decide); (case mhu => first | exact room2 (by assumption) (by rfl) | exact room1 (by assumption) (by rfl) | exact room3 (by assumption) (by rfl) | exact room4 (by assumption) (by rfl) | decide)
    case mp => trivial
    intro r1 tl1 h2 tk1 F1 N1 ap1 hp1
    obtain ⟨⟨kb, kt, e1', hkb⟩, e2'⟩ := hp1
    subst e1' e2'
    replace N1 := news_sub N1 sub_nil0
    k_steps
    refine ⟨?_⟩
    refine KBw.len_K hkb (by rw [KTBy.little_length]; omega) ?_
    rw [KTBy.little_length]
    k_steps
    exact hQb _ _ _ _ _ _ (by assumption) (by assumption) (by exact b1) rfl rfl ⟨hkb, by rw [KTBy.little_length]; exact hk2⟩
  case zr2 =>
  clear F1 N1
  intro h2 tk2 m2 kb kt t9 F2 N2 b2 b3 b4 hkb
  refine cutn (fun X => ∀ h tk m v1 v2 to, (Fr g' L' h m) → (News g' L' h news) → (m "self" = some (.ref y)) → (m "key_as_bytes" = some (.bytes kb kt)) → (m "used_key_length" = some (.int kn t9)) → (m "value" = some (.bytes v1 v2)) → (m "overflow_page" = some (.int o to)) → (Bd v1 vb 3) → X h tk) (l1 := [_, _]) (l2 := _) rfl ?zov ?zr3
  case zov =>
    intro Qb hQb
    cases D with
    | v b0 t0 hz =>
      k_steps
      exact hQb _ _ _ _ _ _ (by assumption) (by assumption) (by exact b2) (by exact b3) (by exact b4) rfl rfl ⟨rfl, Nat.le_trans hvl hv2⟩
    | o o to hp hl =>
      have ho1 : (o != 0) = true := by rw [bne_iff_ne]; exact Ne.symm (Int.ne_of_lt hp)
      k_steps
      exact hQb _ _ _ _ _ _ (by assumption) (by assumption) (by exact b2) (by exact b3) (by exact b4) rfl rfl ⟨rfl, Nat.zero_le _⟩
  case zr3 =>
  clear F2 N2 b2 b3 b4
  intro h3 tk3 m3 v1 v2 to F3 N3 b2 b3 b4 b5 b6 hv1
  k_steps
  refine ⟨?_⟩
  refine KBw.len_K hv1.is (Nat.le_trans hv1.le (by decide)) ?_
  k_steps
  refine ⟨?_⟩
  with_unfolding_all refine little_S (k := 2) (B := 65536) (by decide) (by decide) (Int.natCast_nonneg _) (by omega) ?_
  intro pb pbt pbk hpb
  k_steps
  refine ⟨?_⟩
  refine add_S hpb hkb (by decide) ?_
  intro q1t q1k hq1
  k_steps
  refine ⟨?_⟩
  rw [C.ks]
  refine zeros_S (n := 0) (N := 0) (Int.sub_self _) (by decide) (by decide) ?_
  intro z1 z1t z1k hz1
  k_steps
  refine ⟨?_⟩
  refine add_S hq1 hz1 (by decide) ?_
  intro q2t q2k hq2
  k_steps
  refine ⟨?_⟩
  with_unfolding_all refine little_S (k := 2) (B := 65536) (by decide) (by decide) (Int.natCast_nonneg _) (Int.ofNat_lt.mpr (Nat.lt_of_le_of_lt hv1.le (by decide))) ?_
  intro pc pct pck hpc
  k_steps
  refine ⟨?_⟩
  refine add_S hq2 hpc (by decide) ?_
  intro q3t q3k hq3
  k_steps
  refine ⟨?_⟩
  refine add_S hq3 hv1 (by decide) ?_
  intro q4t q4k hq4
  k_steps
  refine ⟨?_⟩
  rw [C.vz]
  refine zeros_S (n := vn - vb.length) (N := 3) (Int.ofNat_sub hvl).symm (Nat.le_trans (Nat.sub_le _ _) hv2) (by decide) ?_
  intro z2 z2t z2k hz2
  k_steps
  refine ⟨?_⟩
  refine add_S hq4 hz2 (by decide) ?_
  intro q5t q5k hq5
  k_steps
  refine ⟨?_⟩
  with_unfolding_all refine little_S (k := 4) (B := 4294967296) (by decide) (by decide) ho0 ho1 ?_
  intro pd pdt pdk hpd
  k_steps
  refine ⟨?_⟩
  refine add_S hq5 hpd (by decide) ?_
  intro q6t q6k hq6
  k_steps
  refine hQ _ _ ?_
  k_steps
  refine post _ [] _ _ (by assumption) (news_sub (by assumption) sub_nil0) Apart.nil ⟨_, _, rfl, hq6.is.trans ?_⟩
  rw [List.replicate_zero, List.append_nil]
end Mine
end

section
open PySem PySem.W PyProof.Rows
/-- between two texts: the walk forgets the lines of the text before, as a fresh process has none -/
theorem Mine.calm108 : ∀ (prog : Program) (w : World) (A : Around) (env : Env) (E : Value → Shared → Prop) (s : Shared) (Q : Flow → Shared → Prop), Q .next s → wpAny (model prog w) A (execs [] env) Q E s := by
  w_top off
  intro prog w A env E s Q h
  walk1
  exact h
end

section
open PySem PySem.W PyProof.Rows PySem.Calls
set_option Elab.async false
set_option linter.unusedSimpArgs false
set_option maxRecDepth 100000
set_option maxHeartbeats 4000000
namespace Mine
local macro_rules | `(tactic| walk_at "MINE spec") => `(tactic| ((case mB | mF | mX | mN | mT => k_asm); (case mhd | mhu => k_units)))
local macro_rules | `(tactic| walk_at "getAttr ref") => `(tactic| (k_here; k_dflt (refine' (conf_one ?h).use0 ?mB ?mF ?mX ?mN ?mT ?mhd ?mhu ?mp ?_; (case h => with_reducible constructor); (walk_at "MINE spec"); (case mp => exact ⟨_, by k_mem, by k_mem⟩); intro h' tk' F' N'; (try k_sweep))))
local macro_rules | `(tactic| walk_at "call ref") => `(tactic| refine' Held.out ?_)
local macro_rules | `(tactic| walk_at "call builtin:int.to_bytes") => `(tactic| refine' Held.out ?_)
local macro_rules | `(tactic| walk_at "call builtin:len") => `(tactic| refine' Held.out ?_)
local macro_rules | `(tactic| walk_at "call type:bytes") => `(tactic| refine' Held.out ?_)
local macro_rules | `(tactic| walk_at "binaryOp Add bytes bytes") => `(tactic| refine' Held.out ?_)
theorem ref_dump (w : World) (x y : Addr) (c : Cf) (pn on kn vn : Nat) (k b a' : Int) (tb ta : Tok) (C : Cf1 c pn on kn vn) (h0 : 0 ≤ k) (h1 : k < 256 ^ kn) (hb0 : 0 ≤ b) (hb1 : b < 256 ^ 4) (ha0 : 0 ≤ a') (ha1 : a' < 256 ^ 4) :
    TreeSpec w (call (.ref 291) [.ref y]) 20 (fun news => refIs w x y k (.int b tb) (.int a' ta) news ∧ confIs x c.vals news ∧ serIs c.ser news)
    (fun r _ tl => ∃ b' t, r = .bytes b' t ∧ KBw.bInts b' = KTBy.little 4 b ++ KTBy.little 2 kn ++ KTBy.little kn k ++ KTBy.little 4 a') := by
  unfold TreeSpec
  k_fill
  intro mean mg mb dp un gd cn nms ig ic mo a ccd cl outer A₀ base h₀ L m news s Q E B F X N T hdp hun pre0 post
  obtain ⟨hr, ⟨dc, hc1, hc2⟩, hs⟩ := pre0
  have hk2 := C.k2
  have hv2 := C.v2
  refine refIs.elim hr ?_
  intro dy u1 u2 u3 u4 u5 t l n hm hm'
  obtain ⟨ds, hs1, hs2⟩ := id hs
  refine wpAny_call ?_
  k_dflt (refine' code_own ?k1 ?k2 ?k3 ?k4 ?k5 ?kA ?kF ?kK ?k6 ?k7 ?k8 ?k9 ?kB ?_ ?c5 ?c2 ?c3 ?c4; (case kA => exact rfl); (case kF => exact rfl); (case kK => exact rfl); (case k2 => k_asm); (case k1 => k_asm); (case k3 => k_asm); (case k4 => k_asm); (case k5 => k_asm); (case k6 => k_is); (case k7 => k_is); (case k8 => k_room); (case k9 => first | exact binds_K (by k_in) rfl (by k_is) rfl rfl rfl | exact BindsTo.of_eq rfl); (case kB => exact locs rfl); (case c5 => decide); (case c2 => exact rfl); (case c3 => exact rfl); (case c4 => exact rfl); k_whole; intro g' L' h' FG' F' N' B' X' T' Qb hQ; (try dsimp only); (try k_lift B'); (try k_fold))
  refine letA ?_
  intro A1
  refine letE ?_
  intro e1
  k_steps
  refine ⟨?_⟩
  rw [C.ks]
  refine' TreeSpec.use (serialize w c.ser k kn t c.t3 (by omega) h0 h1) ?mB ?mF ?mX ?mN ?mT ?mhd ?mhu ?mp ?_
  case mB => k_asm
  case mF => k_asm
  case mX => k_asm
  case mN => k_asm
  case mT => k_asm
  case mhd => first | exact room2 (by assumption) (by rfl) | exact room1 (by assumption) (by rfl) | exact room3 (by assumption) (by rfl) | exact room4 (by assumption) (by rfl) | decide
  case mhu => first | exact room2 (by assumption) (by rfl) | exact room1 (by assumption) (by rfl) | exact room3 (by assumption) (by rfl) | exact room4 (by assumption) (by rfl) | decide
  case mp => trivial
  intro r1 tl1 h2 tk1 F1 N1 ap1 hp1
  obtain ⟨⟨kb, kt, e1', hkb⟩, e2'⟩ := hp1
  subst e1' e2'
  replace N1 := news_sub N1 sub_nil0
  k_steps
  refine ⟨?_⟩
  refine KBw.len_K hkb (by rw [KTBy.little_length]; omega) ?_
  rw [KTBy.little_length]
  k_steps
  refine ⟨?_⟩
  with_unfolding_all refine KTBy.to_little (k := 4) (B := 4294967296) (by decide) (by decide) (by omega) (by omega) ?_
  intro pa pat pak hpa _
  k_steps
  refine ⟨?_⟩
  with_unfolding_all refine KTBy.to_little (k := 2) (B := 65536) (by decide) (by decide) (by omega) (by omega) ?_
  intro pb pbt pbk hpb _
  k_steps
  refine ⟨?_⟩
  refine KBa.add_K hpa hpb (by simp only [List.length_append, KTBy.little_length, List.length_replicate, KBw.ints_length, List.length_nil]; omega) ?_
  intro q1t q1k hq1
  k_steps
  refine ⟨?_⟩
  refine KBa.add_K hq1 hkb (by simp only [List.length_append, KTBy.little_length, List.length_replicate, KBw.ints_length, List.length_nil]; omega) ?_
  intro q2t q2k hq2
  k_steps
  refine ⟨?_⟩
  rw [C.ks]
  refine ba_bytes_int (by omega) (by omega) ?_
  intro z1t z1k
  k_steps
  refine ⟨?_⟩
  refine KBa.add_K hq2 (rep_ints _) (by simp only [List.length_append, KTBy.little_length, List.length_replicate, KBw.ints_length, List.length_nil]; omega) ?_
  intro q3t q3k hq3
  k_steps
  refine ⟨?_⟩
  with_unfolding_all refine KTBy.to_little (k := 4) (B := 4294967296) (by decide) (by decide) (by omega) (by omega) ?_
  intro pd pdt pdk hpd _
  k_steps
  refine ⟨?_⟩
  refine KBa.add_K hq3 hpd (by simp only [List.length_append, KTBy.little_length, List.length_replicate, KBw.ints_length, List.length_nil]; omega) ?_
  intro q4t q4k hq4
  k_steps
  refine hQ _ _ ?_
  k_steps
  refine post _ [] _ _ (by assumption) (news_sub (by assumption) sub_nil0) Apart.nil ⟨_, _, rfl, hq4.trans ?_⟩
  rw [show ((kn : Int) - kn).toNat = 0 by omega, List.replicate_zero, List.append_nil]
end Mine
end

section
open PySem PySem.W PyProof.Rows
/-- between two texts: the walk forgets the lines of the text before, as a fresh process has none -/
theorem Mine.calm110 : ∀ (prog : Program) (w : World) (A : Around) (env : Env) (E : Value → Shared → Prop) (s : Shared) (Q : Flow → Shared → Prop), Q .next s → wpAny (model prog w) A (execs [] env) Q E s := by
  w_top off
  intro prog w A env E s Q h
  walk1
  exact h
end

section
open PySem PySem.W PyProof.Rows PySem.Calls
set_option Elab.async false
set_option linter.unusedSimpArgs false
set_option maxRecDepth 100000
set_option maxHeartbeats 4000000
namespace Mine
local macro_rules | `(tactic| k_is) => `(tactic| (rename OneOf _ _ => q9; first | (clear q9; k_is) | (with_reducible first | apply q9.find4 | apply q9.over4 | apply q9.taker4 | apply q9.dict4 | apply q9.plain4 | apply q9.find2 | apply q9.over2 | apply q9.taker2 | apply q9.dict2 | apply q9.plain2 | apply q9.mro2) <;> k_is))
local macro_rules | `(tactic| walk_at "MINE spec") => `(tactic| ((case mB | mF | mX | mN | mT => k_asm); (case mhd | mhu => k_units)))
local macro_rules | `(tactic| walk_at "getAttr ref") => `(tactic| (k_here; k_dflt (refine' (conf_one ?h).use0 ?mB ?mF ?mX ?mN ?mT ?mhd ?mhu ?mp ?_; (case h => with_reducible constructor); (walk_at "MINE spec"); (case mp => exact ⟨_, by k_mem, by k_mem⟩); intro h' tk' F' N'; (try k_sweep))))
local macro_rules | `(tactic| walk_at "call ref") => `(tactic| refine' Held.out ?_)
local macro_rules | `(tactic| walk_at "call builtin:int.to_bytes") => `(tactic| refine' Held.out ?_)
local macro_rules | `(tactic| walk_at "call builtin:len") => `(tactic| refine' Held.out ?_)
local macro_rules | `(tactic| walk_at "call type:bytes") => `(tactic| refine' Held.out ?_)
local macro_rules | `(tactic| walk_at "binaryOp Add bytes bytes") => `(tactic| refine' Held.out ?_)
local macro_rules | `(tactic| walk_at "getMethod ref") => `(tactic| ((with_reducible rename HoldM => hM); refine' Held.out ?_))
local macro_rules | `(tactic| walk_at "binaryOp Add ref ref") => `(tactic| refine' Held.out ?_)
/-- the tree t over calm stacks, at any frame of the text's own: it may change the ledger; where Ok holds it ends as Post says, else it raises an AssertionError -/
def SSpec (w : World) (t : Sem Value) (cost : Nat) (Pre : Led → Prop) (Ok : Prop) (Post : Value → Led → Led → Prop) : Prop :=
  ∀ (mean : ExcName → Option Value) (mg mb : Str → Option Value) (dp un : Nat) (gd : Option (List Code)) (cn : Str) (nms : List (Str × NameKind)) (ig ic : Bool) (mo : List (Str × Const)) (a : Addr) (ccd : Value) (cl : List (Str × Addr)) (outer : List Env) (A₀ : Around) (base h₀ : Heap) (L : Addr)
    (m : Str → Option Value) (news : Led) (s : Shared) (Q E : Value → Shared → Prop),
    Below A₀ base outer h₀ → Fr h₀ L s.heap m → (hd.heap_1 w.params).In h₀ → News h₀ L s.heap news → Top vw lsw mean mg mb h₀ → dp + cost < 400 → un + 8 * cost < 5000 → Pre news →
    (∀ r news' h' tk', Ok → Fr h₀ L h' m → News h₀ L h' news' → Post r news news' → Q r { s with heap := h', toks := tk' }) →
    (∀ g e led h' tk', ¬ Ok → Fr h₀ L g m → RaisedSN base g (envX cn ⟨.function, nms, ig, ic, mo⟩ L a ccd cl :: outer) e (.type "AssertionError") led h' → g.UpToSlots h' → (∀ q ∈ news, q ∈ led) → E (.ref e) { s with heap := h', toks := tk' }) →
    wpS (model PySem.Challenge.rw_ke0002_01.row.prog w) (ktrTop dp un gd cn ⟨.function, nms, ig, ic, mo⟩ L a ccd cl outer) t Q E s
theorem flatten_le {α : Type} {k : Nat} : ∀ {l : List (List α)}, (∀ o ∈ l, o.length ≤ k) → l.flatten.length ≤ k * l.length
  | [], _ => Nat.zero_le _
  | o :: l, h => by
    rw [List.flatten_cons, List.length_append, List.length_cons, Nat.mul_succ, Nat.add_comm o.length]
    exact Nat.add_le_add (flatten_le (l := l) fun o ho => h o (.tail _ ho)) (h o (.head _))
theorem pad_nat {p q : Nat} (h : q ≤ p) : ((p : Int) - (q : Int)).toNat = p - q := by rw [← Int.ofNat_sub h, Int.toNat_natCast]
theorem letSA {α : Type} {M : Model} {A : Around} {t : Sem α} {Q : α → Shared → Prop} {E : Value → Shared → Prop} {s : Shared} : (let A1 := A; wpS M A1 t Q E s) → wpS M A t Q E s := id
theorem letSE {M : Model} {A : Around} {env : Env} {body : List Stmt} {Q : Flow → Shared → Prop} {E : Value → Shared → Prop} {s : Shared} : (let e1 := env; wpS M A (execs body e1) Q E s) → wpS M A (execs body env) Q E s := id
/-- an entry and the octets that it is written as -/
inductive EntIs (w : World) (x : Addr) (kn vn : Nat) (news : Led) : Addr → Addr → List Int → Prop
  | rc {a : Addr} {k len : Int} {v ov : Value} {vb : List Int} {o : Int} (h : rec1 w x a k v len ov news) (h0 : 0 ≤ k) (h1 : k < 256 ^ kn) (hz : ValD vn v ov vb o) :
    EntIs w x kn vn news 260 a (KTBy.little 2 kn ++ KTBy.little kn k ++ KTBy.little 2 vb.length ++ vb ++ List.replicate (vn - vb.length) 0 ++ KTBy.little 4 o)
  | rf {a : Addr} {k b c : Int} {t1 t2 : Tok} (h : refIs w x a k (.int b t1) (.int c t2) news) (h0 : 0 ≤ k) (h1 : k < 256 ^ kn) (h2 : 0 ≤ b) (h3 : b < 256 ^ 4) (h4 : 0 ≤ c) (h5 : c < 256 ^ 4) :
    EntIs w x kn vn news 301 a (KTBy.little 4 b ++ KTBy.little 2 kn ++ KTBy.little kn k ++ KTBy.little 4 c)
theorem rec1.sub {w : World} {x y : Addr} {k : Int} {v : Value} {len : Int} {ov : Value} {news news' : Led} (h : rec1 w x y k v len ov news) (k' : ∀ q ∈ news, q ∈ news') : rec1 w x y k v len ov news' := by
  obtain ⟨dy, u1, u2, u3, u4, u5, t, l, n, h1, h2⟩ := h
  exact ⟨dy, u1, u2, u3, u4, u5, t, l, n, k' _ h1, k' _ h2⟩
theorem refIs.sub {w : World} {x y : Addr} {k : Int} {b a : Value} {news news' : Led} (h : refIs w x y k b a news) (k' : ∀ q ∈ news, q ∈ news') : refIs w x y k b a news' := by
  obtain ⟨dy, u1, u2, u3, u4, u5, t, l, n, h1, h2⟩ := h
  exact ⟨dy, u1, u2, u3, u4, u5, t, l, n, k' _ h1, k' _ h2⟩
theorem confIs.sub {x : Addr} {v : List Value} {news news' : Led} (h : confIs x v news) (k' : ∀ q ∈ news, q ∈ news') : confIs x v news' := by
  obtain ⟨dc, h1, h2⟩ := h
  exact ⟨dc, k' _ h1, k' _ h2⟩
/-- the loop of Node.dump after i entries -/
inductive DumpAt (y a : Addr) (octs : List (List Int)) (news0 : Led) : Nat → (Str → Option Value) → Led → Prop
  | mk {i : Nat} {m : Str → Option Value} (b : Array UInt8) (h1 : m "self" = some (.ref y)) (h2 : m "data" = some (.ref a)) (hb : KBw.bInts b = (octs.take i).flatten) : DumpAt y a octs news0 i m ((a, baObj b) :: news0)
theorem node_dump (w : World) (C y le x : Addr) (c : Cf) (pn on kn vn : Nat) (kd : Int) (t1 : Tok) (mn mx : Value) (ec EC : Addr) (page par nx : Value) (nxt : Int) (vs : List Value) (octs : List (List Int)) (n : Nat) (hC : OneOf anyNode C) (hc : Cf1 c pn on kn vn)
    (hkd : 0 ≤ kd ∧ kd < 256) (hnx : (nx = .none ∧ nxt = 0) ∨ ∃ t, nx = .int nxt t) (hnx0 : 0 ≤ nxt ∧ nxt < 256 ^ 4) (hl : vs.length ≤ 8) (hol : ∀ o ∈ octs, o.length ≤ 20) :
    SSpec w (call (.ref 332) [.ref y]) 40
    (fun news => nodeIs w C y le x (.int kd t1) mn mx ec page par nx news ∧ (le, lst vs n) ∈ news ∧ confIs x c.vals news ∧ serIs c.ser news ∧ All2 (fun v o => ∃ a, v = .ref a ∧ EntIs w x kn vn news EC a o) vs octs)
    (octs.flatten.length + 8 ≤ pn) (fun r news news' => ∃ a b, r = .ref a ∧ (a, baObj b) ∈ news' ∧ KBw.bInts b = KTBy.little 1 kd ++ KTBy.little 3 (octs.flatten.length + 4) ++ KTBy.little 4 nxt ++ octs.flatten ++ List.replicate (pn - (octs.flatten.length + 8)) 0 ∧ ∀ q ∈ news, q ∈ news') := by
  unfold SSpec
  k_fill
  intro mean mg mb dp un gd cn nms ig ic mo a ccd cl outer A₀ base h₀ L m news s Q E B F X N T hdp hun pre0 post bad
  obtain ⟨hnode, hle, hcf, hser, hents⟩ := pre0
  refine nodeIs.elim hnode ?_
  intro dy u1 u2 u3 u4 u5 u6 u7 u8 u9 n9 hm hm'
  have hfl : octs.flatten.length ≤ 160 := by
    refine Nat.le_trans (flatten_le hol) ?_
    rw [← hents.len]
    exact Nat.mul_le_mul_left 20 hl
  refine wpS_call ?_
  k_dflt (refine' codeS_ownX ?k1 ?k2 ?k3 ?k4 ?k5 ?kA ?kF ?kK ?k6 ?k7 ?k8 ?k9 ?kB ?_ ?c5 ?c2 ?c3 ?c4; (case kA => exact rfl); (case kF => exact rfl); (case kK => exact rfl); (case k2 => k_asm); (case k1 => k_asm); (case k3 => k_asm); (case k4 => k_asm); (case k5 => k_asm); (case k6 => k_is); (case k7 => k_is); (case k8 => k_room); (case k9 => first | exact binds_K (by k_in) rfl (by k_is) rfl rfl rfl | exact BindsTo.of_eq rfl); (case kB => exact locs rfl); (case c5 => decide); (case c2 => exact rfl); (case c3 => exact rfl); (case c4 => exact rfl); k_whole; intro g' L' h' FG' F' N' B' X' T' Qb Eb hQ hE; (try dsimp only))
  refine letSA ?_
  intro A1
  refine letSE ?_
  intro e1
  refine cutSS (fun X => ∀ h tk m a, (Fr g' L' h m) → (News g' L' h ((a, baObj #[]) :: news)) → (∀ q ∈ news, q.1 < a) → (m "self" = some (.ref y)) → (m "data" = some (.ref a)) → X h tk) ?mk ?rest1
  case mk =>
    intro Qb hQ
    refine wpS_Assign_Name (wpS_Call_Name ?_)
    k_steps
    refine callWithS_type rfl (evalArgsS0 ?_)
    refine ba_mk0 (by assumption) (by assumption) ?_
    intro a h1 k1 F1 N1 l1
    k_steps
    exact hQ _ _ _ a (by assumption) (by assumption) l1 rfl rfl
  case rest1 =>
    clear F' N'
    intro h tk m1 a F1 N1 la hms hmd
    refine cutSS (fun X => ∀ h tk m b, (Fr g' L' h m) → (News g' L' h ((a, baObj b) :: news)) → (m "self" = some (.ref y)) → (m "data" = some (.ref a)) → (KBw.bInts b = octs.flatten) → X h tk) ?loop ?rest2
    case loop =>
      intro Qb hQ
      refine For_S rfl rfl ?_
      k_steps
      refine LoopS.mk le vs n (fun g => g = g') g' m1 ((a, baObj #[]) :: news) (DumpAt y a octs news) rfl rfl F1 N1 (fun i m nw q => by cases q; exact .tail _ hle) (DumpAt.mk #[] hms hmd rfl) ?turn ?done
      case done =>
        intro m2 nw2 h₀2 h2 tk2 e2 q F2 N2
        subst e2
        cases q with
        | mk b q1 q2 q3 => exact hQ _ _ _ b F2 N2 q1 q2 (q3.trans (by rw [hents.len, List.take_length]))
      case turn =>
        intro i v m2 nw2 h₀2 h2 tk2 I oI hoI hv e2 q off F2 N2 Qt hT
        subst e2
        cases q with
        | mk b q1 q2 q3 =>
        dsimp only
        obtain ⟨ol, ho, av, rfl, ent⟩ := hents.get hv
        have hM : HoldM := {}
        refine wpS_execs_cons (wpS_Expr (wpS_Call_method (id := "bytearray.extend") rfl rfl rfl ?_))
        k_steps
        refine ⟨?_⟩
        refine ba_getMethod (N2 _ (.tail _ (.head _))).1 ⟨rfl, ?_⟩
        rename HoldM => hM
        clear hM
        refine callWithS_builtin rfl (evalArgsS1 (wpS_of (cutG (fun X => ∀ h tk bb tt, (Fr h₀2 L' h (fun y => if y = "record" then some (.ref av) else m2 y)) → (News h₀2 L' h ((I, oI) :: (a, baObj b) :: news)) → (KBw.bInts bb = ol) → X (.bytes bb tt) h tk) ?dump ?ext)))
        case dump =>
          intro Qd hQd
          show wpAny _ _ (eval _ _) _ _ _
          have sub : ∀ q ∈ news, q ∈ (I, oI) :: (a, baObj b) :: news := fun q hq => .tail _ (.tail _ hq)
          cases ent with
          | @rc _ k len v ov vb o hr k0 k1 hz =>
            refine rec1.elim hr ?_
            intro dz z1 z2 z3 z4 z5 zt zl zn zm zm'
            k_steps
            refine ⟨?_⟩
            refine' TreeSpec.use (rec_dump w x _ c pn on kn vn k len v ov vb o hc k0 k1 hz) ?mB ?mF ?mX ?mN ?mT ?mhd ?mhu ?mp ?_
            (case mB => k_asm); (case mF => k_asm); (case mX => k_asm); (case mN => k_asm); (case mT => k_asm); (case mhd => first | exact room2 (by assumption) (by rfl) | exact room1 (by assumption) (by rfl) | exact room3 (by assumption) (by rfl) | exact room4 (by assumption) (by rfl) | decide); (case mhu => first | exact room2 (by assumption) (by rfl) | exact room1 (by assumption) (by rfl) | exact room3 (by assumption) (by rfl) | exact room4 (by assumption) (by rfl) | decide)
            case mp => exact ⟨hr.sub sub, hcf.sub sub, hser.sub sub⟩
            intro r1 tl1 h3 tk3 F3 N3 ap3 hp3
            obtain ⟨bb, tt, rfl, hbb⟩ := hp3
            k_steps
            exact hQd _ _ _ _ F3 (news_sub N3 fun q hq => List.mem_append_right _ hq) hbb
          | @rf _ k eb ec' t1 t2 hr k0 k1 h2 h3 h4 h5 =>
            refine refIs.elim hr ?_
            intro dz z1 z2 z3 z4 z5 zt zl zn zm zm'
            k_steps
            refine ⟨?_⟩
            refine' TreeSpec.use (ref_dump w x _ c pn on kn vn k eb ec' t1 t2 hc k0 k1 h2 h3 h4 h5) ?mB ?mF ?mX ?mN ?mT ?mhd ?mhu ?mp ?_
            (case mB => k_asm); (case mF => k_asm); (case mX => k_asm); (case mN => k_asm); (case mT => k_asm); (case mhd => first | exact room2 (by assumption) (by rfl) | exact room1 (by assumption) (by rfl) | exact room3 (by assumption) (by rfl) | exact room4 (by assumption) (by rfl) | decide); (case mhu => first | exact room2 (by assumption) (by rfl) | exact room1 (by assumption) (by rfl) | exact room3 (by assumption) (by rfl) | exact room4 (by assumption) (by rfl) | decide)
            case mp => exact ⟨hr.sub sub, hcf.sub sub, hser.sub sub⟩
            intro r1 tl1 h3 tk3 F3 N3 ap3 hp3
            obtain ⟨bb, tt, rfl, hbb⟩ := hp3
            k_steps
            exact hQd _ _ _ _ F3 (news_sub N3 fun q hq => List.mem_append_right _ hq) hbb
        case ext =>
          intro h tk bb tt F3 N3 hbb
          refine ba_extendL F3 N3 (.tail _ (.head _)) (Nat.le_trans (Nat.add_le_add (Nat.le_trans (Nat.le_of_eq (bInts_size q3)) (Nat.le_trans (take_flatten_le octs i) hfl)) (Nat.le_trans (Nat.le_of_eq (bInts_size hbb)) (hol ol (List.mem_of_getElem? ho)))) (by decide)) ?_
          intro h4 F4 N4
          refine ⟨rfl, wpS_of (wpAny_execs_nil ?_)⟩
          refine hT .next _ _ _ _ _ (.inl rfl) rfl F4 (news_sub N4 fun q hq => ?_) ?_ (DumpAt.mk (b ++ bb) q1 q2 ?_)
          · rcases List.mem_cons.mp hq with rfl | hq
            · exact .tail _ (rest_mem (.head _) (Ne.symm (off _ (.head _))))
            rcases List.mem_cons.mp hq with rfl | hq
            · exact .head _
            · exact .tail _ (rest_mem (.tail _ (.tail _ hq)) (Nat.ne_of_lt (la q hq)))
          · intro q hq
            rcases List.mem_cons.mp hq with rfl | hq
            · exact off (a, baObj b) (.head _)
            · exact off _ (.tail _ hq)
          · rw [bInts_append, q3, hbb, take_flatten_succ ho]
    case rest2 =>
      intro h tk m2 b F2 N2 hms2 hmd2 hb
      have zb := bInts_size hb
      obtain ⟨dc, hc1, hc2⟩ := id hcf
      generalize hd0 : octs.flatten = dat at *
      have hb160 : b.size ≤ 160 := Nat.le_trans (Nat.le_of_eq zb) hfl
      have hb1000 : b.size ≤ 1000 := Nat.le_trans hb160 (by decide)
      by_cases hb1 : ¬ ((b.size : Int) + 4 < c.ps)
      · have hno : ¬ (dat.length + 8 ≤ pn) := fun h => hb1 (by
          rw [hc.ps, zb]
          exact Int.ofNat_lt.mpr (Nat.lt_of_lt_of_le (Nat.add_lt_add_left (by decide : 4 < 8) dat.length) h))
        refine wpS_of ?_
        k_steps
        refine ⟨?_⟩
        refine ba_call_len (N2 _ (.head _)).1 hb1000 ?_
        intro lt lk
        dsimp only
        k_steps
        refine hE _ _ ?_
        refine leave_newS (by assumption) (by assumption) (by assumption) (by assumption) ?_
        intro h9 R9 _ U9
        exact bad _ _ _ _ _ hno FG' R9 U9 fun q hq => .tail _ hq
      have hlt : (b.size : Int) + 4 < c.ps := Decidable.not_not.mp hb1
      refine cutSn (fun X => ∀ h tk m ut pt, (Fr g' L' h m) → (News g' L' h ((a, baObj b) :: news)) → (m "self" = some (.ref y)) → (m "data" = some (.ref a)) → (m "used_page_length" = some (.int (b.size + 4) ut)) → (m "next_page" = some (.int nxt pt)) → X h tk) (l1 := [_, _, _]) (l2 := _) rfl ?next ?rest3
      case next =>
        intro Qb hQ
        k_steps
        refine ⟨?_⟩
        refine ba_call_len (N2 _ (.head _)).1 hb1000 ?_
        intro lt lk
        dsimp only
        rcases hnx with ⟨rfl, rfl⟩ | ⟨nt, rfl⟩
        · k_steps
          exact hQ _ _ _ _ _ (by assumption) (by assumption) (by exact hms2) (by exact hmd2) rfl rfl
        · k_steps
          exact hQ _ _ _ _ _ (by assumption) (by assumption) (by exact hms2) (by exact hmd2) rfl rfl
      case rest3 =>
        intro h tk m3 ut pt F3 N3 hms3 hmd3 hmu hmn
        have hul : (0 : Int) ≤ b.size + 4 := Int.natCast_nonneg (b.size + 4)
        refine cutSn (fun X => ∀ h tk m hb ht, (Fr g' L' h m) → (News g' L' h ((a, baObj b) :: news)) → (m "self" = some (.ref y)) → (m "data" = some (.ref a)) → (m "header" = some (.bytes hb ht)) → (KBw.bInts hb = KTBy.little 1 kd ++ KTBy.little 3 (dat.length + 4) ++ KTBy.little 4 nxt) → X h tk) (l1 := [_]) (l2 := _) rfl ?head ?tail
        case head =>
          intro Qb hQ
          have hkd0 := hkd.1
          have hkd1 := hkd.2
          have hn0 := hnx0.1
          have hn1 := hnx0.2
          k_steps
          refine ⟨?_⟩
          with_unfolding_all refine KTBy.to_little (k := 1) (B := 256) (by decide) (by decide) hkd0 hkd1 ?_
          intro pa pat pak hpa _
          k_steps
          refine ⟨?_⟩
          with_unfolding_all refine KTBy.to_little (k := 3) (B := 16777216) (by decide) (by decide) hul (Int.ofNat_lt.mpr (Nat.lt_of_le_of_lt (Nat.add_le_add_right hb160 4) (by decide))) ?_
          intro pb pbt pbk hpb _
          k_steps
          refine ⟨?_⟩
          refine KBa.add_K hpa hpb (by simp only [List.length_append, KTBy.little_length]; decide) ?_
          intro q1t q1k hq1
          k_steps
          refine ⟨?_⟩
          with_unfolding_all refine KTBy.to_little (k := 4) (B := 4294967296) (by decide) (by decide) hn0 hn1 ?_
          intro pd pdt pdk hpd _
          k_steps
          refine ⟨?_⟩
          refine KBa.add_K hq1 hpd (by simp only [List.length_append, KTBy.little_length]; decide) ?_
          intro q2t q2k hq2
          k_steps
          exact hQ _ _ _ _ _ (by assumption) (by assumption) (by exact hms3) (by exact hmd3) rfl (hq2.trans (by rw [zb]))
        case tail =>
          intro h tk m4 hdr ht F4 N4 hms4 hmd4 hmh hhdr
          have zh := bInts_size hhdr
          simp only [List.length_append, KTBy.little_length] at zh
          refine cutSS (fun X => ∀ h tk m a2 b2, (Fr g' L' h m) → (News g' L' h ((a2, baObj b2) :: news)) → (∀ q ∈ news, q.1 < a2) → (m "self" = some (.ref y)) → (m "data" = some (.ref a2)) → (b2 = hdr ++ b) → X h tk) ?data ?rest5
          case data =>
            intro Qb hQ
            refine wpS_Assign_Name (wpS_BinOp (wpS_Call_Name ?_))
            k_steps
            refine callWithS_type rfl (evalArgsS1 (wpS_of ?_))
            show wpAny _ _ (eval _ _) _ _ _
            k_steps
            refine ba_mk_bytes (by assumption) (by assumption) (by rw [zh]; decide) ?_
            intro e h5 k5 F5 N5 l5
            dsimp only
            k_steps
            refine ⟨?_⟩
            refine ba_binAdd F5 N5 (.head _) (.tail _ (.head _)) (by rw [zh]; exact Nat.le_trans (Nat.add_le_add_left hb160 _) (by decide)) ?_
            intro e2 h6 k6 F6 N6 l6
            dsimp only
            k_steps
            rename News _ _ _ _ => N7
            replace N7 := news_sub (a := (e2, baObj (hdr ++ b)) :: news) N7 (by
              intro q hq
              rcases List.mem_cons.mp hq with rfl | hq
              · exact .head _
              · exact .tail _ (.tail _ (.tail _ hq)))
            exact hQ _ _ _ e2 (hdr ++ b) (by assumption) N7 (fun q hq => l6 q (.tail _ (.tail _ hq))) (by exact hms4) rfl rfl
          case rest5 =>
            intro h tk m5 a2 b2 F5 N5 la2 hms5 hmd5 hb2
            have zb2 : b2.size = dat.length + 8 := by rw [hb2, Array.size_append, zh, zb]; exact Nat.add_comm 8 _
            have hp1000 : pn ≤ 1000 := Nat.le_of_lt (Nat.lt_trans hc.p2 (by decide))
            have hb2l : b2.size ≤ 1000 := by rw [zb2]; exact Nat.le_trans (Nat.add_le_add_right hfl 8) (by decide)
            by_cases hpd : ¬ ((0 : Int) ≤ c.ps - b2.size)
            · have hno : ¬ (dat.length + 8 ≤ pn) := fun h => hpd (by
                rw [hc.ps, zb2]
                exact Int.sub_nonneg_of_le (Int.ofNat_le.mpr h))
              refine wpS_of ?_
              k_steps
              refine ⟨?_⟩
              rename News _ _ _ _ => N5
              refine ba_call_len (N5 _ (.head _)).1 hb2l ?_
              intro lt lk
              dsimp only
              k_steps
              refine hE _ _ ?_
              refine leave_newS (by assumption) (by assumption) (by assumption) (by assumption) ?_
              intro h9 R9 _ U9
              exact bad _ _ _ _ _ hno FG' R9 U9 fun q hq => .tail _ hq
            have hp0 : (0 : Int) ≤ c.ps - b2.size := Decidable.not_not.mp hpd
            have hfit : dat.length + 8 ≤ pn := by
              rw [hc.ps, zb2] at hp0
              exact Int.ofNat_le.mp (Int.le_of_sub_nonneg hp0)
            have hb2p : b2.size ≤ pn := by rw [zb2]; exact hfit
            refine cutSn (fun X => ∀ h tk m pt, (Fr g' L' h m) → (News g' L' h ((a2, baObj b2) :: news)) → (m "self" = some (.ref y)) → (m "data" = some (.ref a2)) → (m "padding" = some (.int (c.ps - b2.size) pt)) → X h tk) (l1 := [_, _]) (l2 := _) rfl ?pad ?rest7
            case pad =>
              intro Qb hQ
              k_steps
              refine ⟨?_⟩
              rename News _ _ _ _ => N5
              refine ba_call_len (N5 _ (.head _)).1 hb2l ?_
              intro lt lk
              dsimp only
              k_steps
              exact hQ _ _ _ _ (by assumption) (by assumption) (by exact hms5) (by exact hmd5) rfl
            case rest7 =>
              intro h tk m6 pt F6 N6 hms6 hmd6 hmp
              refine wpS_execs_cons (wpS_Expr (wpS_Call_method (id := "bytearray.extend") rfl rfl rfl ?_))
              have hM : HoldM := {}
              k_steps
              refine ⟨?_⟩
              refine ba_getMethod (N6 _ (.head _)).1 ⟨rfl, ?_⟩
              rename HoldM => hM
              clear hM
              refine callWithS_builtin rfl (evalArgsS1 ?_)
              show wpS _ _ (eval _ _) _ _ _
              refine wpS_Call_Name ?_
              k_steps
              refine callWithS_type rfl (evalArgsS1 (wpS_of ?_))
              show wpAny _ _ (eval _ _) _ _ _
              k_steps
              refine ba_mk_int (by assumption) (by assumption) hp0 (by rw [hc.ps]; exact Int.le_trans (Int.sub_le_self _ (Int.natCast_nonneg _)) (Int.ofNat_le.mpr hp1000)) ?_
              intro e h7 k7 F7 N7 l7
              dsimp only
              refine ba_extendL_ref F7 N7 (.tail _ (.head _)) (.head _) (by rw [Array.size_replicate, hc.ps, pad_nat hb2p, Nat.add_sub_cancel' hb2p]; exact hp1000) ?_
              intro h8 F8 N8
              refine ⟨rfl, wpS_of ?_⟩
              replace N8 := news_sub (a := (a2, baObj (b2 ++ Array.replicate (c.ps - b2.size).toNat 0)) :: news) N8 (by
                intro q hq
                rcases List.mem_cons.mp hq with rfl | hq
                · exact .head _
                · exact .tail _ (rest_mem (.tail _ (.tail _ hq)) (Nat.ne_of_lt (la2 q hq))))
              have z9 : (b2 ++ Array.replicate (c.ps - b2.size).toNat (0 : UInt8)).size = pn := by rw [Array.size_append, Array.size_replicate, hc.ps, pad_nat hb2p, Nat.add_sub_cancel' hb2p]
              dsimp only
              generalize hb3 : b2 ++ Array.replicate (c.ps - b2.size).toNat (0 : UInt8) = b3 at *
              have heq : (b3.size : Int) = c.ps := by rw [hc.ps, z9]
              k_steps
              refine ⟨?_⟩
              rename News _ _ _ _ => N8
              refine ba_call_len (N8 _ (.head _)).1 (by rw [z9]; exact hp1000) ?_
              intro lt lk
              dsimp only
              k_steps
              rotate_left
              · exact absurd heq ‹_ ≠ c.ps›
              show Qb (.ret _) _
              refine hQ _ _ ?_
              k_steps
              rename News _ _ _ _ => N9
              refine post _ _ _ _ hfit (by assumption) N9 ⟨a2, b3, rfl, .head _, ?_, fun q hq => .tail _ hq⟩
              rw [← hb3, bInts_append, hb2, bInts_append, hhdr, hb, rep_ints, show (c.ps - (hdr ++ b).size).toNat = pn - (dat.length + 8) by rw [← hb2, hc.ps, pad_nat hb2p, zb2]]
end Mine
end

section
open PySem PySem.W PyProof.Rows
/-- between two texts: the walk forgets the lines of the text before, as a fresh process has none -/
theorem Mine.calm112 : ∀ (prog : Program) (w : World) (A : Around) (env : Env) (E : Value → Shared → Prop) (s : Shared) (Q : Flow → Shared → Prop), Q .next s → wpAny (model prog w) A (execs [] env) Q E s := by
  w_top off
  intro prog w A env E s Q h
  walk1
  exact h
end

section
open PySem PySem.W PyProof.Rows PySem.Calls
set_option Elab.async false
set_option linter.unusedSimpArgs false
set_option maxRecDepth 100000
set_option maxHeartbeats 4000000
namespace Mine
local macro_rules | `(tactic| walk_at "call ref") => `(tactic| refine' Held.out ?_)
local macro_rules | `(tactic| walk_at "eval ListComp") => `(tactic| refine' Held.out ?_)
local macro_rules | `(tactic| walk_at "CompSrc") => `(tactic| refine' Held.out ?_)
local macro_rules | `(tactic| walk_at "binaryOp Pow int int") => `(tactic| refine' Held.out ?_)
local macro_rules | `(tactic| walk_at "binaryOp FloorDiv int int") => `(tactic| refine' Held.out ?_)
local macro_rules | `(tactic| walk_at "binaryOp Mod int int") => `(tactic| refine' Held.out ?_)
abbrev tup (vs : List Value) : Obj := { cls := .type "tuple", data := .seq vs.toArray }
theorem off1_ne {D : Addr} {l : Led} (h : LCg.Off1 D l) : ∀ q ∈ l, q.1 ≠ D := by
  induction l with
  | nil => exact fun _ hq => nomatch hq
  | cons p r ih =>
    intro q hq
    rcases List.mem_cons.mp hq with rfl | hq
    · exact h.1
    · exact ih h.2 q hq
/-- the lowest digits of a number to the base 256 -/
def low (n : Int) (k : Nat) : List Int := (List.range k).map fun p => (n.fdiv (256 ^ p)).fmod 256
theorem low_len (n : Int) (k : Nat) : (low n k).length = k := by simp [low]
theorem low_get {n : Int} {k i : Nat} (h : i < k) : (low n k)[i]? = some ((n.fdiv (256 ^ i)).fmod 256) := by
  unfold low
  rw [List.getElem?_map, List.getElem?_range h]
  rfl
theorem range_ok : ∀ k : Nat, k ≤ 8 → Builtin.Range.small 0 (k : Int) 1 = true ∧ Builtin.Range.rangeSize 0 (k : Int) 1 = (k : Int) := by decide +kernel
theorem pow_ok : ∀ i : Nat, i ≤ 8 → (256 : Int) ^ i ≠ 0 ∧ ((256 : Int) ^ i).natAbs.log2 < 9000 := by decide +kernel
theorem lawlow (w : World) (n : Int) (k : Nat) (t u : Tok) (hk : k ≤ 8) :
    MutSpec w (call (.ref 683) [.int n t, .int (k : Nat) u]) 12 (fun _ => True)
    (fun r news news' => ∃ D us, r = .ref D ∧ (D, lst us us.length) ∈ news' ∧ IntsAre us (low n k) ∧ (∀ q ∈ news, q ∈ news') ∧ ∀ q ∈ news, q.1 ≠ D) := by
  unfold MutSpec
  k_fill
  intro mean mg mb dp un gd cn nms ig ic mo a ccd cl outer A₀ base h₀ L m news s Q E B F X N T hdp hun pre0 post
  refine wpAny_call ?_
  k_dflt (refine' code_ownC ?k1 ?k2 ?k3 ?k4 ?k5 ?kA ?kF ?kK ?k6 ?k7 ?k8 ?k9 ?kB ?kD ?_ ?c2 ?c3 ?c4; (case kA => exact rfl); (case kF => exact rfl); (case kK => exact rfl); (case k2 => k_asm); (case k1 => k_asm); (case k3 => k_asm); (case k4 => k_asm); (case k5 => k_asm); (case k6 => k_is); (case k7 => k_is); (case k8 => k_room); (case k9 => first | exact BindsTo.of_eq rfl | exact binds_K (by k_in) rfl (by k_is) rfl rfl rfl); (case kB => exact rfl); (case kD => decide +kernel); (case c2 => exact rfl); (case c3 => exact rfl); (case c4 => exact rfl); k_whole; intro g' L' h' tk' cells' FG' F' N' Y' B' X' T' l1 Qb hQ; (try k_lt l1); k_cells Y'; (try simp only [List.cons_append, List.nil_append] at N'); (try dsimp only); (try k_lift B'); (try k_fold))
  refine letA ?_
  intro A1
  refine letE ?_
  intro e1
  rename Obj => oP
  have hoP : oP.data = .cell (some (.int n t)) := by assumption
  k_steps
  refine ⟨?_⟩
  k_dflt (refine LCg.ListComp_U F' (by rfl) (by decide) (by rfl) (by decide) (by rfl) ?_)
  k_steps
  refine ⟨?_⟩
  with_reducible rename IsRange _ _ _ _ _ _ _ _ => hr
  rename Fr _ _ _ _ => kF
  rename News _ _ _ _ => kN
  obtain ⟨r1, r2⟩ := range_ok k hk
  k_dflt (refine LCg.CompSrc.range (n := k) (by rfl) kF kN hr r1 r2 (by rw [sizeLine_eq]; omega) ?_)
  intro g9
  refine comp_rest (fun i ys nw => nw = (L' + 1, oP) :: news ∧ Held (IntsAre ys ((low n k).take i))) ⟨rfl, ⟨.nil⟩⟩ ?_ ?_
  · rintro i v ys nw I oI C oC D m₂ h tk E' hi ⟨t1, rfl⟩ ⟨rfl, hys⟩ hC hx F' N' off n1 n2 n3
    rw [Int.zero_add] at hx
    obtain ⟨p1, p2⟩ := pow_ok i (by omega)
    obtain ⟨nwx, hnx, hoPm⟩ : ∃ nwx, nwx = (L' + 1, oP) :: news ∧ (L' + 1, oP) ∈ nwx := ⟨_, rfl, .head _⟩
    rw [← hnx] at N' off ⊢
    k_steps
    refine ⟨?_⟩
    refine pow_int_small (by omega) (by omega) (by decide) ?_
    rw [Int.toNat_natCast]
    dsimp only
    k_steps
    refine ⟨?_⟩
    refine floordiv_int p1 ?_ (.inl (PyProof.noPylong_of_log2 p2))
    dsimp only
    k_steps
    refine ⟨?_⟩
    refine mod_int (by decide) ?_
    dsimp only
    k_steps
    refine LCg.CompEnd.intro (by assumption) N' _ (fun _ h => h) off trivial ⟨rfl, ?_⟩
    rw [List.take_add_one, low_get hi]
    exact ⟨hys.out.append (.cons _ _ .nil)⟩
  · rintro ys nw ⟨rfl, hys⟩ D h tk F' N' o1
    rw [List.take_of_length_le (by rw [low_len]; omega)] at hys
    k_steps
    refine hQ _ _ ?_
    k_steps
    exact post _ ((D, lst ys ys.length) :: (L' + 1, oP) :: news) _ _ (by assumption) (by assumption) ⟨D, ys, rfl, .head _, hys.out, fun q hq => .tail _ (.tail _ hq), fun q hq => off1_ne o1 q (.tail _ hq)⟩
end Mine
end

section
open PySem PySem.W PyProof.Rows
/-- between two texts: the walk forgets the lines of the text before, as a fresh process has none -/
theorem Mine.calm114 : ∀ (prog : Program) (w : World) (A : Around) (env : Env) (E : Value → Shared → Prop) (s : Shared) (Q : Flow → Shared → Prop), Q .next s → wpAny (model prog w) A (execs [] env) Q E s := by
  w_top off
  intro prog w A env E s Q h
  walk1
  exact h
end

section
open PySem PySem.W PyProof.Rows PySem.Calls
set_option Elab.async false
set_option linter.unusedSimpArgs false
set_option maxRecDepth 100000
set_option maxHeartbeats 4000000
namespace Mine
local macro_rules | `(tactic| walk_at "MINE spec") => `(tactic| ((case mB | mF | mX | mN | mT => k_asm); (case mhd | mhu => k_units)))
local macro_rules | `(tactic| walk_at "getAttr ref") => `(tactic| (k_here; k_dflt (refine' (conf_one ?h).use0 ?mB ?mF ?mX ?mN ?mT ?mhd ?mhu ?mp ?_; (case h => with_reducible constructor); (walk_at "MINE spec"); (case mp => exact ⟨_, by k_mem, by k_mem⟩); intro h' tk' F' N'; (try k_sweep))))
local macro_rules | `(tactic| k_all) => `(tactic| with_reducible assumption)
local macro_rules | `(tactic| walk_at "binaryOp Pow int int") => `(tactic| refine' Held.out ?_)
local macro_rules | `(tactic| walk_at "binaryOp FloorDiv int int") => `(tactic| refine' Held.out ?_)
local macro_rules | `(tactic| walk_at "binaryOp Mod int int") => `(tactic| refine' Held.out ?_)
local macro_rules | `(tactic| walk_at "binaryOp Mult ref int") => `(tactic| refine' Held.out ?_)
local macro_rules | `(tactic| walk_at "call builtin:list.append") => `(tactic| refine' Held.out ?_)
local macro_rules | `(tactic| walk_at "LoopD") => `(tactic| refine' Held.out ?_)
/-- the key behind the place -/
def keyAt (m : Int) : Nat → Int
  | 0 => 0
  | p + 1 => keyAt m p + (1 + (m.fdiv (3 ^ p)).fmod 5)
/-- a row of the law's: of a reference, of a record -/
inductive Row
  | rf (k b a : Int)
  | rc (k : Int) (v : List Int) (o : Int)
/-- kinds of records, kinds of references -/
inductive KindB : Bool → Int → Prop
  | k1 : KindB true 1
  | k2 : KindB false 2
  | k3 : KindB false 3
  | k4 : KindB true 4
def rowAt (rec : Bool) (m : Int) (vn p : Nat) : Row := match rec with
  | false => .rf (keyAt m (p + 1)) ((p : Int) + 1 + m.fmod 300) ((p : Int) + 2 + m.fmod 300)
  | true => .rc (keyAt m (p + 1)) (List.replicate ((m.fdiv (2 ^ p)).fmod (vn + 1)).toNat ((m + p).fmod 256)) (if (m.fdiv (5 ^ p)).fmod 3 = 0 then 7 + p else 0)
def rowsOf (rec : Bool) (m : Int) (vn k : Nat) : List Row := (List.range k).map (rowAt rec m vn)
theorem rows_len (rec : Bool) (m : Int) (vn k : Nat) : (rowsOf rec m vn k).length = k := by simp [rowsOf]
theorem rows_get {rec : Bool} {m : Int} {vn k i : Nat} (h : i < k) : (rowsOf rec m vn k)[i]? = some (rowAt rec m vn i) := by
  unfold rowsOf
  rw [List.getElem?_map, List.getElem?_range h]
  rfl
/-- the row as a tuple of the ledger's; no list of it lies at D -/
inductive RowIs (D : Addr) (news : Led) : Value → Row → Prop
  | rf {a : Addr} {k b c : Int} {t1 t2 t3 : Tok} (h : (a, tup [.int k t1, .int b t2, .int c t3]) ∈ news) : RowIs D news (.ref a) (.rf k b c)
  | rc {a l : Addr} {k o : Int} {t1 t3 : Tok} {us : List Value} {v : List Int} {n : Nat} (h : (a, tup [.int k t1, .ref l, .int o t3]) ∈ news) (hl : (l, lst us n) ∈ news) (hv : IntsAre us v) (hD : l ≠ D) : RowIs D news (.ref a) (.rc k v o)
/-- the row's three values -/
inductive TripIs (D : Addr) (news : Led) : Value → Value → Value → Row → Prop
  | rf {k b c : Int} {t1 t2 t3 : Tok} : TripIs D news (.int k t1) (.int b t2) (.int c t3) (.rf k b c)
  | rc {l : Addr} {k o : Int} {t1 t3 : Tok} {us : List Value} {v : List Int} {n : Nat} (hl : (l, lst us n) ∈ news) (hv : IntsAre us v) (hD : l ≠ D) : TripIs D news (.int k t1) (.ref l) (.int o t3) (.rc k v o)
theorem RowIs.trip {D : Addr} {news : Led} {us : List Value} {rows : List Row} {i : Nat} {v : Value} (q : All2 (RowIs D news) us rows) (hv : us[i]? = some v) :
    ∃ T a b c, v = .ref T ∧ (T, ({ cls := .type "tuple", data := .seq #[a, b, c] } : Obj)) ∈ news ∧ ∃ r, rows[i]? = some r ∧ TripIs D news a b c r := by
  obtain ⟨r, e, h⟩ := q.get hv
  cases h with
  | rf h => exact ⟨_, _, _, _, rfl, h, _, e, .rf⟩
  | rc h hl hi hD => exact ⟨_, _, _, _, rfl, h, _, e, .rc hl hi hD⟩
theorem RowIs.sub {D : Addr} {a b : Led} {v : Value} {r : Row} (h : RowIs D a v r) (s : ∀ q ∈ a, q ∈ b) : RowIs D b v r := by
  cases h with
  | rf h => exact .rf (s _ h)
  | rc h hl hv hD => exact .rc (s _ h) (s _ hl) hv hD
/-- what stands in every turn -/
inductive RwAt (x D : Addr) (kd m0 : Int) (t u : Tok) (rows : List Row) (news : Led) (i : Nat) (m : Str → Option Value) (nw : Led) : Prop
  | mk (us : List Value) (n : Nat) (tk : Tok) (h1 : m "rows" = some (.ref D)) (h2 : m "kind" = some (.int kd t)) (h3 : m "m" = some (.int m0 u)) (h4 : m "conf" = some (.ref x)) (h5 : m "key" = some (.int (keyAt m0 i) tk)) (hl : (D, lst us n) ∈ nw) (hv : All2 (RowIs D nw) us (rows.take i)) (hk : ∀ q ∈ news, q ∈ nw) : RwAt x D kd m0 t u rows news i m nw
theorem pow3_ok : ∀ i : Nat, i ≤ 8 → (3 : Int) ^ i ≠ 0 ∧ ((3 : Int) ^ i).natAbs.log2 < 9000 := by decide +kernel
theorem pow2_ok : ∀ i : Nat, i ≤ 8 → (2 : Int) ^ i ≠ 0 ∧ ((2 : Int) ^ i).natAbs.log2 < 9000 := by decide +kernel
theorem pow5_ok : ∀ i : Nat, i ≤ 8 → (5 : Int) ^ i ≠ 0 ∧ ((5 : Int) ^ i).natAbs.log2 < 9000 := by decide +kernel
theorem news_drop1 {h₀ h : Heap} {L : Addr} {p q : Addr × Obj} {l : Led} (N : News h₀ L h (p :: q :: l)) : News h₀ L h (p :: l) := news_sub N fun r hr => (List.mem_cons.mp hr).elim (fun e => e ▸ .head _) fun h => .tail _ (.tail _ h)
theorem lawrows (w : World) (x : Addr) (c : Cf) (pn on kn vn : Nat) (rec : Bool) (kd m0 : Int) (k : Nat) (t u v : Tok) (hc : Cf1 c pn on kn vn) (hk : k ≤ 8) (hkd : KindB rec kd) :
    MutSpec w (call (.ref 709) [.ref x, .int kd t, .int m0 u, .int (k : Nat) v]) 20 (fun news => confIs x c.vals news)
    (fun r news news' => ∃ D us n, r = Value.ref D ∧ (D, lst us n) ∈ news' ∧ All2 (RowIs D news') us (rowsOf rec m0 vn k) ∧ (∀ q ∈ news, q ∈ news') ∧ ∀ q ∈ news, q.1 ≠ D) := by
  unfold MutSpec
  k_fill
  intro mean mg mb dp un gd cn nms ig ic mo a ccd cl outer A₀ base h₀ L m news s Q E B F X N T hdp hun pre0 post
  obtain ⟨dc, hc1, hc2⟩ := pre0
  refine wpAny_call ?_
  k_dflt (refine' code_own ?k1 ?k2 ?k3 ?k4 ?k5 ?kA ?kF ?kK ?k6 ?k7 ?k8 ?k9 ?kB ?_ ?c5 ?c2 ?c3 ?c4; (case kA => exact rfl); (case kF => exact rfl); (case kK => exact rfl); (case k2 => k_asm); (case k1 => k_asm); (case k3 => k_asm); (case k4 => k_asm); (case k5 => k_asm); (case k6 => k_is); (case k7 => k_is); (case k8 => k_room); (case k9 => first | exact binds_K (by k_in) rfl (by k_is) rfl rfl rfl | exact BindsTo.of_eq rfl); (case kB => exact locs rfl); (case c5 => decide); (case c2 => exact rfl); (case c3 => exact rfl); (case c4 => exact rfl); k_whole; intro g' L' h' FG' F' N' B' X' T' Qb hQ; (try dsimp only); (try k_lift B'); (try k_fold))
  refine letA ?_
  intro A1
  refine letE ?_
  intro e1
  refine cutn (fun X => ∀ h tk m D nw tt, (Fr g' L' h m) → (News g' L' h ((D, lst [] nw) :: news)) → (∀ q ∈ news, q.1 ≠ D) → (m "rows" = some (.ref D)) → (m "kind" = some (.int kd t)) → (m "m" = some (.int m0 u)) → (m "conf" = some (.ref x)) → (m "count" = some (.int (k : Nat) v)) → (m "key" = some (.int 0 tt)) → X h tk) (l1 := [_, _]) (l2 := _) rfl ?set ?rest1
  case set =>
    intro Qb hQ
    k_steps
    with_reducible rename AllLt _ news => l9
    exact hQ _ _ _ _ _ _ (by assumption) (by assumption) (fun q hq => Nat.ne_of_lt (ktn_ltOf l9 q hq)) rfl rfl rfl rfl rfl rfl
  case rest1 =>
    clear F' N'
    intro h tk m1 D1 n1 tt F1 N1 hD1 b1 b2 b3 b4 b5 b6
    refine wpAny_execs_cons (For_rangeD rfl rfl ?_)
    k_steps
    refine ⟨?_⟩
    with_reducible rename IsRange _ _ _ _ _ _ _ _ => hr
    rename Fr _ _ _ _ => kF
    rename News _ _ _ _ => kN
    obtain ⟨r1, r2⟩ := range_ok k hk
    refine LoopD.mk _ 0 _ 1 _ _ _ k (fun g => g = g') g' m1 _ (RwAt x D1 kd m0 t u (rowsOf rec m0 vn k) news) rfl rfl kF kN hr r1 r2 (RwAt.mk [] n1 _ b1 b2 b3 b4 b6 (.head _) trivial (fun q hq => .tail _ hq)) ?turn ?done
    case done =>
      intro m6 nw6 h₀2 h6 tk6 e6 q F6 N6
      subst e6
      cases q with
      | mk us n tk q1 q2 q3 q4 q5 q6 q7 q8 =>
      dsimp only
      rw [List.take_of_length_le (by rw [rows_len]; exact Nat.le_refl _)] at q7
      k_steps
      refine hQ _ _ ?_
      k_steps
      exact post _ _ _ _ (by assumption) (by assumption) ⟨D1, us, n, rfl, q6, q7, q8, hD1⟩
    case turn =>
      intro i ti m6 nw6 h₀2 h6 tk6 I oI hi e6 q off F6 N6 Qt hT
      subst e6
      cases q with
      | mk us n tk q1 q2 q3 q4 q5 q6 q7 q8 =>
      dsimp only
      rw [show (0 : Int) + (i : Nat) * 1 = (i : Nat) by omega] at F6
      obtain ⟨p1, p2⟩ := pow3_ok i (by omega)
      have hDI : D1 ≠ I := off _ q6
      refine cutn (fun X => ∀ h tk m ty, (Fr h₀2 L' h m) → (News h₀2 L' h ((I, oI) :: nw6)) → (m "rows" = some (.ref D1)) → (m "kind" = some (.int kd t)) → (m "m" = some (.int m0 u)) → (m "conf" = some (.ref x)) → (m "place" = some (.int (i : Nat) ti)) → (m "key" = some (.int (keyAt m0 (i + 1)) ty)) → X h tk) (l1 := [_]) (l2 := _) rfl ?key ?rest2
      case key =>
        intro Qb hQ
        k_steps
        k_dflt (refine wpAny_loadName_local rfl rfl F6.ns ((if_neg (by decide)).trans q5) ?_)
        k_steps
        refine ⟨?_⟩
        refine pow_int_small (by omega) (by omega) (by decide) ?_
        rw [Int.toNat_natCast]
        dsimp only
        k_steps
        refine ⟨?_⟩
        refine floordiv_int p1 ?_ (.inl (PyProof.noPylong_of_log2 p2))
        dsimp only
        k_steps
        refine ⟨?_⟩
        refine mod_int (by decide) ?_
        dsimp only
        k_steps
        exact hQ _ _ _ _ (by assumption) (by assumption) (by exact q1) (by exact q2) (by exact q3) (by exact q4) (by exact rfl) (by exact rfl)
      case rest2 =>
        clear F6 N6
        intro h tk m7 ty F7 N7 a1 a2 a3 a4 a5 a6
        have hc1' := q8 _ hc1
        have hc2' := q8 _ hc2
        have hul : us.length < 1000 := by
          have := q7.len
          rw [List.length_take] at this
          omega
        refine wpAny_execs_cons (wpAny_If ?_)
        refine cutG (fun X => ∀ tk, X rec h tk) ?test ?branch
        case test =>
          intro Qb hQ
          cases hkd <;> (k_steps; exact hQ _)
        case branch =>
          intro tk
          have fin : ∀ (h5 : Heap) (tk5 : Nat) (m5 : Str → Option Value) (T1 : Addr) (ext : Led), Fr h₀2 L' h5 m5 → News h₀2 L' h5 ((D1, lst (us ++ [.ref T1]) (n + 1)) :: rest D1 (ext ++ (I, oI) :: nw6)) → (∀ q ∈ ext, q.1 ≠ I) → RowIs D1 ((D1, lst (us ++ [.ref T1]) (n + 1)) :: rest D1 (ext ++ nw6)) (.ref T1) (rowAt rec m0 vn i) → m5 "rows" = some (.ref D1) → m5 "kind" = some (.int kd t) → m5 "m" = some (.int m0 u) → m5 "conf" = some (.ref x) → m5 "key" = some (.int (keyAt m0 (i + 1)) ty) →
              Qt .next { s with heap := h5, toks := tk5 } := by
            intro h5 tk5 m5 T1 ext F5 N5 hx hrow r1 r2 r3 r4 r5
            have up : ∀ q ∈ nw6, q.1 ≠ D1 → q ∈ (D1, lst (us ++ [.ref T1]) (n + 1)) :: rest D1 (ext ++ nw6) := fun q hq h => .tail _ (mem_rest (List.mem_append_right _ hq) h)
            refine hT .next _ _ _ _ ((D1, lst (us ++ [.ref T1]) (n + 1)) :: rest D1 (ext ++ nw6)) (.inl rfl) rfl F5 (news_sub N5 ?s1) ?s2 (RwAt.mk (us ++ [.ref T1]) (n + 1) _ r1 r2 r3 r4 r5 (.head _) ?s3 (fun q hq => up q (q8 q hq) (hD1 q hq)))
            case s1 =>
              intro q hq
              rcases List.mem_cons.mp hq with rfl | hq
              · exact .tail _ (mem_rest (List.mem_append_right _ (.head _)) (Ne.symm hDI))
              rcases List.mem_cons.mp hq with rfl | hq
              · exact .head _
              · exact .tail _ (mem_rest ((List.mem_append.mp (List.mem_filter.mp hq).1).elim (List.mem_append_left _) fun h => List.mem_append_right _ (.tail _ h)) (rest_ne _ hq))
            case s2 =>
              intro q hq
              rcases List.mem_cons.mp hq with rfl | hq
              · exact hDI
              · exact (List.mem_append.mp (List.mem_filter.mp hq).1).elim (fun h => hx _ h) fun h => off _ h
            case s3 =>
              rw [List.take_add_one, rows_get hi]
              refine All2.append (q7.imp fun _ _ h => ?_) ⟨hrow, trivial⟩
              cases h with
              | rf h => exact .rf (up _ h (news_ne N7 (.tail _ h) (.tail _ q6) fun e => absurd (congrArg Obj.cls e) (show ¬Value.type "tuple" = Value.type "list" by decide)))
              | rc h hl hv hD => exact .rc (up _ h (news_ne N7 (.tail _ h) (.tail _ q6) fun e => absurd (congrArg Obj.cls e) (show ¬Value.type "tuple" = Value.type "list" by decide))) (up _ hl hD) hv hD
          cases rec with
          | false =>
            refine (if_neg Bool.false_ne_true).mpr ?_
            k_steps
            refine ⟨?_⟩
            refine mod_int (by decide) ?_
            dsimp only
            k_steps
            refine ⟨?_⟩
            refine mod_int (by decide) ?_
            dsimp only
            k_steps
            refine ⟨?_⟩
            rename_i T1 h8 F8 N8 l8
            refine append_led F8 N8 (.tail _ (.tail _ q6)) hul ?_
            intro h9 F9 N9
            k_steps
            exact fin _ _ _ T1 [_] F9 N9 (fun q hq => by
              rcases List.mem_cons.mp hq with rfl | hq
              · exact Nat.ne_of_gt l8.1
              · cases hq) (.rf (.tail _ (mem_rest (.head _) (Nat.ne_of_gt (ktn_ltOf l8.2 _ q6))))) a1 a2 a3 a4 a6
          | true =>
            refine (if_pos rfl).mpr ?_
            obtain ⟨z1, z2⟩ := pow2_ok i (by omega)
            obtain ⟨y1, y2⟩ := pow5_ok i (by omega)
            have hv := hc.vz
            have hv2 := hc.v2
            have f0 := Int.fmod_nonneg_of_pos (m0.fdiv (2 ^ i)) (b := c.vz + 1) (by omega)
            have f1 := Int.fmod_lt_of_pos (m0.fdiv (2 ^ i)) (b := c.vz + 1) (by omega)
            refine cutn (fun X => ∀ h tk m D2 ws, (Fr h₀2 L' h m) → (News h₀2 L' h ((D2, lst ws 0) :: (I, oI) :: nw6)) → (IntsAre ws (List.replicate ((m0.fdiv (2 ^ i)).fmod (vn + 1)).toNat ((m0 + i).fmod 256))) → (I < D2 ∧ AllLt D2 nw6) → (m "value" = some (.ref D2)) → (m "rows" = some (.ref D1)) → (m "kind" = some (.int kd t)) → (m "m" = some (.int m0 u)) → (m "conf" = some (.ref x)) → (m "place" = some (.int (i : Nat) ti)) → (m "key" = some (.int (keyAt m0 (i + 1)) ty)) → X h tk) (l1 := [_]) (l2 := _) rfl ?val ?rest3
            case val =>
              intro Qb hQ
              k_steps
              refine ⟨?_⟩
              refine mod_int (by decide) ?_
              dsimp only
              k_steps
              refine ⟨?_⟩
              refine pow_int_small (by omega) (by omega) (by decide) ?_
              rw [Int.toNat_natCast]
              dsimp only
              k_steps
              refine ⟨?_⟩
              refine floordiv_int z1 ?_ (.inl (PyProof.noPylong_of_log2 z2))
              dsimp only
              k_steps
              refine ⟨?_⟩
              refine mod_int (by omega) ?_
              dsimp only
              k_steps
              refine ⟨?_⟩
              rename_i D0 h70 l8 h8 tk8 F8 N8
              refine KMa.mul (vs := [_]) F8 N8 (News.isList N8 (.head _)) (by omega) (by omega) (by simp only [List.length_cons, List.length_nil]; omega) rfl ?_
              intro D2 h9 F9 N9 l9
              k_steps
              rename News _ _ _ _ => N10
              refine hQ _ _ _ D2 _ (by assumption) (news_drop1 N10) ?zi (allLt_of l9).2 (by exact rfl) (by exact a1) (by exact a2) (by exact a3) (by exact a4) (by exact a5) (by exact a6)
              case zi =>
                have e := List.flatten_replicate_singleton (n := ((m0.fdiv (2 ^ i)).fmod (c.vz + 1)).toNat) (a := (m0 + i).fmod 256)
                rw [← hv, ← e]
                exact KM.ints_rep (.cons _ _ .nil) _
            case rest3 =>
              intro h tk m8 D2 ws F8 N8 hws l8 av b1 b2 b3 b4 b5 b6
              obtain ⟨pv, hpv⟩ : ∃ pv : Int, pv = if (m0.fdiv (5 ^ i)).fmod 3 = 0 then 7 + (i : Int) else 0 := ⟨_, rfl⟩
              refine cutn (fun X => ∀ h tk m ot, (Fr h₀2 L' h m) → (News h₀2 L' h ((D2, lst ws 0) :: (I, oI) :: nw6)) → (m "page" = some (.int pv ot)) → (m "value" = some (.ref D2)) → (m "rows" = some (.ref D1)) → (m "kind" = some (.int kd t)) → (m "m" = some (.int m0 u)) → (m "conf" = some (.ref x)) → (m "key" = some (.int (keyAt m0 (i + 1)) ty)) → X h tk) (l1 := [_]) (l2 := _) rfl ?page ?rest4
              case page =>
                intro Qb hQ
                k_steps
                refine ⟨?_⟩
                refine pow_int_small (by omega) (by omega) (by decide) ?_
                rw [Int.toNat_natCast]
                dsimp only
                k_steps
                refine ⟨?_⟩
                refine floordiv_int y1 ?_ (.inl (PyProof.noPylong_of_log2 y2))
                dsimp only
                k_steps
                refine ⟨?_⟩
                refine mod_int (by decide) ?_
                dsimp only
                k_steps
                all_goals first
                  | rw [if_neg (by assumption)] at hpv
                  | rw [if_pos (by assumption)] at hpv
                all_goals
                  subst hpv
                  exact hQ _ _ _ _ (by assumption) (by assumption) (by exact rfl) (by exact av) (by exact b1) (by exact b2) (by exact b3) (by exact b4) (by exact b6)
              case rest4 =>
                intro h tk m9 ot F9 N9 ap av b1 b2 b3 b4 b5
                k_steps
                refine ⟨?_⟩
                rename_i T1 h10 F10 N10 l10
                refine append_led F10 N10 (.tail _ (.tail _ (.tail _ q6))) hul ?_
                intro h11 F11 N11
                k_steps
                have hD2 : D1 ≠ D2 := Nat.ne_of_lt (ktn_ltOf l8.2 _ q6)
                exact fin _ _ _ T1 [_, _] F11 N11 (fun q hq => by
                  rcases List.mem_cons.mp hq with rfl | hq
                  · exact Nat.ne_of_gt l10.2.1
                  rcases List.mem_cons.mp hq with rfl | hq
                  · exact Nat.ne_of_gt l8.1
                  · cases hq) (by unfold rowAt; rw [← hpv]; exact .rc (.tail _ (mem_rest (.head _) (Nat.ne_of_gt (ktn_ltOf l10.2.2 _ q6)))) (.tail _ (mem_rest (.tail _ (.head _)) (Ne.symm hD2))) hws (Ne.symm hD2)) b1 b2 b3 b4 b5
end Mine
end

section
open PySem PySem.W PyProof.Rows
/-- between two texts: the walk forgets the lines of the text before, as a fresh process has none -/
theorem Mine.calm116 : ∀ (prog : Program) (w : World) (A : Around) (env : Env) (E : Value → Shared → Prop) (s : Shared) (Q : Flow → Shared → Prop), Q .next s → wpAny (model prog w) A (execs [] env) Q E s := by
  w_top off
  intro prog w A env E s Q h
  walk1
  exact h
end

section
open PySem PySem.W PyProof.Rows PySem.Calls
set_option Elab.async false
set_option linter.unusedSimpArgs false
set_option maxRecDepth 100000
set_option maxHeartbeats 4000000
namespace Mine
local macro_rules | `(tactic| walk_at "MINE spec") => `(tactic| ((case mB | mF | mX | mN | mT => k_asm); (case mhd | mhu => k_units)))
local macro_rules | `(tactic| walk_at "getAttr ref") => `(tactic| (k_here; k_dflt (refine' (conf_one ?h).use0 ?mB ?mF ?mX ?mN ?mT ?mhd ?mhu ?mp ?_; (case h => with_reducible constructor); (walk_at "MINE spec"); (case mp => exact ⟨_, by k_mem, by k_mem⟩); intro h' tk' F' N'; (try k_sweep))))
local macro_rules | `(tactic| walk_at "getMethod type:int") => `(tactic| (k_here; k_dflt ((with_reducible refine' KFB.getm ?kfbF ?kfbN ?kfbX ?kfbE ?_); (case kfbF => k_asm); (case kfbN => k_asm); (case kfbX => k_asm); (case kfbE => k_is); k_whole; intro x' h' F' N' l1; (try k_lt l1); (try k_sweep))))
local macro_rules | `(tactic| walk_at "call ref") => `(tactic| refine' Held.out ?_)
local macro_rules | `(tactic| walk_at "call builtin:len") => `(tactic| refine' Held.out ?_)
local macro_rules | `(tactic| walk_at "subscriptTail") => `(tactic| refine' Held.out ?_)
local macro_rules | `(tactic| k_all) => `(tactic| with_reducible assumption)
theorem deserialize (w : World) (y : Addr) (b : Array UInt8) (t : Tok) (hb : b.size ≤ 8) :
    TreeSpec w (call (.ref 673) [.ref y, .bytes b t]) 8 (fun _ => True) (fun r _ _ => ∃ t', r = .int (KFB.value (KBw.bInts b).reverse) t') := by
  unfold TreeSpec
  k_fill
  intro mean mg mb dp un gd cn nms ig ic mo a ccd cl outer A₀ base h₀ L m news s Q E B F X N T hdp hun pre0 post
  refine wpAny_call ?_
  k_dflt (refine' code_own ?k1 ?k2 ?k3 ?k4 ?k5 ?kA ?kF ?kK ?k6 ?k7 ?k8 ?k9 ?kB ?_ ?c5 ?c2 ?c3 ?c4; (case kA => exact rfl); (case kF => exact rfl); (case kK => exact rfl); (case k2 => k_asm); (case k1 => k_asm); (case k3 => k_asm); (case k4 => k_asm); (case k5 => k_asm); (case k6 => k_is); (case k7 => k_is); (case k8 => k_room); (case k9 => first | exact binds_K (by k_in) rfl (by k_is) rfl rfl rfl | exact BindsTo.of_eq rfl); (case kB => exact locs rfl); (case c5 => decide); (case c2 => exact rfl); (case c3 => exact rfl); (case c4 => exact rfl); k_whole; intro g' L' h' FG' F' N' B' X' T' Qb hQ; (try dsimp only); (try k_lift B'); (try k_fold))
  refine letA ?_
  intro A1
  refine letE ?_
  intro e1
  k_steps
  refine ⟨?_⟩

  rename News _ _ _ _ => N1
  refine KFB.call_little N1 (.head _) rfl (by rw [KBw.ints_length]; exact hb) ?_
  intro t' k'
  k_steps
  refine hQ _ _ ?_
  k_steps
  exact post _ [] _ _ (by assumption) (news_sub (by assumption) fun q hq => .tail _ hq) Apart.nil ⟨t', rfl⟩
/-- what a record's octets say -/
structure Oct (kn vn : Nat) (k : Int) (vl : Nat) (vp : List Int) (o : Int) (ks : List Int) : Prop where
  is : ks = KTBy.little 2 kn ++ (KTBy.little kn k ++ (KTBy.little 2 vl ++ (vp ++ KTBy.little 4 o)))
  k0 : 0 ≤ k
  k1 : k < 256 ^ kn
  v1 : vl ≤ vn
  vp : vp.length = vn
  o0 : 0 ≤ o
  o1 : o < 256 ^ 4
theorem rec_load (w : World) (x y dy : Addr) (c : Cf) (pn on kn vn : Nat) (u1 u2 u3 u4 u5 l : Tok) (n : Nat) (k : Int) (vl : Nat) (vp : List Int) (o : Int) (b : Array UInt8) (t : Tok) (nw : Led) (C : Cf1 c pn on kn vn) (H : Oct kn vn k vl vp o (KBw.bInts b)) (hyd : y ≠ dy) (hnd : ∀ p ∈ nw, p.1 ≠ dy) :
    MutSpec w (call (.ref 243) [.ref y, .bytes b t]) 20
    (fun news => news = (y, instObj 260 dy) :: (dy, recDict w u1 u2 u3 u4 u5 x .none .none (.int (2 + c.ks + 2 + c.vz + 4) l) .none n) :: nw ∧ confIs x c.vals nw ∧ serIs c.ser nw)
    (fun r _ news' => r = .none ∧ ∃ t1 v ov, news' = (y, instObj 260 dy) :: (dy, recDict w u1 u2 u3 u4 u5 x (.int k t1) v (.int (2 + c.ks + 2 + c.vz + 4) l) ov n) :: nw ∧
      ((o = 0 ∧ ov = .none ∧ ∃ b2 t2, v = .bytes b2 t2 ∧ KBw.bInts b2 = vp.take vl) ∨ (o ≠ 0 ∧ v = .none ∧ ∃ t2, ov = .int o t2))) := by
  unfold MutSpec
  k_fill
  intro mean mg mb dp un gd cn nms ig ic mo a ccd cl outer A₀ base h₀ L m news s Q E B F X N T hdp hun pre0 post
  obtain ⟨rfl, ⟨dc, hc1, hc2⟩, hs⟩ := pre0
  obtain ⟨ds, hs1, hs2⟩ := id hs
  have k2 := C.k2
  have k1 := C.k1
  have v2 := C.v2
  have hv1 := H.v1
  have hvp := H.vp
  have ekn : KTBy.little 2 (kn : Int) = KTBy.little 2 kn := rfl
  have hlen : (KBw.bInts b).length = 2 + kn + 2 + vn + 4 := by
    rw [H.is]
    simp only [List.length_append, KTBy.little_length, hvp]
    omega
  have hkk : (kn : Int) ≤ c.ks := Int.le_of_eq C.ks.symm
  have hk0 : (0 : Int) ≤ kn := Int.natCast_nonneg kn
  have hk64 : (kn : Int) < 256 ^ 2 := Int.lt_of_le_of_lt (Int.ofNat_le.mpr C.k2) (by decide)
  have hz : ((2 + kn + 2 + vn + 4 : Nat) : Int) = 2 + c.ks + 2 + c.vz + 4 := by rw [C.ks, C.vz]; rfl
  have hl20 : 2 + kn + 2 + vn + 4 ≤ 2 + 3 + 2 + 3 + 4 := Nat.add_le_add_right (Nat.add_le_add (Nat.add_le_add_right (Nat.add_le_add_left C.k2 2) 2) C.v2) 4
  refine wpAny_call ?_
  k_dflt (refine' code_own ?k1 ?k2 ?k3 ?k4 ?k5 ?kA ?kF ?kK ?k6 ?k7 ?k8 ?k9 ?kB ?_ ?c5 ?c2 ?c3 ?c4; (case kA => exact rfl); (case kF => exact rfl); (case kK => exact rfl); (case k2 => k_asm); (case k1 => k_asm); (case k3 => k_asm); (case k4 => k_asm); (case k5 => k_asm); (case k6 => k_is); (case k7 => k_is); (case k8 => k_room); (case k9 => first | exact binds_K (by k_in) rfl (by k_is) rfl rfl rfl | exact BindsTo.of_eq rfl); (case kB => exact locs rfl); (case c5 => decide); (case c2 => exact rfl); (case c3 => exact rfl); (case c4 => exact rfl); k_whole; intro g' L' h' FG' F' N' B' X' T' Qb hQ; (try dsimp only); (try k_lift B'); (try k_fold))
  refine letA ?_
  intro A1
  refine letE ?_
  intro e1
  refine cutn (fun X => ∀ h tk m t1 t2, (Fr g' L' h m) → (News g' L' h ((y, instObj 260 dy) :: (dy, recDict w u1 u2 u3 u4 u5 x (.int k t1) .none (.int (2 + c.ks + 2 + c.vz + 4) l) .none n) :: nw)) → (m "self" = some (.ref y)) → (m "data" = some (.bytes b t)) → (m "end_used_key_length" = some (.int 2 t2)) → X h tk) (l1 := [_, _, _, _, _, _]) (l2 := _) rfl ?key ?rest1
  case key =>
    intro Qb hQ
    k_steps
    refine ⟨?_⟩
    refine KBw.len_K rfl (by rw [hlen]; exact Nat.le_trans hl20 (by decide)) ?_
    rw [hlen]
    k_steps
    refine ⟨?_⟩
    refine KBc.slice_K (s := ⟨_, _, _, _, _⟩) (by assumption) (by assumption) rfl (by constructor) (by constructor) (by rw [hlen]; exact Nat.le_trans hl20 (by decide)) ?_
    intro ha ta ka Fa Na hka
    replace hka := hka.trans (part_of (A := []) (B := KTBy.little 2 kn) H.is (by simp) (by simp [KTBy.little_length]))
    generalize KBy.picked b _ _ = ba at *
    k_steps
    refine ⟨?_⟩
    rename News _ _ _ _ => N1
    refine KFB.call_little N1 (.head _) hka (by rw [KTBy.little_length]; decide) ?_
    intro t2 k2
    rw [value_little 2 kn hk0 hk64]
    k_steps
    refine ⟨?_⟩
    refine KBc.slice_K (s := ⟨_, _, _, _, _⟩) (by assumption) (by assumption) rfl (by constructor) (by constructor) (by rw [hlen]; exact Nat.le_trans hl20 (by decide)) ?_
    intro hb tb kb Fb Nb hkb
    replace hkb := hkb.trans (part_of (A := KTBy.little 2 kn) (B := KTBy.little kn k) H.is (by simp [KTBy.little_length]) (by simp [KTBy.little_length]))
    generalize KBy.picked b _ _ = bb at *
    k_steps
    refine ⟨?_⟩
    refine' TreeSpec.use (deserialize w _ bb tb (by rw [bInts_size hkb, KTBy.little_length]; exact Nat.le_trans C.k2 (by decide))) ?mB ?mF ?mX ?mN ?mT ?mhd ?mhu ?mp ?_
    (case mB => k_asm); (case mF => k_asm); (case mX => k_asm); (case mN => k_asm); (case mT => k_asm); (case mhd => first | exact room2 (by assumption) (by rfl) | exact room1 (by assumption) (by rfl) | exact room3 (by assumption) (by rfl) | exact room4 (by assumption) (by rfl) | decide); (case mhu => first | exact room2 (by assumption) (by rfl) | exact room1 (by assumption) (by rfl) | exact room3 (by assumption) (by rfl) | exact room4 (by assumption) (by rfl) | decide)
    case mp => trivial
    intro r1 tl1 h3 tk3 F3 N3 ap3 hp3
    obtain ⟨t3, rfl⟩ := hp3
    rw [hkb, value_little kn k H.k0 H.k1]
    replace N3 := news_sub (a := (y, instObj 260 dy) :: (dy, recDict w u1 u2 u3 u4 u5 x .none .none (.int (2 + c.ks + 2 + c.vz + 4) l) .none n) :: nw) N3 (fun q hq => List.mem_append_right _ (.tail _ hq))
    k_steps
    (rename News _ _ _ _ => N4); refine' set_dict (dx := dy) (by assumption) ?k2 N4 (InstAt.of_news N4 (.head _) (.tail _ (.head _))) rfl ?k6 ?k7 ?k8 ?k9 rfl rfl (.tail hyd (.head hnd)) (Nat.le_of_ble_eq_true rfl) ?_; (case k2 => k_asm); (case k6 => k_is); (case k7 => k_is); (case k8 => k_is); (case k9 => k_is); intro h5 F5 N5; (dsimp only)
    k_steps
    exact hQ _ _ _ t3 _ (by assumption) N5 rfl rfl rfl
  case rest1 =>
    clear F' N'
    intro h tk m1 t1 t2 F1 N1 hms hmd hme
    have hvv : (vl : Int) ≤ c.vz := by rw [C.vz]; exact Int.ofNat_le.mpr hv1
    have hv0 : (0 : Int) ≤ vl := Int.natCast_nonneg vl
    refine cutn (fun X => ∀ h tk m ta tb, (Fr g' L' h m) → (News g' L' h ((y, instObj 260 dy) :: (dy, recDict w u1 u2 u3 u4 u5 x (.int k t1) .none (.int (2 + c.ks + 2 + c.vz + 4) l) .none n) :: nw)) → (m "self" = some (.ref y)) → (m "data" = some (.bytes b t)) → (m "end_used_value_length" = some (.int (2 + c.ks + 2) ta)) → (m "end_value" = some (.int (2 + c.ks + 2 + vl) tb)) → X h tk) (l1 := [_, _, _, _, _]) (l2 := _) rfl ?len ?rest2
    case len =>
      intro Qb hQ
      k_steps
      refine ⟨?_⟩
      refine KBc.slice_K (s := ⟨_, _, _, _, _⟩) (by assumption) (by assumption) rfl (by constructor) (by constructor) (by rw [hlen]; exact Nat.le_trans hl20 (by decide)) ?_
      intro hc tc kc Fc Nc hkc
      replace hkc := hkc.trans (part_of (A := KTBy.little 2 kn ++ KTBy.little kn k) (B := KTBy.little 2 vl) (by rw [H.is, List.append_assoc]) (by rw [C.ks]; simp only [List.length_append, KTBy.little_length]; omega) (by rw [C.ks]; simp only [List.length_append, KTBy.little_length]; omega))
      generalize KBy.picked b _ _ = bc at *
      k_steps
      refine ⟨?_⟩
      rename News _ _ _ _ => N3
      refine KFB.call_little N3 (.head _) hkc (by rw [KTBy.little_length]; decide) ?_
      intro t5 k5
      rw [value_little 2 vl hv0 (Int.lt_of_le_of_lt (Int.ofNat_le.mpr (Nat.le_trans hv1 v2)) (by decide))]
      replace N3 := news_sub N3 fun q hq => .tail _ hq
      k_steps
      exact hQ _ _ _ _ _ (by assumption) (by assumption) (by exact hms) (by exact hmd) rfl rfl
    case rest2 =>
      intro h tk m2 ta tb F2 N2 hms2 hmd2 hme2 hmv2
      refine cutn (fun X => ∀ h tk m ta, (Fr g' L' h m) → (News g' L' h ((y, instObj 260 dy) :: (dy, recDict w u1 u2 u3 u4 u5 x (.int k t1) .none (.int (2 + c.ks + 2 + c.vz + 4) l) .none n) :: nw)) → (m "self" = some (.ref y)) → (m "data" = some (.bytes b t)) → (m "end_used_value_length" = m2 "end_used_value_length") → (m "end_value" = m2 "end_value") → (m "overflow_page" = some (.int o ta)) → X h tk) (l1 := [_, _, _]) (l2 := _) rfl ?ov ?rest3
      case ov =>
        intro Qb hQ
        k_steps
        refine ⟨?_⟩
        refine KBc.slice_K (s := ⟨_, _, _, _, _⟩) (by assumption) (by assumption) rfl (by constructor) (by constructor) (by rw [hlen]; exact Nat.le_trans hl20 (by decide)) ?_
        intro hc tc kc Fc Nc hkc
        replace hkc := hkc.trans (part_of (A := KTBy.little 2 kn ++ (KTBy.little kn k ++ (KTBy.little 2 vl ++ vp))) (B := KTBy.little 4 o) (C := []) (by rw [H.is]; simp only [List.append_assoc, List.append_nil]) (by rw [C.ks, C.vz]; simp only [List.length_append, KTBy.little_length]; omega) (by rw [C.ks, C.vz]; simp only [List.length_append, KTBy.little_length]; omega))
        generalize KBy.picked b _ _ = bc at *
        k_steps
        refine ⟨?_⟩
        rename News _ _ _ _ => N3
        refine KFB.call_little N3 (.head _) hkc (by rw [KTBy.little_length]; decide) ?_
        intro t5 k5
        rw [value_little 4 o H.o0 H.o1]
        replace N3 := news_sub N3 fun q hq => .tail _ hq
        k_steps
        exact hQ _ _ _ _ (by assumption) (by assumption) (by exact hms2) (by exact hmd2) (by exact rfl) (by exact rfl) rfl
      case rest3 =>
        intro h tk m3 to F3 N3 hms3 hmd3 hme3 hmv3 hmo3
        replace hme3 := hme3.trans hme2
        replace hmv3 := hmv3.trans hmv2
        by_cases ho : o = 0
        · have hob : (o != 0) = false := by simp [ho]
          k_steps
          (rename News _ _ _ _ => N4); refine' set_dict (dx := dy) (by assumption) ?k2 N4 (InstAt.of_news N4 (.head _) (.tail _ (.head _))) rfl ?k6 ?k7 ?k8 ?k9 rfl rfl (.tail hyd (.head hnd)) (Nat.le_of_ble_eq_true rfl) ?_; (case k2 => k_asm); (case k6 => k_is); (case k7 => k_is); (case k8 => k_is); (case k9 => k_is); intro h5 F5 N5; (dsimp only)
          k_steps
          refine ⟨?_⟩
          refine KBc.slice_K (s := ⟨_, _, _, _, _⟩) (by assumption) (by assumption) rfl (by constructor) (by constructor) (by rw [hlen]; exact Nat.le_trans hl20 (by decide)) ?_
          intro hc tc kc Fc Nc hkc
          replace hkc := hkc.trans (part_of (A := KTBy.little 2 kn ++ (KTBy.little kn k ++ KTBy.little 2 vl)) (B := vp.take vl) (C := vp.drop vl ++ KTBy.little 4 o) (by rw [H.is, ← List.append_assoc (vp.take vl), List.take_append_drop]; simp only [List.append_assoc]) (by rw [C.ks]; simp only [List.length_append, KTBy.little_length]; omega) (by rw [C.ks]; simp only [List.length_append, KTBy.little_length, List.length_take]; omega))
          generalize KBy.picked b _ _ = bc at *
          k_steps
          (rename News _ _ _ _ => N4); refine' set_dict (dx := dy) (by assumption) ?k2 N4 (InstAt.of_news N4 (.head _) (.tail _ (.head _))) rfl ?k6 ?k7 ?k8 ?k9 rfl rfl (.tail hyd (.head hnd)) (Nat.le_of_ble_eq_true rfl) ?_; (case k2 => k_asm); (case k6 => k_is); (case k7 => k_is); (case k8 => k_is); (case k9 => k_is); intro h5 F5 N5; (dsimp only)
          k_steps
          refine hQ _ _ ?_
          k_steps
          exact post _ _ _ _ (by assumption) (by assumption) ⟨rfl, t1, _, _, rfl, .inl ⟨ho, rfl, bc, tc, rfl, hkc⟩⟩
        · have hob : (o != 0) = true := by simp [ho]
          k_steps
          (rename News _ _ _ _ => N4); refine' set_dict (dx := dy) (by assumption) ?k2 N4 (InstAt.of_news N4 (.head _) (.tail _ (.head _))) rfl ?k6 ?k7 ?k8 ?k9 rfl rfl (.tail hyd (.head hnd)) (Nat.le_of_ble_eq_true rfl) ?_; (case k2 => k_asm); (case k6 => k_is); (case k7 => k_is); (case k8 => k_is); (case k9 => k_is); intro h5 F5 N5; (dsimp only)
          k_steps
          (rename News _ _ _ _ => N4); refine' set_dict (dx := dy) (by assumption) ?k2 N4 (InstAt.of_news N4 (.head _) (.tail _ (.head _))) rfl ?k6 ?k7 ?k8 ?k9 rfl rfl (.tail hyd (.head hnd)) (Nat.le_of_ble_eq_true rfl) ?_; (case k2 => k_asm); (case k6 => k_is); (case k7 => k_is); (case k8 => k_is); (case k9 => k_is); intro h5 F5 N5; (dsimp only)
          k_steps
          refine hQ _ _ ?_
          k_steps
          exact post _ _ _ _ (by assumption) (by assumption) ⟨rfl, t1, _, _, rfl, .inr ⟨ho, rfl, to, rfl⟩⟩
end Mine
end

section
open PySem PySem.W PyProof.Rows
/-- between two texts: the walk forgets the lines of the text before, as a fresh process has none -/
theorem Mine.calm118 : ∀ (prog : Program) (w : World) (A : Around) (env : Env) (E : Value → Shared → Prop) (s : Shared) (Q : Flow → Shared → Prop), Q .next s → wpAny (model prog w) A (execs [] env) Q E s := by
  w_top off
  intro prog w A env E s Q h
  walk1
  exact h
end

section
open PySem PySem.W PyProof.Rows PySem.Calls
set_option Elab.async false
set_option linter.unusedSimpArgs false
set_option maxRecDepth 100000
set_option maxHeartbeats 4000000
namespace Mine
local macro_rules | `(tactic| walk_at "MINE spec") => `(tactic| ((case mB | mF | mX | mN | mT => k_asm); (case mhd | mhu => k_units)))
local macro_rules | `(tactic| walk_at "getAttr ref") => `(tactic| (k_here; k_dflt (refine' (conf_one ?h).use0 ?mB ?mF ?mX ?mN ?mT ?mhd ?mhu ?mp ?_; (case h => with_reducible constructor); (walk_at "MINE spec"); (case mp => exact ⟨_, by k_mem, by k_mem⟩); intro h' tk' F' N'; (try k_sweep))))
local macro_rules | `(tactic| walk_at "getMethod type:int") => `(tactic| (k_here; k_dflt ((with_reducible refine' KFB.getm ?kfbF ?kfbN ?kfbX ?kfbE ?_); (case kfbF => k_asm); (case kfbN => k_asm); (case kfbX => k_asm); (case kfbE => k_is); k_whole; intro x' h' F' N' l1; (try k_lt l1); (try k_sweep))))
local macro_rules | `(tactic| walk_at "call ref") => `(tactic| refine' Held.out ?_)
local macro_rules | `(tactic| walk_at "call builtin:len") => `(tactic| refine' Held.out ?_)
local macro_rules | `(tactic| walk_at "subscriptTail") => `(tactic| refine' Held.out ?_)
local macro_rules | `(tactic| k_all) => `(tactic| with_reducible assumption)
/-- what a reference's octets say -/
structure OctR (kn : Nat) (k b a : Int) (ks : List Int) : Prop where
  is : ks = KTBy.little 4 b ++ (KTBy.little 2 kn ++ (KTBy.little kn k ++ KTBy.little 4 a))
  k0 : 0 ≤ k
  k1 : k < 256 ^ kn
  b0 : 0 ≤ b
  b1 : b < 256 ^ 4
  a0 : 0 ≤ a
  a1 : a < 256 ^ 4
theorem ref_load (w : World) (x y dy : Addr) (c : Cf) (pn on kn vn : Nat) (u1 u2 u3 u4 u5 l : Tok) (n : Nat) (k rb ra : Int) (b : Array UInt8) (t : Tok) (nw : Led) (C : Cf1 c pn on kn vn) (H : OctR kn k rb ra (KBw.bInts b)) (hyd : y ≠ dy) (hnd : ∀ p ∈ nw, p.1 ≠ dy) :
    MutSpec w (call (.ref 284) [.ref y, .bytes b t]) 20
    (fun news => news = (y, instObj 301 dy) :: (dy, refDict w u1 u2 u3 u4 u5 x (.int (2 * 4 + 2 + c.ks) l) .none .none .none n) :: nw ∧ confIs x c.vals nw ∧ serIs c.ser nw)
    (fun r _ news' => r = .none ∧ ∃ t1 t2 t3, news' = (y, instObj 301 dy) :: (dy, refDict w u1 u2 u3 u4 u5 x (.int (2 * 4 + 2 + c.ks) l) (.int k t1) (.int rb t2) (.int ra t3) n) :: nw) := by
  unfold MutSpec
  k_fill
  intro mean mg mb dp un gd cn nms ig ic mo a ccd cl outer A₀ base h₀ L m news s Q E B F X N T hdp hun pre0 post
  obtain ⟨rfl, ⟨dc, hc1, hc2⟩, hs⟩ := pre0
  obtain ⟨ds, hs1, hs2⟩ := id hs
  have k2 := C.k2
  have k1 := C.k1
  have hlen : (KBw.bInts b).length = 4 + 2 + kn + 4 := by
    rw [H.is]
    simp only [List.length_append, KTBy.little_length]
    omega
  have hkk : (kn : Int) ≤ c.ks := Int.le_of_eq C.ks.symm
  have hk0 : (0 : Int) ≤ kn := Int.natCast_nonneg kn
  have hk64 : (kn : Int) < 256 ^ 2 := Int.lt_of_le_of_lt (Int.ofNat_le.mpr C.k2) (by decide)
  have hz : ((4 + 2 + kn + 4 : Nat) : Int) = 2 * 4 + 2 + c.ks := by rw [C.ks]; omega
  have hl20 : 4 + 2 + kn + 4 ≤ 4 + 2 + 3 + 4 := Nat.add_le_add_right (Nat.add_le_add_left C.k2 6) 4
  refine wpAny_call ?_
  k_dflt (refine' code_own ?k1 ?k2 ?k3 ?k4 ?k5 ?kA ?kF ?kK ?k6 ?k7 ?k8 ?k9 ?kB ?_ ?c5 ?c2 ?c3 ?c4; (case kA => exact rfl); (case kF => exact rfl); (case kK => exact rfl); (case k2 => k_asm); (case k1 => k_asm); (case k3 => k_asm); (case k4 => k_asm); (case k5 => k_asm); (case k6 => k_is); (case k7 => k_is); (case k8 => k_room); (case k9 => first | exact binds_K (by k_in) rfl (by k_is) rfl rfl rfl | exact BindsTo.of_eq rfl); (case kB => exact locs rfl); (case c5 => decide); (case c2 => exact rfl); (case c3 => exact rfl); (case c4 => exact rfl); k_whole; intro g' L' h' FG' F' N' B' X' T' Qb hQ; (try dsimp only); (try k_lift B'); (try k_fold))
  refine letA ?_
  intro A1
  refine letE ?_
  intro e1
  refine cutn (fun X => ∀ h tk m t1 t2, (Fr g' L' h m) → (News g' L' h ((y, instObj 301 dy) :: (dy, refDict w u1 u2 u3 u4 u5 x (.int (2 * 4 + 2 + c.ks) l) .none (.int rb t1) .none n) :: nw)) → (m "self" = some (.ref y)) → (m "data" = some (.bytes b t)) → (m "end_before" = some (.int 4 t2)) → X h tk) (l1 := [_, _, _]) (l2 := _) rfl ?bef ?rest1
  case bef =>
    intro Qb hQ
    k_steps
    refine ⟨?_⟩
    refine KBw.len_K rfl (by rw [hlen]; exact Nat.le_trans hl20 (by decide)) ?_
    rw [hlen]
    k_steps
    refine ⟨?_⟩
    refine KBc.slice_K (s := ⟨_, _, _, _, _⟩) (by assumption) (by assumption) rfl (by constructor) (by constructor) (by rw [hlen]; exact Nat.le_trans hl20 (by decide)) ?_
    intro ha ta ka Fa Na hka
    replace hka := hka.trans (part_of (A := []) (B := KTBy.little 4 rb) H.is (by simp) (by simp [KTBy.little_length]))
    generalize KBy.picked b _ _ = ba at *
    k_steps
    refine ⟨?_⟩
    rename News _ _ _ _ => N1
    refine KFB.call_little N1 (.head _) hka (by rw [KTBy.little_length]; decide) ?_
    intro t2 k2
    rw [value_little 4 rb H.b0 H.b1]
    replace N1 := news_sub N1 fun q hq => .tail _ hq
    k_steps
    (rename News _ _ _ _ => N4); refine' set_dict (dx := dy) (by assumption) ?k2 N4 (InstAt.of_news N4 (.head _) (.tail _ (.head _))) rfl ?k6 ?k7 ?k8 ?k9 rfl rfl (.tail hyd (.head hnd)) (Nat.le_of_ble_eq_true rfl) ?_; (case k2 => k_asm); (case k6 => k_is); (case k7 => k_is); (case k8 => k_is); (case k9 => k_is); intro h5 F5 N5; (dsimp only)
    k_steps
    exact hQ _ _ _ _ _ (by assumption) (by assumption) rfl rfl rfl
  case rest1 =>
    clear F' N'
    intro h tk m1 t1 t2 F1 N1 hms hmd hme
    refine cutn (fun X => ∀ h tk m ta tb, (Fr g' L' h m) → (News g' L' h ((y, instObj 301 dy) :: (dy, refDict w u1 u2 u3 u4 u5 x (.int (2 * 4 + 2 + c.ks) l) (.int k ta) (.int rb t1) .none n) :: nw)) → (m "self" = some (.ref y)) → (m "data" = some (.bytes b t)) → (m "end_used_key_length" = some (.int (4 + 2) tb)) → X h tk) (l1 := [_, _, _, _, _]) (l2 := _) rfl ?key ?rest2
    case key =>
      intro Qb hQ
      k_steps
      refine ⟨?_⟩
      refine KBc.slice_K (s := ⟨_, _, _, _, _⟩) (by assumption) (by assumption) rfl (by constructor) (by constructor) (by rw [hlen]; exact Nat.le_trans hl20 (by decide)) ?_
      intro hc tc kc Fc Nc hkc
      replace hkc := hkc.trans (part_of (A := KTBy.little 4 rb) (B := KTBy.little 2 kn) H.is (by simp [KTBy.little_length]) (by simp [KTBy.little_length]))
      generalize KBy.picked b _ _ = bc at *
      k_steps
      refine ⟨?_⟩
      rename News _ _ _ _ => N3
      refine KFB.call_little N3 (.head _) hkc (by rw [KTBy.little_length]; decide) ?_
      intro t5 k5
      rw [value_little 2 kn hk0 hk64]
      replace N3 := news_sub N3 fun q hq => .tail _ hq
      k_steps
      refine ⟨?_⟩
      refine KBc.slice_K (s := ⟨_, _, _, _, _⟩) (by assumption) (by assumption) rfl (by constructor) (by constructor) (by rw [hlen]; exact Nat.le_trans hl20 (by decide)) ?_
      intro hb tb kb Fb Nb hkb
      replace hkb := hkb.trans (part_of (A := KTBy.little 4 rb ++ KTBy.little 2 kn) (B := KTBy.little kn k) (C := KTBy.little 4 ra) (by rw [H.is]; simp only [List.append_assoc]) (by simp only [List.length_append, KTBy.little_length]; omega) (by simp only [List.length_append, KTBy.little_length]; omega))
      generalize KBy.picked b _ _ = bb at *
      k_steps
      refine ⟨?_⟩
      refine' TreeSpec.use (deserialize w _ bb tb (by rw [bInts_size hkb, KTBy.little_length]; exact Nat.le_trans C.k2 (by decide))) ?mB ?mF ?mX ?mN ?mT ?mhd ?mhu ?mp ?_
      (case mB => k_asm); (case mF => k_asm); (case mX => k_asm); (case mN => k_asm); (case mT => k_asm); (case mhd => first | exact room2 (by assumption) (by rfl) | exact room1 (by assumption) (by rfl) | exact room3 (by assumption) (by rfl) | exact room4 (by assumption) (by rfl) | decide); (case mhu => first | exact room2 (by assumption) (by rfl) | exact room1 (by assumption) (by rfl) | exact room3 (by assumption) (by rfl) | exact room4 (by assumption) (by rfl) | decide)
      case mp => trivial
      intro r1 tl1 h3 tk3 F3 N3 ap3 hp3
      obtain ⟨t3, rfl⟩ := hp3
      rw [hkb, value_little kn k H.k0 H.k1]
      replace N3 := news_sub N3 (fun q hq => List.mem_append_right _ hq)
      k_steps
      (rename News _ _ _ _ => N4); refine' set_dict (dx := dy) (by assumption) ?k2 N4 (InstAt.of_news N4 (.head _) (.tail _ (.head _))) rfl ?k6 ?k7 ?k8 ?k9 rfl rfl (.tail hyd (.head hnd)) (Nat.le_of_ble_eq_true rfl) ?_; (case k2 => k_asm); (case k6 => k_is); (case k7 => k_is); (case k8 => k_is); (case k9 => k_is); intro h5 F5 N5; (dsimp only)
      k_steps
      exact hQ _ _ _ _ _ (by assumption) (by assumption) (by exact hms) (by exact hmd) rfl
    case rest2 =>
      intro h tk m2 ta tb F2 N2 hms2 hmd2 hme2
      k_steps
      refine ⟨?_⟩
      refine KBc.slice_K (s := ⟨_, _, _, _, _⟩) (by assumption) (by assumption) rfl (by constructor) (by constructor) (by rw [hlen]; exact Nat.le_trans hl20 (by decide)) ?_
      intro hc tc kc Fc Nc hkc
      replace hkc := hkc.trans (part_of (A := KTBy.little 4 rb ++ (KTBy.little 2 kn ++ KTBy.little kn k)) (B := KTBy.little 4 ra) (C := []) (by rw [H.is]; simp only [List.append_assoc, List.append_nil]) (by rw [C.ks]; simp only [List.length_append, KTBy.little_length]; omega) (by rw [C.ks]; simp only [List.length_append, KTBy.little_length]; omega))
      generalize KBy.picked b _ _ = bc at *
      k_steps
      refine ⟨?_⟩
      rename News _ _ _ _ => N3
      refine KFB.call_little N3 (.head _) hkc (by rw [KTBy.little_length]; decide) ?_
      intro t5 k5
      rw [value_little 4 ra H.a0 H.a1]
      replace N3 := news_sub N3 fun q hq => .tail _ hq
      k_steps
      (rename News _ _ _ _ => N4); refine' set_dict (dx := dy) (by assumption) ?k2 N4 (InstAt.of_news N4 (.head _) (.tail _ (.head _))) rfl ?k6 ?k7 ?k8 ?k9 rfl rfl (.tail hyd (.head hnd)) (Nat.le_of_ble_eq_true rfl) ?_; (case k2 => k_asm); (case k6 => k_is); (case k7 => k_is); (case k8 => k_is); (case k9 => k_is); intro h5 F5 N5; (dsimp only)
      k_steps
      refine hQ _ _ ?_
      k_steps
      exact post _ _ _ _ (by assumption) (by assumption) ⟨rfl, _, _, _, rfl⟩
end Mine
end

section
open PySem PySem.W PyProof.Rows
/-- between two texts: the walk forgets the lines of the text before, as a fresh process has none -/
theorem Mine.calm120 : ∀ (prog : Program) (w : World) (A : Around) (env : Env) (E : Value → Shared → Prop) (s : Shared) (Q : Flow → Shared → Prop), Q .next s → wpAny (model prog w) A (execs [] env) Q E s := by
  w_top off
  intro prog w A env E s Q h
  walk1
  exact h
end

section
open PySem PySem.W PyProof.Rows PySem.Calls
set_option Elab.async false
set_option maxRecDepth 100000
set_option maxHeartbeats 4000000
namespace Mine
local macro_rules | `(tactic| walk_at "MINE spec") => `(tactic| ((case mB | mF | mX | mN | mT => k_asm); (case mhd | mhu => k_units)))
local macro_rules | `(tactic| walk_at "getAttr ref") => `(tactic| (k_here; k_dflt (refine' (conf_one ?h).use0 ?mB ?mF ?mX ?mN ?mT ?mhd ?mhu ?mp ?_; (case h => with_reducible constructor); (walk_at "MINE spec"); (case mp => exact ⟨_, by k_mem, by k_mem⟩); intro h' tk' F' N'; (try k_sweep))))
local macro_rules | `(tactic| k_enter) => `(tactic| refine' Held.out ?_)
local macro_rules | `(tactic| walk_at "call ref") => `(tactic| ((with_reducible rename HoldM => hM); refine' Held.out ?_))
inductive Tri (a b c : Value) : Value → Value → Value → Prop
  | mk : Tri a b c a b c
/-- how a record is called for -/
inductive RecIn (x : Addr) : List Value → List (Str × Value) → Value → Value → Value → Value → Prop
  | v (key v : Value) : RecIn x [.ref x, key] [("value", v)] key v .none .none
  | o (key o : Value) : RecIn x [.ref x, key] [("overflow_page", o)] key .none o .none
  | c : RecIn x [.ref x] [] .none .none .none .none
  | d (D : Value) : RecIn x [.ref x] [("data", D)] .none .none .none D
/-- what becomes of its key, value and overflow page -/
inductive RecTo (kn vn : Nat) : Value → Value → Value → Value → Nat → (Value → Value → Value → Prop) → Prop
  | n (key v ov : Value) (hv : v = .none ∨ ∃ b u, v = .bytes b u ∧ b.size ≤ vn) : RecTo kn vn key v ov .none 12 (Tri key v ov)
  | d (b : Array UInt8) (t : Tok) (k : Int) (vl : Nat) (vp : List Int) (o : Int) (H : Oct kn vn k vl vp o (KBw.bInts b)) : RecTo kn vn .none .none .none (.bytes b t) 34
      (fun k' v' o' => (∃ t1, k' = .int k t1) ∧ ((o = 0 ∧ o' = .none ∧ ∃ b2 t2, v' = .bytes b2 t2 ∧ KBw.bInts b2 = vp.take vl) ∨ (o ≠ 0 ∧ v' = .none ∧ ∃ t2, o' = .int o t2)))
/-- a record was made -/
inductive RecMade (w : World) (x : Addr) (c : Cf) (P : Value → Value → Value → Prop) : Value → Led → Prop
  | mk (y dy : Addr) (u1 u2 u3 u4 u5 l : Tok) (n : Nat) (k' v' o' : Value) (h : P k' v' o') : RecMade w x c P (.ref y) [(y, instObj 260 dy), (dy, recDict w u1 u2 u3 u4 u5 x k' v' (.int (2 + c.ks + 2 + c.vz + 4) l) o' n)]
theorem rec_make (w : World) (x : Addr) (c : Cf) (pn on kn vn : Nat) (key v ov D : Value) (cost : Nat) (P : Value → Value → Value → Prop) (pos : List Value) (kw : List (Str × Value)) (C : Cf1 c pn on kn vn) (ha : RecIn x pos kw key v ov D) (H : RecTo kn vn key v ov D cost P) :
    TreeSpec w (call (.ref 260) pos kw) cost
    (fun news => confIs x c.vals news ∧ (D ≠ .none → serIs c.ser news))
    (fun r _ tl => RecMade w x c P r tl) := by
  unfold TreeSpec
  k_fill
  intro mean mg mb dp un gd cn nms ig ic mo a ccd cl outer A₀ base h₀ L m news s Q E B F X N T hdp hun pre0 post
  obtain ⟨⟨dc, hm, hm'⟩, hs⟩ := pre0
  have hk2 := C.k2
  have hv2 := C.v2
  have hcost : 12 ≤ cost := by cases H <;> decide
  have hdp1 : dp + 12 < 400 := Nat.lt_of_le_of_lt (Nat.add_le_add_left hcost dp) hdp
  have hun1 : un + 8 * 12 < 5000 := Nat.lt_of_le_of_lt (Nat.add_le_add_left (Nat.mul_le_mul_left 8 hcost) un) hun
  k_steps
  refine ⟨?_⟩
  rename_i y dy h1 F1 N1 l1 l2
  have hyd : y ≠ dy := Ne.symm (Nat.ne_of_lt l2)
  have hnd : ∀ p ∈ news, p.1 ≠ dy := fun p hp => Nat.ne_of_lt (ktn_ltOf l1 p hp)
  have hny : ∀ p ∈ news, p.1 ≠ y := fun p hp => Nat.ne_of_lt (Nat.lt_trans (ktn_ltOf l1 p hp) l2)
  refine' code_own (binds := [("self", .ref y), ("tree_conf", .ref x), ("key", key), ("value", v), ("data", D), ("overflow_page", ov)]) ?mB ?mF ?mX ?mN ?mT rfl rfl rfl ?mho ?mhc ?mroom ?mbind ?mloc ?_ ?mcell ?mco ?mge ?mki
  case mB => k_asm
  case mF => k_asm
  case mX => k_asm
  case mN => k_asm
  case mT => k_asm
  case mho => k_is
  case mhc => k_is
  case mroom => k_room
  case mbind =>
    clear H hs
    cases ha
    all_goals first | exact BindsTo.of_eq rfl | exact binds_K (by k_in) rfl (by k_is) rfl rfl rfl
  case mcell => decide
  case mco => exact rfl
  case mge => exact rfl
  case mki => exact rfl
  case mloc => exact locs rfl
  intro g' L' h' FG' F' N' B' X' T' Qb hQ
  try dsimp only
  try k_fold
  refine letA ?_
  intro A1
  refine letE ?_
  intro e1
  refine cutn (fun X => ∀ h tk m u1 u2 u3 u4 u5 l n, (Fr g' L' h m) → (News g' L' h ((y, instObj 260 dy) :: (dy, recDict w u1 u2 u3 u4 u5 x key v (.int (2 + c.ks + 2 + c.vz + 4) l) ov n) :: news)) → (m "self" = some (.ref y)) → (m "data" = some D) → X h tk) (l1 := [_, _, _, _, _]) (l2 := _) rfl ?zset ?rest1
  case zset =>
    intro Qb hQ
    k_steps
    exact hQ _ _ _ _ _ _ _ _ _ _ (by assumption) (by assumption) rfl rfl
  case rest1 =>
    clear F' N'
    intro h tk m1 u1 u2 u3 u4 u5 l n F2 N2 hms hmd
    refine cutn (fun X => ∀ h tk k' v' o', (Fr g' L' h m1) → (News g' L' h ((y, instObj 260 dy) :: (dy, recDict w u1 u2 u3 u4 u5 x k' v' (.int (2 + c.ks + 2 + c.vz + 4) l) o' n) :: news)) → (P k' v' o') → (v' = .none ∨ ∃ b u, v' = .bytes b u ∧ b.size ≤ vn) → X h tk) (l1 := [_]) (l2 := _) rfl ?zif ?rest2
    case zif =>
      intro Qc hQc
      clear hcost
      cases H with
      | n key v ov hv =>
        k_steps
        exact hQc _ _ _ _ _ (by assumption) (by assumption) .mk hv
      | d b t k vl vp o H =>
        have hbs : b.size = 2 + kn + 2 + vn + 4 := by
          rw [← KBw.ints_length, H.is]
          simp only [List.length_append, KTBy.little_length, H.vp]
          omega
        have hbz : b.size ≤ 100 := by omega
        have hbn : ((b.size : Int) != 0) = true := by
          rw [bne_iff_ne]
          omega
        have hM : HoldM := {}
        k_steps
        refine ⟨?_⟩
        refine' MutSpec.use (rec_load w x y dy c pn on kn vn u1 u2 u3 u4 u5 l n k vl vp o b t news C H hyd hnd) ?mB ?mF ?mX ?mN ?mT ?mhd ?mhu ?mp ?_
        (case mB => k_asm); (case mF => k_asm); (case mX => k_asm); (case mN => k_asm); (case mT => k_asm); (case mhd => first | exact room2 (by assumption) (by rfl) | exact room1 (by assumption) (by rfl) | exact room3 (by assumption) (by rfl) | exact room4 (by assumption) (by rfl) | decide); (case mhu => first | exact room2 (by assumption) (by rfl) | exact room1 (by assumption) (by rfl) | exact room3 (by assumption) (by rfl) | exact room4 (by assumption) (by rfl) | decide)
        case mp => exact ⟨rfl, ⟨dc, hm, hm'⟩, hs (fun e => nomatch e)⟩
        intro r2 nw2 h2 tk2 F3 N3 hp
        obtain ⟨rfl, t1, v, ov, rfl, hp⟩ := hp
        k_steps
        refine hQc _ _ _ _ _ (by assumption) (by assumption) ⟨⟨t1, rfl⟩, hp⟩ ?_
        rcases hp with ⟨ho, rfl, b2, t2, rfl, hb2⟩ | ⟨ho, rfl, t2, rfl⟩
        · refine .inr ⟨b2, t2, rfl, ?_⟩
          rw [bInts_size hb2, List.length_take]
          exact Nat.le_trans (Nat.min_le_left _ _) H.v1
        · exact .inl rfl
    case rest2 =>
      clear F2 N2 hmd
      intro h tk k' v' o' F2 N2 hP hv'
      rcases hv' with rfl | ⟨b2, t2, rfl, hz2⟩
      · k_steps
        refine hQ _ _ ?_
        k_steps
        exact ⟨rfl, post _ [_, _] _ _ (by assumption) (by assumption) (Apart.cons hny (Apart.cons hnd Apart.nil)) (.mk y dy u1 u2 u3 u4 u5 l n k' _ o' hP)⟩
      · have hv3 : (b2.size : Int) ≤ c.vz := C.vz ▸ Int.ofNat_le.mpr hz2
        have hz3 : b2.size ≤ 100 := Nat.le_trans hz2 (Nat.le_trans hv2 (by decide))
        k_steps
        all_goals (refine hQ _ _ ?_; k_steps; exact ⟨rfl, post _ [_, _] _ _ (by assumption) (by assumption) (Apart.cons hny (Apart.cons hnd Apart.nil)) (.mk y dy u1 u2 u3 u4 u5 l n k' _ o' hP)⟩)
/-- how a reference is called for -/
inductive RefIn (x : Addr) : List Value → List (Str × Value) → Value → Value → Value → Value → Prop
  | m (k b a : Value) : RefIn x [.ref x, k, b, a] [] k b a .none
  | c : RefIn x [.ref x] [] .none .none .none .none
  | d (D : Value) : RefIn x [.ref x] [("data", D)] .none .none .none D
inductive RefTo (kn : Nat) : Value → Value → Value → Value → Nat → (Value → Value → Value → Prop) → Prop
  | n (key b a : Value) : RefTo kn key b a .none 12 (Tri key b a)
  | d (b : Array UInt8) (t : Tok) (k rb ra : Int) (H : OctR kn k rb ra (KBw.bInts b)) : RefTo kn .none .none .none (.bytes b t) 34 (fun k' b' a' => (∃ t1, k' = .int k t1) ∧ (∃ t2, b' = .int rb t2) ∧ ∃ t3, a' = .int ra t3)
/-- a reference was made -/
inductive RefMade (w : World) (x : Addr) (c : Cf) (P : Value → Value → Value → Prop) : Value → Led → Prop
  | mk (y dy : Addr) (u1 u2 u3 u4 u5 l : Tok) (n : Nat) (k' b' a' : Value) (h : P k' b' a') : RefMade w x c P (.ref y) [(y, instObj 301 dy), (dy, refDict w u1 u2 u3 u4 u5 x (.int (2 * 4 + 2 + c.ks) l) k' b' a' n)]
theorem ref_make (w : World) (x : Addr) (c : Cf) (pn on kn vn : Nat) (key bv av D : Value) (cost : Nat) (P : Value → Value → Value → Prop) (pos : List Value) (kw : List (Str × Value)) (C : Cf1 c pn on kn vn) (ha : RefIn x pos kw key bv av D) (H : RefTo kn key bv av D cost P) :
    TreeSpec w (call (.ref 301) pos kw) cost
    (fun news => confIs x c.vals news ∧ (D ≠ .none → serIs c.ser news))
    (fun r _ tl => RefMade w x c P r tl) := by
  unfold TreeSpec
  k_fill
  intro mean mg mb dp un gd cn nms ig ic mo a ccd cl outer A₀ base h₀ L m news s Q E B F X N T hdp hun pre0 post
  obtain ⟨⟨dc, hm, hm'⟩, hs⟩ := pre0
  have hk2 := C.k2
  have hcost : 12 ≤ cost := by cases H <;> decide
  have hdp1 : dp + 12 < 400 := Nat.lt_of_le_of_lt (Nat.add_le_add_left hcost dp) hdp
  have hun1 : un + 8 * 12 < 5000 := Nat.lt_of_le_of_lt (Nat.add_le_add_left (Nat.mul_le_mul_left 8 hcost) un) hun
  k_steps
  refine ⟨?_⟩
  rename_i y dy h1 F1 N1 l1 l2
  have hyd : y ≠ dy := Ne.symm (Nat.ne_of_lt l2)
  have hnd : ∀ p ∈ news, p.1 ≠ dy := fun p hp => Nat.ne_of_lt (ktn_ltOf l1 p hp)
  have hny : ∀ p ∈ news, p.1 ≠ y := fun p hp => Nat.ne_of_lt (Nat.lt_trans (ktn_ltOf l1 p hp) l2)
  refine' code_own (binds := [("self", .ref y), ("tree_conf", .ref x), ("key", key), ("before", bv), ("after", av), ("data", D)]) ?mB ?mF ?mX ?mN ?mT rfl rfl rfl ?mho ?mhc ?mroom ?mbind ?mloc ?_ ?mcell ?mco ?mge ?mki
  case mB => k_asm
  case mF => k_asm
  case mX => k_asm
  case mN => k_asm
  case mT => k_asm
  case mho => k_is
  case mhc => k_is
  case mroom => k_room
  case mbind =>
    clear H hs
    cases ha
    all_goals first | exact BindsTo.of_eq rfl | exact binds_K (by k_in) rfl (by k_is) rfl rfl rfl
  case mcell => decide
  case mco => exact rfl
  case mge => exact rfl
  case mki => exact rfl
  case mloc => exact locs rfl
  intro g' L' h' FG' F' N' B' X' T' Qb hQ
  try dsimp only
  try k_fold
  refine letA ?_
  intro A1
  refine letE ?_
  intro e1
  refine cutn (fun X => ∀ h tk m u1 u2 u3 u4 u5 l n, (Fr g' L' h m) → (News g' L' h ((y, instObj 301 dy) :: (dy, refDict w u1 u2 u3 u4 u5 x (.int (2 * 4 + 2 + c.ks) l) key bv av n) :: news)) → (m "self" = some (.ref y)) → (m "data" = some D) → X h tk) (l1 := [_, _, _, _, _]) (l2 := _) rfl ?zset ?rest1
  case zset =>
    intro Qb hQ
    k_steps
    exact hQ _ _ _ _ _ _ _ _ _ _ (by assumption) (by assumption) rfl rfl
  case rest1 =>
    clear F' N' hcost
    intro h tk m1 u1 u2 u3 u4 u5 l n F2 N2 hms hmd
    cases H with
    | n key bv av =>
      k_steps
      refine hQ _ _ ?_
      k_steps
      exact ⟨rfl, post _ [_, _] _ _ (by assumption) (by assumption) (Apart.cons hny (Apart.cons hnd Apart.nil)) (.mk y dy u1 u2 u3 u4 u5 l n _ _ _ .mk)⟩
    | d b t k rb ra H =>
      have hbs : b.size = 4 + 2 + kn + 4 := by
        rw [← KBw.ints_length, H.is]
        simp only [List.length_append, KTBy.little_length]
        omega
      have hbz : b.size ≤ 100 := by omega
      have hbn : ((b.size : Int) != 0) = true := by
        rw [bne_iff_ne]
        omega
      have hM : HoldM := {}
      k_steps
      refine ⟨?_⟩
      refine' MutSpec.use (ref_load w x y dy c pn on kn vn u1 u2 u3 u4 u5 l n k rb ra b t news C H hyd hnd) ?mB ?mF ?mX ?mN ?mT ?mhd ?mhu ?mp ?_
      (case mB => k_asm); (case mF => k_asm); (case mX => k_asm); (case mN => k_asm); (case mT => k_asm); (case mhd => first | exact room2 (by assumption) (by rfl) | exact room1 (by assumption) (by rfl) | exact room3 (by assumption) (by rfl) | exact room4 (by assumption) (by rfl) | decide); (case mhu => first | exact room2 (by assumption) (by rfl) | exact room1 (by assumption) (by rfl) | exact room3 (by assumption) (by rfl) | exact room4 (by assumption) (by rfl) | decide)
      case mp => exact ⟨rfl, ⟨dc, hm, hm'⟩, hs (fun e => nomatch e)⟩
      intro r2 nw2 h2 tk2 F3 N3 hp
      obtain ⟨rfl, t1, t2, t3, rfl⟩ := hp
      k_steps
      refine hQ _ _ ?_
      k_steps
      exact ⟨rfl, post _ [_, _] _ _ (by assumption) (by assumption) (Apart.cons hny (Apart.cons hnd Apart.nil)) (.mk y dy u1 u2 u3 u4 u5 l n _ _ _ ⟨⟨t1, rfl⟩, ⟨t2, rfl⟩, ⟨t3, rfl⟩⟩)⟩
end Mine
end

section
open PySem PySem.W PyProof.Rows
/-- between two texts: the walk forgets the lines of the text before, as a fresh process has none -/
theorem Mine.calm122 : ∀ (prog : Program) (w : World) (A : Around) (env : Env) (E : Value → Shared → Prop) (s : Shared) (Q : Flow → Shared → Prop), Q .next s → wpAny (model prog w) A (execs [] env) Q E s := by
  w_top off
  intro prog w A env E s Q h
  walk1
  exact h
end

section
open PySem PySem.W PyProof.Rows PySem.Calls
set_option Elab.async false
set_option linter.unusedSimpArgs false
set_option maxRecDepth 100000
set_option maxHeartbeats 4000000
namespace Mine
local macro_rules | `(tactic| k_is) => `(tactic| (rename OneOf _ _ => q9; first | (clear q9; k_is) | (with_reducible first | apply q9.find4 | apply q9.over4 | apply q9.taker4 | apply q9.dict4 | apply q9.plain4 | apply q9.find2 | apply q9.over2 | apply q9.taker2 | apply q9.dict2 | apply q9.plain2 | apply q9.mro2) <;> k_is))
local macro_rules | `(tactic| walk_at "LoopP") => `(tactic| refine' Held.out ?_)
local macro_rules | `(tactic| walk_at "call ref") => `(tactic| ((with_reducible rename HoldM => hM); refine' Held.out ?_))
local macro_rules | `(tactic| walk_at "call type:bytes") => `(tactic| refine' Held.out ?_)
local macro_rules | `(tactic| walk_at "call builtin:list.append") => `(tactic| refine' Held.out ?_)
theorem node_append (w : World) (C y z le x : Addr) (nt mn mx : Value) (ec : Addr) (page par nx : Value) (vs : List Value) (n : Nat) (hC : OneOf anyNode C) (hz : vs.length < 1000) :
    MutSpec w (call (.ref 401) [.ref y, .ref z]) 8
    (fun news => nodeIs w C y le x nt mn mx ec page par nx news ∧ (le, lst vs n) ∈ news)
    (fun r news news' => r = .none ∧ news' = (le, lst (vs ++ [.ref z]) (n + 1)) :: rest le news) := by
  unfold MutSpec
  k_fill
  intro mean mg mb dp un gd cn nms ig ic mo a ccd cl outer A₀ base h₀ L m news s Q E B F X N T hdp hun pre0 post
  obtain ⟨hnode, hle⟩ := pre0
  refine nodeIs.elim hnode ?_
  intro dy u1 u2 u3 u4 u5 u6 u7 u8 u9 n9 hm hm'
  refine wpAny_call ?_
  k_dflt (refine' code_own ?k1 ?k2 ?k3 ?k4 ?k5 ?kA ?kF ?kK ?k6 ?k7 ?k8 ?k9 ?kB ?_ ?c5 ?c2 ?c3 ?c4; (case kA => exact rfl); (case kF => exact rfl); (case kK => exact rfl); (case k2 => k_asm); (case k1 => k_asm); (case k3 => k_asm); (case k4 => k_asm); (case k5 => k_asm); (case k6 => k_is); (case k7 => k_is); (case k8 => k_room); (case k9 => first | exact binds_K (by k_in) rfl (by k_is) rfl rfl rfl | exact BindsTo.of_eq rfl); (case kB => exact locs rfl); (case c5 => decide); (case c2 => exact rfl); (case c3 => exact rfl); (case c4 => exact rfl); k_whole; intro g' L' h' FG' F' N' B' X' T' Qb hQ; (try dsimp only); (try k_lift B'); (try k_fold))
  refine letA ?_
  intro A1
  refine letE ?_
  intro e1
  k_steps
  refine ⟨?_⟩
  refine append_led (by assumption) (by assumption) hle hz ?_
  intro h2 F2 N2
  k_steps
  refine hQ _ _ ?_
  k_steps
  exact post _ _ _ _ (by assumption) (by assumption) ⟨rfl, rfl⟩
/-- an entry with a row's key and values -/
inductive EntR (w : World) (x : Addr) (news : Led) : Addr → Row → Prop
  | rf {a : Addr} {k b c : Int} {t1 t2 : Tok} (h : refIs w x a k (.int b t1) (.int c t2) news) : EntR w x news a (.rf k b c)
  | rv {a : Addr} {k len : Int} {b0 : Array UInt8} {t0 : Tok} {v : List Int} (h : rec1 w x a k (.bytes b0 t0) len .none news) (hb : KBw.bInts b0 = v) : EntR w x news a (.rc k v 0)
  | ro {a : Addr} {k len o : Int} {t0 : Tok} {v : List Int} (h : rec1 w x a k .none len (.int o t0) news) (ho : o ≠ 0) : EntR w x news a (.rc k v o)
theorem EntR.sub {w : World} {x a : Addr} {r : Row} {news news' : Led} (h : EntR w x news a r) (s : ∀ q ∈ news, (∀ l n, q.2 ≠ lst l n) → q ∈ news') : EntR w x news' a r := by
  cases h with
  | rf h =>
    obtain ⟨dy, u1, u2, u3, u4, u5, t, l, n, h1, h2⟩ := h
    exact .rf ⟨dy, u1, u2, u3, u4, u5, t, l, n, s _ h1 fun _ _ e => (nomatch congrArg Obj.cls e), s _ h2 fun _ _ e => absurd (congrArg Obj.cls e) (show ¬Value.type "dict" = Value.type "list" by decide)⟩
  | rv h hb =>
    obtain ⟨dy, u1, u2, u3, u4, u5, t, l, n, h1, h2⟩ := h
    exact .rv ⟨dy, u1, u2, u3, u4, u5, t, l, n, s _ h1 fun _ _ e => (nomatch congrArg Obj.cls e), s _ h2 fun _ _ e => absurd (congrArg Obj.cls e) (show ¬Value.type "dict" = Value.type "list" by decide)⟩ hb
  | ro h ho =>
    obtain ⟨dy, u1, u2, u3, u4, u5, t, l, n, h1, h2⟩ := h
    exact .ro ⟨dy, u1, u2, u3, u4, u5, t, l, n, s _ h1 fun _ _ e => (nomatch congrArg Obj.cls e), s _ h2 fun _ _ e => absurd (congrArg Obj.cls e) (show ¬Value.type "dict" = Value.type "list" by decide)⟩ ho
abbrev EntRs (w : World) (x : Addr) (news : Led) : List Value → List Row → Prop := All2 fun v r => ∃ a, v = .ref a ∧ EntR w x news a r
/-- a row that fits into octets -/
def Row.fit (rec : Bool) (kn vn : Nat) : Row → Prop
  | .rf k b a => rec = false ∧ (0 ≤ k ∧ k < 256 ^ kn) ∧ (0 ≤ b ∧ b < 256 ^ 4) ∧ (0 ≤ a ∧ a < 256 ^ 4)
  | .rc k v o => rec = true ∧ (0 ≤ k ∧ k < 256 ^ kn) ∧ v.length ≤ vn ∧ (∀ e ∈ v, 0 ≤ e ∧ e < 256) ∧ (0 ≤ o ∧ o < 256 ^ 4)
/-- the loop of _law_fill after i rows -/
inductive FilAt (w : World) (x y le D : Addr) (kd : Int) (t : Tok) (us : List Value) (n : Nat) (rows : List Row) (news : Led) (i : Nat) (m : Str → Option Value) (nw : Led) : Prop
  | mk (vs : List Value) (nn : Nat) (h1 : m "conf" = some (.ref x)) (h2 : m "node" = some (.ref y)) (h3 : m "kind" = some (.int kd t)) (hl : (le, lst vs nn) ∈ nw) (he : EntRs w x nw vs (rows.take i)) (hD : (D, lst us n) ∈ nw) (hv : All2 (RowIs le nw) us rows) (hk : ∀ q ∈ news, q.1 ≠ le → q ∈ nw) : FilAt w x y le D kd t us n rows news i m nw
theorem lawfill (w : World) (x y D le C : Addr) (c : Cf) (pn on kn vn : Nat) (rec : Bool) (kd : Int) (t : Tok) (us : List Value) (n n0 : Nat) (rows : List Row) (nt mn mx : Value) (ec : Addr) (page par nx : Value) (hc : Cf1 c pn on kn vn) (hkd : KindB rec kd) (hr : ∀ r ∈ rows, Row.fit rec kn vn r) (hk : rows.length ≤ 8) (hC : OneOf anyNode C) (hne : D ≠ le) :
    MutSpec w (call (.ref 723) [.ref x, .ref y, .int kd t, .ref D]) 40 (fun news => confIs x c.vals news ∧ nodeIs w C y le x nt mn mx ec page par nx news ∧ (le, lst [] n0) ∈ news ∧ (D, lst us n) ∈ news ∧ All2 (RowIs le news) us rows)
    (fun r news news' => r = Value.none ∧ ∃ vs nn, (le, lst vs nn) ∈ news' ∧ EntRs w x news' vs rows ∧ ∀ q ∈ news, q.1 ≠ le → q ∈ news') := by
  unfold MutSpec
  k_fill
  intro mean mg mb dp un gd cn nms ig ic mo a ccd cl outer A₀ base h₀ L m news s Q E B F X N T hdp hun pre0 post
  obtain ⟨⟨dc, hc1, hc2⟩, hnode, hle, hD, hrows⟩ := pre0
  refine nodeIs.elim hnode ?_
  intro dy u1 u2 u3 u4 u5 u6 u7 u8 u9 n9 hm hm'
  have hul := hrows.len
  have hcle1 : x ≠ le := news_ne N hc1 hle fun e => by simp at e
  have hcle2 : dc ≠ le := news_ne N hc2 hle fun e => by simp [emptyDict] at e
  have hyle : y ≠ le := news_ne N hm hle fun e => nomatch congrArg Obj.cls e
  have hdle : dy ≠ le := news_ne N hm' hle fun e => absurd (congrArg Obj.cls e) (show ¬Value.type "dict" = Value.type "list" by decide)
  refine wpAny_call ?_
  k_dflt (refine' code_own ?k1 ?k2 ?k3 ?k4 ?k5 ?kA ?kF ?kK ?k6 ?k7 ?k8 ?k9 ?kB ?_ ?c5 ?c2 ?c3 ?c4; (case kA => exact rfl); (case kF => exact rfl); (case kK => exact rfl); (case k2 => k_asm); (case k1 => k_asm); (case k3 => k_asm); (case k4 => k_asm); (case k5 => k_asm); (case k6 => k_is); (case k7 => k_is); (case k8 => k_room); (case k9 => first | exact binds_K (by k_in) rfl (by k_is) rfl rfl rfl | exact BindsTo.of_eq rfl); (case kB => exact locs rfl); (case c5 => decide); (case c2 => exact rfl); (case c3 => exact rfl); (case c4 => exact rfl); k_whole; intro g' L' h' FG' F' N' B' X' T' Qb hQ; (try dsimp only); (try k_lift B'); (try k_fold))
  refine letA ?_
  intro A1
  refine letE ?_
  intro e1
  refine wpAny_execs_cons (For_P rfl rfl rfl rfl ?_)
  k_steps
  refine ⟨?_⟩
  refine LoopP.mk D us n (fun g => g = g') g' _ _ (FilAt w x y le D kd t us n rows news) rfl rfl F' N' (fun i m nw q => by cases q; assumption) (FilAt.mk [] n0 rfl rfl rfl hle trivial hD hrows (fun q hq _ => hq)) (fun i a b c nw => ∃ r, rows[i]? = some r ∧ TripIs le nw a b c r) (fun i m nw v q hv => by cases q with | mk vs nn h1 h2 h3 hl he hD' hv' hk' => exact RowIs.trip hv' hv) ?turn ?done
  case done =>
    intro m6 nw6 h₀2 h6 tk6 e6 q F6 N6
    subst e6
    cases q with
    | mk vs nn h1 h2 h3 hl he hD' hv' hk' =>
    dsimp only
    rw [hul, List.take_length] at he
    k_steps
    refine hQ _ _ ?_
    k_steps
    exact post _ _ _ _ (by assumption) (by assumption) ⟨rfl, vs, nn, hl, he, hk'⟩
  case turn =>
    intro i va vb vd m6 nw6 h₀2 h6 tk6 I oI hi W e6 q off F6 N6 Qt hT
    subst e6
    obtain ⟨r, hri, htr⟩ := W
    cases q with
    | mk vs nn q1 q2 q3 q4 q5 q6 q7 q8 =>
    have hfit := hr r (List.mem_of_getElem? hri)
    have hc1' := q8 _ hc1 hcle1
    have hc2' := q8 _ hc2 hcle2
    have hm2 := q8 _ hm hyle
    have hm2' := q8 _ hm' hdle
    have hvs : vs.length < 1000 := by
      have := q5.len
      rw [List.length_take] at this
      omega
    obtain ⟨ka, kt, rfl⟩ : ∃ k t, va = .int k t := by cases htr <;> exact ⟨_, _, rfl⟩
    have fin : ∀ (h5 : Heap) (tk5 : Nat) (m5 : Str → Option Value) (z : Addr) (ext : Led), Fr h₀2 L' h5 m5 → News h₀2 L' h5 ((le, lst (vs ++ [.ref z]) (nn + 1)) :: rest le (ext ++ (I, oI) :: nw6)) → (∀ q ∈ ext, q.1 ≠ I) → EntR w x ((le, lst (vs ++ [.ref z]) (nn + 1)) :: rest le (ext ++ nw6)) z r → m5 "conf" = some (.ref x) → m5 "node" = some (.ref y) → m5 "kind" = some (.int kd t) → Qt .next { s with heap := h5, toks := tk5 } := by
      intro h5 tk5 m5 z ext F5 N5 hx hz r1 r2 r3
      have hleI : le ≠ I := off _ q4
      have up : ∀ q ∈ nw6, q.1 ≠ le → q ∈ (le, lst (vs ++ [.ref z]) (nn + 1)) :: rest le (ext ++ nw6) := fun q hq h => .tail _ (mem_rest (List.mem_append_right _ hq) h)
      refine hT .next _ _ _ _ ((le, lst (vs ++ [.ref z]) (nn + 1)) :: rest le (ext ++ nw6)) (.inl rfl) rfl F5 (news_sub N5 ?s1) ?s2 (FilAt.mk (vs ++ [.ref z]) (nn + 1) r1 r2 r3 (.head _) ?s3 (up _ q6 hne) (q7.imp fun _ _ h => ?s4) (fun q hq h => up q (q8 q hq h) h))
      case s1 =>
        intro q hq
        rcases List.mem_cons.mp hq with rfl | hq
        · exact .tail _ (mem_rest (List.mem_append_right _ (.head _)) (Ne.symm hleI))
        rcases List.mem_cons.mp hq with rfl | hq
        · exact .head _
        · exact .tail _ (mem_rest ((List.mem_append.mp (List.mem_filter.mp hq).1).elim (List.mem_append_left _) fun h => List.mem_append_right _ (.tail _ h)) (rest_ne _ hq))
      case s2 =>
        intro q hq
        rcases List.mem_cons.mp hq with rfl | hq
        · exact hleI
        · exact (List.mem_append.mp (List.mem_filter.mp hq).1).elim (fun h => hx _ h) fun h => off _ h
      case s3 =>
        rw [List.take_add_one, hri]
        exact All2.append (q5.imp fun _ _ ⟨a, e, h⟩ => ⟨a, e, h.sub fun q hq hq' => up q hq (news_ne N6 (.tail _ hq) (.tail _ q4) (hq' _ _))⟩) ⟨⟨z, rfl, hz⟩, trivial⟩
      case s4 =>
        cases h with
        | rf h => exact .rf (up _ h (news_ne N6 (.tail _ h) (.tail _ q4) fun e => absurd (congrArg Obj.cls e) (show ¬Value.type "tuple" = Value.type "list" by decide)))
        | rc h hl hv hD => exact .rc (up _ h (news_ne N6 (.tail _ h) (.tail _ q4) fun e => absurd (congrArg Obj.cls e) (show ¬Value.type "tuple" = Value.type "list" by decide))) (up _ hl hD) hv hD
    refine wpAny_execs_cons (wpAny_If ?_)
    refine cutG (fun X => ∀ tk, X (!rec) h6 tk) ?test ?branch
    case test =>
      intro Qb hQ
      cases hkd <;> (k_steps; exact hQ _)
    case branch =>
      intro tk
      have hM : HoldM := {}
      cases htr with
      | rf =>
        obtain rfl : rec = false := hfit.1
        refine (if_pos (show (!false) = true from rfl)).mpr ?_
        k_steps
        refine ⟨?_⟩
        refine' TreeSpec.use (ref_make w x c pn on kn vn _ _ _ _ 12 _ _ _ hc (.m _ _ _) (.n _ _ _)) ?mB ?mF ?mX ?mN ?mT ?mhd ?mhu ?mp ?_
        (case mB => k_asm); (case mF => k_asm); (case mX => k_asm); (case mN => k_asm); (case mT => k_asm); (case mhd => first | exact room2 (by assumption) (by rfl) | exact room1 (by assumption) (by rfl) | exact room3 (by assumption) (by rfl) | exact room4 (by assumption) (by rfl) | decide); (case mhu => first | exact room2 (by assumption) (by rfl) | exact room1 (by assumption) (by rfl) | exact room3 (by assumption) (by rfl) | exact room4 (by assumption) (by rfl) | decide)
        case mp => exact ⟨⟨dc, .tail _ hc1', .tail _ hc2'⟩, fun e => absurd rfl e⟩
        intro r1 tl1 h1 tk1 F1 N1 ap1 hp1
        cases hp1 with
        | mk z dz v1 v2 v3 v4 v5 l4 n4 k7 v7 o7 h7 =>
        cases h7
        k_steps
        refine ⟨?_⟩
        rename News _ _ _ _ => N2
        have ap2 := ap1
        refine' MutSpec.use (node_append w C y z le x nt mn mx ec page par nx vs nn hC hvs) ?mB ?mF ?mX ?mN ?mT ?mhd ?mhu ?mp ?_
        (case mB => k_asm); (case mF => k_asm); (case mX => k_asm); (case mN => k_asm); (case mT => k_asm); (case mhd => first | exact room2 (by assumption) (by rfl) | exact room1 (by assumption) (by rfl) | exact room3 (by assumption) (by rfl) | exact room4 (by assumption) (by rfl) | decide); (case mhu => first | exact room2 (by assumption) (by rfl) | exact room1 (by assumption) (by rfl) | exact room3 (by assumption) (by rfl) | exact room4 (by assumption) (by rfl) | decide)
        case mp => exact ⟨⟨dy, u1, u2, u3, u4, u5, u6, u7, u8, u9, n9, .tail _ (.tail _ (.tail _ hm2)), .tail _ (.tail _ (.tail _ hm2'))⟩, .tail _ (.tail _ (.tail _ q4))⟩
        intro r2 nw2 h2 tk2 F2 N3 hp2
        obtain ⟨rfl, rfl⟩ := hp2
        k_steps
        have z1 : z ≠ le := Ne.symm (ap1 _ (.tail _ q4) _ (.head _))
        have z2 : dz ≠ le := Ne.symm (ap1 _ (.tail _ q4) _ (.tail _ (.head _)))
        have z3 : z ≠ I := Ne.symm (ap1 _ (.head _) _ (.head _))
        have z4 : dz ≠ I := Ne.symm (ap1 _ (.head _) _ (.tail _ (.head _)))
        refine fin _ _ _ z [_, _] (by assumption) (by assumption) (fun q hq => ?_) (.rf ⟨dz, v1, v2, v3, v4, v5, _, _, n4, .tail _ (mem_rest (.head _) z1), .tail _ (mem_rest (.tail _ (.head _)) z2)⟩) (by exact q1) (by exact q2) (by exact q3)
        rcases List.mem_cons.mp hq with rfl | hq
        · exact z3
        rcases List.mem_cons.mp hq with rfl | hq
        · exact z4
        · cases hq
      | rc hl hv hD =>
        rename_i z9 l o t3 us3 v3 n3
        obtain ⟨e1', hk9, hvl, hin, ho⟩ := hfit
        subst e1'
        refine (if_neg (show ¬ ((!true) = true) by decide)).mpr ?_
        have hv2 := hc.v2
        have hvz := hc.vz
        have hk2 := hc.k2
        have hks := hc.ks
        k_steps
        · refine ⟨?_⟩
          refine' TreeSpec.use (rec_make w x c pn on kn vn _ _ _ _ 12 _ _ _ hc (.o _ _) (.n _ _ _ (.inl rfl))) ?mB ?mF ?mX ?mN ?mT ?mhd ?mhu ?mp ?_
          (case mB => k_asm); (case mF => k_asm); (case mX => k_asm); (case mN => k_asm); (case mT => k_asm); (case mhd => first | exact room2 (by assumption) (by rfl) | exact room1 (by assumption) (by rfl) | exact room3 (by assumption) (by rfl) | exact room4 (by assumption) (by rfl) | decide); (case mhu => first | exact room2 (by assumption) (by rfl) | exact room1 (by assumption) (by rfl) | exact room3 (by assumption) (by rfl) | exact room4 (by assumption) (by rfl) | decide)
          case mp => exact ⟨⟨dc, .tail _ hc1', .tail _ hc2'⟩, fun e => absurd rfl e⟩
          intro r1 tl1 h1 tk1 F1 N1 ap1 hp1
          cases hp1 with
          | mk z dz v1 v2 v3' v4 v5 l4 n4 k7 v7 o7 h7 =>
          cases h7
          k_steps
          refine ⟨?_⟩
          rename News _ _ _ _ => N2
          have ap2 := ap1
          refine' MutSpec.use (node_append w C y z le x nt mn mx ec page par nx vs nn hC hvs) ?mB ?mF ?mX ?mN ?mT ?mhd ?mhu ?mp ?_
          (case mB => k_asm); (case mF => k_asm); (case mX => k_asm); (case mN => k_asm); (case mT => k_asm); (case mhd => first | exact room2 (by assumption) (by rfl) | exact room1 (by assumption) (by rfl) | exact room3 (by assumption) (by rfl) | exact room4 (by assumption) (by rfl) | decide); (case mhu => first | exact room2 (by assumption) (by rfl) | exact room1 (by assumption) (by rfl) | exact room3 (by assumption) (by rfl) | exact room4 (by assumption) (by rfl) | decide)
          case mp => exact ⟨⟨dy, u1, u2, u3, u4, u5, u6, u7, u8, u9, n9, .tail _ (.tail _ (.tail _ hm2)), .tail _ (.tail _ (.tail _ hm2'))⟩, .tail _ (.tail _ (.tail _ q4))⟩
          intro r2 nw2 h2 tk2 F2 N3 hp2
          obtain ⟨rfl, rfl⟩ := hp2
          k_steps
          have z1 : z ≠ le := Ne.symm (ap1 _ (.tail _ q4) _ (.head _))
          have z2 : dz ≠ le := Ne.symm (ap1 _ (.tail _ q4) _ (.tail _ (.head _)))
          have z3 : z ≠ I := Ne.symm (ap1 _ (.head _) _ (.head _))
          have z4 : dz ≠ I := Ne.symm (ap1 _ (.head _) _ (.tail _ (.head _)))
          refine fin _ _ _ z [_, _] (by assumption) (by assumption) (fun q hq => ?_) (.ro ⟨dz, v1, v2, v3', v4, v5, _, _, n4, .tail _ (mem_rest (.head _) z1), .tail _ (mem_rest (.tail _ (.head _)) z2)⟩ (by assumption)) (by exact q1) (by exact q2) (by exact q3)
          rcases List.mem_cons.mp hq with rfl | hq
          · exact z3
          rcases List.mem_cons.mp hq with rfl | hq
          · exact z4
          · cases hq
        · obtain rfl : o = 0 := by assumption
          refine ⟨?_⟩
          refine KBa.make_K (by assumption) (by assumption) rfl (News.isList (by assumption) (.tail _ hl)) hv hin (by omega) ?_
          intro h8 t8 k8 F8 N8 _
          dsimp only
          k_steps
          refine ⟨?_⟩
          have hbz9 := Nat.le_trans (Nat.le_of_eq (bInts_size (KBa.ints_make hin))) (show _ ≤ vn by omega)
          refine' TreeSpec.use (rec_make w x c pn on kn vn _ _ _ _ 12 _ _ _ hc (.v _ _) (.n _ _ _ (.inr ⟨_, _, rfl, hbz9⟩))) ?mB ?mF ?mX ?mN ?mT ?mhd ?mhu ?mp ?_
          (case mB => k_asm); (case mF => k_asm); (case mX => k_asm); (case mN => k_asm); (case mT => k_asm); (case mhd => first | exact room2 (by assumption) (by rfl) | exact room1 (by assumption) (by rfl) | exact room3 (by assumption) (by rfl) | exact room4 (by assumption) (by rfl) | decide); (case mhu => first | exact room2 (by assumption) (by rfl) | exact room1 (by assumption) (by rfl) | exact room3 (by assumption) (by rfl) | exact room4 (by assumption) (by rfl) | decide)
          case mp => exact ⟨⟨dc, .tail _ hc1', .tail _ hc2'⟩, fun e => absurd rfl e⟩
          intro r1 tl1 h1 tk1 F1 N1 ap1 hp1
          cases hp1 with
          | mk z dz v1 v2 v3' v4 v5 l4 n4 k7 v7 o7 h7 =>
          cases h7
          k_steps
          refine ⟨?_⟩
          rename News _ _ _ _ => N2
          have ap2 := ap1
          refine' MutSpec.use (node_append w C y z le x nt mn mx ec page par nx vs nn hC hvs) ?mB ?mF ?mX ?mN ?mT ?mhd ?mhu ?mp ?_
          (case mB => k_asm); (case mF => k_asm); (case mX => k_asm); (case mN => k_asm); (case mT => k_asm); (case mhd => first | exact room2 (by assumption) (by rfl) | exact room1 (by assumption) (by rfl) | exact room3 (by assumption) (by rfl) | exact room4 (by assumption) (by rfl) | decide); (case mhu => first | exact room2 (by assumption) (by rfl) | exact room1 (by assumption) (by rfl) | exact room3 (by assumption) (by rfl) | exact room4 (by assumption) (by rfl) | decide)
          case mp => exact ⟨⟨dy, u1, u2, u3, u4, u5, u6, u7, u8, u9, n9, .tail _ (.tail _ (.tail _ hm2)), .tail _ (.tail _ (.tail _ hm2'))⟩, .tail _ (.tail _ (.tail _ q4))⟩
          intro r2 nw2 h2 tk2 F2 N3 hp2
          obtain ⟨rfl, rfl⟩ := hp2
          k_steps
          have z1 : z ≠ le := Ne.symm (ap1 _ (.tail _ q4) _ (.head _))
          have z2 : dz ≠ le := Ne.symm (ap1 _ (.tail _ q4) _ (.tail _ (.head _)))
          have z3 : z ≠ I := Ne.symm (ap1 _ (.head _) _ (.head _))
          have z4 : dz ≠ I := Ne.symm (ap1 _ (.head _) _ (.tail _ (.head _)))
          refine fin _ _ _ z [_, _] (by assumption) (by assumption) (fun q hq => ?_) (.rv ⟨dz, v1, v2, v3', v4, v5, _, _, n4, .tail _ (mem_rest (.head _) z1), .tail _ (mem_rest (.tail _ (.head _)) z2)⟩ (KBa.ints_make hin)) (by exact q1) (by exact q2) (by exact q3)
          rcases List.mem_cons.mp hq with rfl | hq
          · exact z3
          rcases List.mem_cons.mp hq with rfl | hq
          · exact z4
          · cases hq
end Mine
end

section
open PySem PySem.W PyProof.Rows
/-- between two texts: the walk forgets the lines of the text before, as a fresh process has none -/
theorem Mine.calm124 : ∀ (prog : Program) (w : World) (A : Around) (env : Env) (E : Value → Shared → Prop) (s : Shared) (Q : Flow → Shared → Prop), Q .next s → wpAny (model prog w) A (execs [] env) Q E s := by
  w_top off
  intro prog w A env E s Q h
  walk1
  exact h
end

section
open PySem PySem.W PyProof.Rows PySem.Calls
set_option Elab.async false
set_option linter.unusedSimpArgs false
set_option maxRecDepth 100000
set_option maxHeartbeats 4000000
namespace Mine
local macro_rules | `(tactic| walk_at "call ref") => `(tactic| refine' Held.out ?_)
local macro_rules | `(tactic| walk_at "eval ListComp") => `(tactic| refine' Held.out ?_)
theorem comp_end1 {h₀ h' : Heap} {L I C D : Addr} {m : Str → Option Value} {s₁ : Shared} {oI oC oD : Obj} {S : Led → Prop} {rest : Value → Led → Prop} {y : Value} {tk : Nat} {p : Addr × Obj} {nw : Led}
    (F : Fr h₀ L h' m) (N : News h₀ L h' (p :: (I, oI) :: (C, oC) :: (D, oD) :: nw)) (off : LCg.Off3 I C D nw) (lt : @LT.lt Nat _ I p.1 ∧ @LT.lt Nat _ C p.1 ∧ @LT.lt Nat _ D p.1 ∧ AllLt p.1 nw) (hS : S (p :: nw)) (r : rest y (p :: nw)) :
    LCg.CompEnd h₀ L m s₁ I oI C oC D oD S rest y { s₁ with heap := h', toks := tk } := by
  refine LCg.CompEnd.intro F N (p :: nw) (fun q hq => ?_) ⟨⟨Nat.ne_of_gt lt.1, Nat.ne_of_gt lt.2.1, Nat.ne_of_gt lt.2.2.1⟩, off⟩ hS r
  simp only [List.mem_cons] at hq ⊢
  rcases hq with h | h | h | h | h
  · exact .inr (.inl h)
  · exact .inr (.inr (.inl h))
  · exact .inr (.inr (.inr (.inl h)))
  · exact .inl h
  · exact .inr (.inr (.inr (.inr h)))
/-- a row as a plain tuple: what _law_told tells of an entry -/
inductive PlainIs (news : Led) : Value → Row → Prop
  | rf {a : Addr} {k b c : Int} {t1 t2 t3 : Tok} (h : (a, tup [.int k t1, .int b t2, .int c t3]) ∈ news) : PlainIs news (.ref a) (.rf k b c)
  | rv {a : Addr} {k : Int} {t1 t0 : Tok} {b0 : Array UInt8} {v : List Int} (h : (a, tup [.int k t1, .bytes b0 t0, .none]) ∈ news) (hb : KBw.bInts b0 = v) : PlainIs news (.ref a) (.rc k v 0)
  | ro {a : Addr} {k o : Int} {t1 t0 : Tok} {v : List Int} (h : (a, tup [.int k t1, .none, .int o t0]) ∈ news) (ho : o ≠ 0) : PlainIs news (.ref a) (.rc k v o)
theorem PlainIs.sub {a b : Led} {v : Value} {r : Row} (h : PlainIs a v r) (s : ∀ q ∈ a, q ∈ b) : PlainIs b v r := by
  cases h with
  | rf h => exact .rf (s _ h)
  | rv h hb => exact .rv (s _ h) hb
  | ro h ho => exact .ro (s _ h) ho
def Row.isRec : Row → Bool
  | .rf _ _ _ => false
  | .rc _ _ _ => true
theorem lawtold (w : World) (le x : Addr) (rec : Bool) (kd : Int) (t : Tok) (vs : List Value) (n : Nat) (rows : List Row) (hkd : KindB rec kd) (hr : ∀ r ∈ rows, r.isRec = rec) (hz : rows.length ≤ 8) :
    TreeSpec w (call (.ref 728) [.int kd t, .ref le]) 12 (fun news => (le, lst vs n) ∈ news ∧ EntRs w x news vs rows)
    (fun r _ tl => ∃ D us, r = Value.ref D ∧ (D, lst us us.length) ∈ tl ∧ All2 (PlainIs tl) us rows) := by
  unfold TreeSpec
  k_fill
  intro mean mg mb dp un gd cn nms ig ic mo a ccd cl outer A₀ base h₀ L m news s Q E B F X N T hdp hun pre0 post
  obtain ⟨hle, hrs⟩ := pre0
  have hlen := hrs.len
  refine wpAny_call ?_
  k_dflt (refine' code_own ?k1 ?k2 ?k3 ?k4 ?k5 ?kA ?kF ?kK ?k6 ?k7 ?k8 ?k9 ?kB ?_ ?c5 ?c2 ?c3 ?c4; (case kA => exact rfl); (case kF => exact rfl); (case kK => exact rfl); (case k2 => k_asm); (case k1 => k_asm); (case k3 => k_asm); (case k4 => k_asm); (case k5 => k_asm); (case k6 => k_is); (case k7 => k_is); (case k8 => k_room); (case k9 => first | exact binds_K (by k_in) rfl (by k_is) rfl rfl rfl | exact BindsTo.of_eq rfl); (case kB => exact locs rfl); (case c5 => decide); (case c2 => exact rfl); (case c3 => exact rfl); (case c4 => exact rfl); k_whole; intro g' L' h' FG' F' N' B' X' T' Qb hQ; (try dsimp only); (try k_lift B'); (try k_fold))
  refine letA ?_
  intro A1
  refine letE ?_
  intro e1
  refine wpAny_execs_cons (wpAny_If ?_)
  refine cutG (fun X => ∀ tk, X (!rec) h' tk) ?test ?branch
  case test =>
    intro Qb hQ
    cases hkd <;> (k_steps; exact hQ _)
  case branch =>
    intro tk
    have fin : ∀ ys nw, (∃ tl, nw = tl ++ news ∧ Apart tl news ∧ All2 (PlainIs tl) ys (rows.take vs.length)) → ∀ (D : Addr) (h : Heap) (tk : Nat) (m5 : Str → Option Value), Fr g' L' h m5 → News g' L' h ((D, lst ys ys.length) :: nw) → LCg.Off1 D nw → Qb (.ret (.ref D)) { s with heap := h, toks := tk } := by
      rintro ys nw ⟨tl, rfl, ap, hp⟩ D h tk m5 F9 N9 o1
      rw [hlen, List.take_length] at hp
      refine hQ _ _ ?_
      k_steps
      exact post _ (_ :: tl) _ _ (by assumption) (by assumption) (Apart.cons (fun q hq => off1_ne o1 q (List.mem_append_right _ hq)) ap) ⟨D, ys, rfl, .head _, hp.imp fun _ _ h => h.sub fun q hq => .tail _ hq⟩
    cases rec with
    | false =>
      refine (if_pos (show (!false) = true from rfl)).mpr ?_
      k_steps
      refine ⟨?_⟩
      k_dflt (refine LCg.ListComp_U F' (by rfl) (by decide) (by rfl) (by decide) (by rfl) ?_)
      k_dflt (refine ld F' (by rfl) ?_)
      k_dflt (refine LCg.CompSrc.ledger (by rfl) F' N' hle (by rw [List.size_toArray, hlen, sizeLine_eq]; omega) ?_)
      intro g9
      refine comp_rest (fun i ys nw => ∃ tl, nw = tl ++ news ∧ Apart tl news ∧ All2 (PlainIs tl) ys (rows.take i)) ⟨[], rfl, Apart.nil, trivial⟩ ?_ ?_
      · rintro i v ys nw I oI C oC D m₂ h tk E' hi hv ⟨tl, rfl, ap, hp⟩ hC hx F' N' off n1 n2 n3
        obtain ⟨r, hri, y, rfl, hrec⟩ := hrs.get (i := i) (by simpa using hv)
        have hk9 := hr r (List.mem_of_getElem? hri)
        cases hrec with
        | rv h hb => cases hk9
        | ro h ho => cases hk9
        | rf h9 =>
        obtain ⟨dy, u1, u2, u3, u4, u5, t, l, n9, q1, q2⟩ := h9
        have q1' := List.mem_append_right tl q1
        have q2' := List.mem_append_right tl q2
        k_steps
        with_reducible rename _ ∧ _ ∧ _ ∧ AllLt _ _ => l9
        rename News _ _ _ _ => kN9
        refine comp_end1 (by assumption) kN9 off l9 (.inr ⟨_, .tail _ (List.mem_append_right _ hle), rfl, _, rfl⟩) ⟨_ :: tl, rfl, Apart.cons (fun q hq => Nat.ne_of_lt (ktn_ltOf l9.2.2.2 q (List.mem_append_right _ hq))) ap, ?_⟩
        rw [List.take_add_one, hri]
        exact All2.append (hp.imp fun _ _ h => h.sub fun q hq => .tail _ hq) ⟨.rf (.head _), trivial⟩
      · rintro ys nw q D h tk F9 N9 o1
        rw [List.size_toArray] at q
        k_steps
        exact fin ys nw q D _ _ _ (by assumption) (by assumption) o1
    | true =>
      refine (if_neg (show ¬ ((!true) = true) by decide)).mpr ?_
      k_steps
      refine ⟨?_⟩
      k_dflt (refine LCg.ListComp_U F' (by rfl) (by decide) (by rfl) (by decide) (by rfl) ?_)
      k_dflt (refine ld F' (by rfl) ?_)
      k_dflt (refine LCg.CompSrc.ledger (by rfl) F' N' hle (by rw [List.size_toArray, hlen, sizeLine_eq]; omega) ?_)
      intro g9
      refine comp_rest (fun i ys nw => ∃ tl, nw = tl ++ news ∧ Apart tl news ∧ All2 (PlainIs tl) ys (rows.take i)) ⟨[], rfl, Apart.nil, trivial⟩ ?_ ?_
      · rintro i v ys nw I oI C oC D m₂ h tk E' hi hv ⟨tl, rfl, ap, hp⟩ hC hx F' N' off n1 n2 n3
        obtain ⟨r, hri, y, rfl, hrec⟩ := hrs.get (i := i) (by simpa using hv)
        have hk9 := hr r (List.mem_of_getElem? hri)
        cases hrec with
        | rf h9 => cases hk9
        | rv h9 hb =>
          obtain ⟨dy, u1, u2, u3, u4, u5, t, l, n9, q1, q2⟩ := h9
          have q1' := List.mem_append_right tl q1
          have q2' := List.mem_append_right tl q2
          k_steps
          with_reducible rename _ ∧ _ ∧ _ ∧ AllLt _ _ => l9
          rename News _ _ _ _ => kN9
          refine comp_end1 (by assumption) kN9 off l9 (.inr ⟨_, .tail _ (List.mem_append_right _ hle), rfl, _, rfl⟩) ⟨_ :: tl, rfl, Apart.cons (fun q hq => Nat.ne_of_lt (ktn_ltOf l9.2.2.2 q (List.mem_append_right _ hq))) ap, ?_⟩
          rw [List.take_add_one, hri]
          exact All2.append (hp.imp fun _ _ h => h.sub fun q hq => .tail _ hq) ⟨.rv (.head _) hb, trivial⟩
        | ro h9 ho =>
          obtain ⟨dy, u1, u2, u3, u4, u5, t, l, n9, q1, q2⟩ := h9
          have q1' := List.mem_append_right tl q1
          have q2' := List.mem_append_right tl q2
          k_steps
          with_reducible rename _ ∧ _ ∧ _ ∧ AllLt _ _ => l9
          rename News _ _ _ _ => kN9
          refine comp_end1 (by assumption) kN9 off l9 (.inr ⟨_, .tail _ (List.mem_append_right _ hle), rfl, _, rfl⟩) ⟨_ :: tl, rfl, Apart.cons (fun q hq => Nat.ne_of_lt (ktn_ltOf l9.2.2.2 q (List.mem_append_right _ hq))) ap, ?_⟩
          rw [List.take_add_one, hri]
          exact All2.append (hp.imp fun _ _ h => h.sub fun q hq => .tail _ hq) ⟨.ro (.head _) ho, trivial⟩
      · rintro ys nw q D h tk F9 N9 o1
        rw [List.size_toArray] at q
        k_steps
        exact fin ys nw q D _ _ _ (by assumption) (by assumption) o1
end Mine
end

section
open PySem PySem.W PyProof.Rows
/-- between two texts: the walk forgets the lines of the text before, as a fresh process has none -/
theorem Mine.calm126 : ∀ (prog : Program) (w : World) (A : Around) (env : Env) (E : Value → Shared → Prop) (s : Shared) (Q : Flow → Shared → Prop), Q .next s → wpAny (model prog w) A (execs [] env) Q E s := by
  w_top off
  intro prog w A env E s Q h
  walk1
  exact h
end

section
open PySem PySem.W PyProof.Rows PySem.Calls
set_option Elab.async false
set_option linter.unusedSimpArgs false
set_option maxRecDepth 100000
set_option maxHeartbeats 4000000
namespace Mine
local macro_rules | `(tactic| k_is) => `(tactic| (rename OneOf _ _ => q9; first | (clear q9; k_is) | (with_reducible first | apply q9.find4 | apply q9.over4 | apply q9.taker4 | apply q9.dict4 | apply q9.plain4 | apply q9.find2 | apply q9.over2 | apply q9.taker2 | apply q9.dict2 | apply q9.plain2 | apply q9.mro2) <;> k_is))
local macro_rules | `(tactic| walk_at "call builtin:len") => `(tactic| refine' Held.out ?_)
local macro_rules | `(tactic| walk_at "subscriptTail") => `(tactic| refine' Held.out ?_)
/-- the properties of a node and an entry's key -/
inductive PropA : Str → Prop
  | nc : PropA "num_children"
  | ca : PropA "can_add_entry"
  | cd : PropA "can_delete_entry"
  | se : PropA "smallest_entry"
  | be : PropA "biggest_entry"
  | sk : PropA "smallest_key"
  | bk : PropA "biggest_key"
inductive PropK : Str → Prop
  | nc : PropK "num_children"
  | se : PropK "smallest_entry"
  | be : PropK "biggest_entry"
  | k : PropK "key"
theorem holdP {p : Program} {w : World} {A : Around} {n : Str} {v : Value} {e : Bool} {Q E : Value → Shared → Prop} {s : Shared} (_ : PropA n) (h : Held (wpAny (model p w) A (getAttr v n e) Q E s)) : wpAny (model p w) A (getAttr v n e) Q E s := h.out
theorem holdK {p : Program} {w : World} {A : Around} {n : Str} {v : Value} {e : Bool} {Q E : Value → Shared → Prop} {s : Shared} (_ : HoldM) (_ : PropK n) (h : Held (wpAny (model p w) A (getAttr v n e) Q E s)) : wpAny (model p w) A (getAttr v n e) Q E s := h.out
local macro_rules | `(tactic| walk_at "getAttr ref") => `(tactic| (refine' holdK (by with_reducible assumption) ?h ?_; (case h => with_reducible constructor)))
local macro_rules | `(tactic| walk_at "truthy ref") => `(tactic| refine' Held.out ?_)
/-- how many children a node has -/
def numOf (rec : Bool) (k : Nat) : Int := if rec then k else if k = 0 then 0 else k + 1
/-- the class of a node of records, of references -/
inductive ClsB (C : Addr) : Bool → Prop
  | t (h : OneOf recNode C) : ClsB C true
  | f (h : OneOf refNode C) : ClsB C false
theorem ClsB.any {C : Addr} {rec : Bool} (h : ClsB C rec) : OneOf anyNode C := by
  cases h with
  | t h => exact List.mem_append_left (bs := refNode) h
  | f h => exact .tail _ (.tail _ h)
theorem num_node (w : World) (C y le x : Addr) (nt mn mx : Value) (ec : Addr) (page par nx : Value) (vs : List Value) (n : Nat) (expr rec : Bool) (hC : ClsB C rec) (hz : vs.length ≤ 8) :
    TreeSpec w (getAttr (.ref y) "num_children" expr) 8 (fun news => nodeIs w C y le x nt mn mx ec page par nx news ∧ (le, lst vs n) ∈ news) (fun r _ tl => ∃ t, r = Value.int (numOf rec vs.length) t ∧ tl = []) := by
  unfold TreeSpec
  k_fill
  intro mean mg mb dp un gd cn nms ig ic mo a ccd cl outer A₀ base h₀ L m news s Q E B F X N T hdp hun pre0 post
  obtain ⟨hnode, hle⟩ := pre0
  refine nodeIs.elim hnode ?_
  intro dy u1 u2 u3 u4 u5 u6 u7 u8 u9 n9 hm hm'
  cases hC with
  | t hC =>
    k_steps
    refine ⟨?_⟩
    refine KM.len_K (n := vs.length) (by assumption) hle (by simp) (by omega) ?_
    dsimp only
    k_steps
    exact post _ [] _ _ (by assumption) (by assumption) Apart.nil ⟨_, rfl, rfl⟩
  | f hC =>
    k_steps
    refine ⟨?_⟩
    rename News _ _ _ _ => N5
    refine kgr_truthy N5 hle rfl rfl (by omega) ?_
    by_cases h0 : vs = []
    · subst h0
      rw [if_neg (show ¬ ((!([] : List Value).isEmpty) = true) by decide)]
      k_steps
      exact post _ [] _ _ (by assumption) (by assumption) Apart.nil ⟨_, rfl, rfl⟩
    · have h1 : vs.length ≠ 0 := fun e => h0 (List.length_eq_zero_iff.mp e)
      rw [if_pos (by cases vs; exact absurd rfl h0; rfl)]
      k_steps
      refine ⟨?_⟩
      refine KM.len_K (n := vs.length) (by assumption) hle (by simp) (by omega) ?_
      dsimp only
      k_steps
      have e : numOf false vs.length = (vs.length : Nat) + 1 := by
        unfold numOf
        rw [if_neg Bool.false_ne_true, if_neg h1]
      exact post _ [] _ _ (by assumption) (by assumption) Apart.nil ⟨_, congrArg (fun z => Value.int z _) e.symm, rfl⟩
theorem can_add (w : World) (C y le x : Addr) (nt : Value) (mn mx : Int) (t1 t2 : Tok) (ec : Addr) (page par nx : Value) (vs : List Value) (n : Nat) (expr rec : Bool) (hC : ClsB C rec) (hz : vs.length ≤ 8) :
    TreeSpec w (getAttr (.ref y) "can_add_entry" expr) 16 (fun news => nodeIs w C y le x nt (.int mn t1) (.int mx t2) ec page par nx news ∧ (le, lst vs n) ∈ news) (fun r _ tl => r = Value.bool (decide (numOf rec vs.length < mx)) ∧ tl = []) := by
  unfold TreeSpec
  k_fill
  intro mean mg mb dp un gd cn nms ig ic mo a ccd cl outer A₀ base h₀ L m news s Q E B F X N T hdp hun pre0 post
  obtain ⟨hnode, hle⟩ := pre0
  refine nodeIs.elim hnode ?_
  intro dy u1 u2 u3 u4 u5 u6 u7 u8 u9 n9 hm hm'
  have hC' := hC.any
  have hM : HoldM := {}
  k_steps
  refine ⟨?_⟩
  refine' TreeSpec.useI (num_node w C y le x nt (.int mn t1) (.int mx t2) ec page par nx vs n _ rec hC hz) ?mB ?mF ?mX ?mN ?mT ?mhd ?mhu ?mp ?_
  (case mB => k_asm); (case mF => k_asm); (case mX => k_asm); (case mN => k_asm); (case mT => k_asm); (case mhd => first | exact room2 (by assumption) (by rfl) | exact room1 (by assumption) (by rfl) | exact room3 (by assumption) (by rfl) | exact room4 (by assumption) (by rfl) | decide); (case mhu => first | exact room2 (by assumption) (by rfl) | exact room1 (by assumption) (by rfl) | exact room3 (by assumption) (by rfl) | exact room4 (by assumption) (by rfl) | decide)
  case mp => exact ⟨hnode, hle⟩
  intro t3 h1 tk1 F1 N1
  k_steps
  exact post _ [] _ _ (by assumption) (by assumption) Apart.nil ⟨rfl, rfl⟩
theorem can_del (w : World) (C y le x : Addr) (nt : Value) (mn mx : Int) (t1 t2 : Tok) (ec : Addr) (page par nx : Value) (vs : List Value) (n : Nat) (expr rec : Bool) (hC : ClsB C rec) (hz : vs.length ≤ 8) :
    TreeSpec w (getAttr (.ref y) "can_delete_entry" expr) 16 (fun news => nodeIs w C y le x nt (.int mn t1) (.int mx t2) ec page par nx news ∧ (le, lst vs n) ∈ news) (fun r _ tl => r = Value.bool (decide (mn < numOf rec vs.length)) ∧ tl = []) := by
  unfold TreeSpec
  k_fill
  intro mean mg mb dp un gd cn nms ig ic mo a ccd cl outer A₀ base h₀ L m news s Q E B F X N T hdp hun pre0 post
  obtain ⟨hnode, hle⟩ := pre0
  refine nodeIs.elim hnode ?_
  intro dy u1 u2 u3 u4 u5 u6 u7 u8 u9 n9 hm hm'
  have hC' := hC.any
  have hM : HoldM := {}
  k_steps
  refine ⟨?_⟩
  refine' TreeSpec.useI (num_node w C y le x nt (.int mn t1) (.int mx t2) ec page par nx vs n _ rec hC hz) ?mB ?mF ?mX ?mN ?mT ?mhd ?mhu ?mp ?_
  (case mB => k_asm); (case mF => k_asm); (case mX => k_asm); (case mN => k_asm); (case mT => k_asm); (case mhd => first | exact room2 (by assumption) (by rfl) | exact room1 (by assumption) (by rfl) | exact room3 (by assumption) (by rfl) | exact room4 (by assumption) (by rfl) | decide); (case mhu => first | exact room2 (by assumption) (by rfl) | exact room1 (by assumption) (by rfl) | exact room3 (by assumption) (by rfl) | exact room4 (by assumption) (by rfl) | decide)
  case mp => exact ⟨hnode, hle⟩
  intro t3 h1 tk1 F1 N1
  k_steps
  exact post _ [] _ _ (by assumption) (by assumption) Apart.nil ⟨rfl, rfl⟩
theorem small_entry (w : World) (C y le x : Addr) (nt mn mx : Value) (ec : Addr) (page par nx : Value) (vs : List Value) (n : Nat) (a0 : Addr) (expr : Bool) (hC : OneOf anyNode C) (hz : vs.length ≤ 8) (hv : vs[0]? = some (.ref a0)) :
    TreeSpec w (getAttr (.ref y) "smallest_entry" expr) 8 (fun news => nodeIs w C y le x nt mn mx ec page par nx news ∧ (le, lst vs n) ∈ news) (fun r _ tl => r = Value.ref a0 ∧ tl = []) := by
  unfold TreeSpec
  k_fill
  intro mean mg mb dp un gd cn nms ig ic mo a ccd cl outer A₀ base h₀ L m news s Q E B F X N T hdp hun pre0 post
  obtain ⟨hnode, hle⟩ := pre0
  refine nodeIs.elim hnode ?_
  intro dy u1 u2 u3 u4 u5 u6 u7 u8 u9 n9 hm hm'
  k_steps
  refine ⟨?_⟩
  rename News _ _ _ _ => N5
  refine kba_turn (value' := PySem.Expr.Name (PySem.Str.ofString "_") ⟨0, 0, 0, 0⟩) (fun _ => rfl) ?_
  refine item_at (p := 0) N5 hle hv (by omega) ?_
  k_steps
  exact post _ [] _ _ (by assumption) (by assumption) Apart.nil ⟨rfl, rfl⟩
theorem big_entry (w : World) (C y le x : Addr) (nt mn mx : Value) (ec : Addr) (page par nx : Value) (vs : List Value) (n : Nat) (a0 : Addr) (expr : Bool) (hC : OneOf anyNode C) (hz : vs.length ≤ 8) (h0 : 0 < vs.length) (hv : vs[vs.length - 1]? = some (.ref a0)) :
    TreeSpec w (getAttr (.ref y) "biggest_entry" expr) 8 (fun news => nodeIs w C y le x nt mn mx ec page par nx news ∧ (le, lst vs n) ∈ news) (fun r _ tl => r = Value.ref a0 ∧ tl = []) := by
  unfold TreeSpec
  k_fill
  intro mean mg mb dp un gd cn nms ig ic mo a ccd cl outer A₀ base h₀ L m news s Q E B F X N T hdp hun pre0 post
  obtain ⟨hnode, hle⟩ := pre0
  refine nodeIs.elim hnode ?_
  intro dy u1 u2 u3 u4 u5 u6 u7 u8 u9 n9 hm hm'
  k_steps
  refine ⟨?_⟩
  rename News _ _ _ _ => N5
  refine kba_turn (value' := PySem.Expr.Name (PySem.Str.ofString "_") ⟨0, 0, 0, 0⟩) (fun _ => rfl) ?_
  refine item_last N5 hle h0 hv (by omega) ?_
  k_steps
  exact post _ [] _ _ (by assumption) (by assumption) Apart.nil ⟨rfl, rfl⟩
def Row.key : Row → Int
  | .rf k _ _ => k
  | .rc k _ _ => k
theorem entry_key (w : World) (x a0 : Addr) (r : Row) (expr : Bool) : TreeSpec w (getAttr (.ref a0) "key" expr) 5 (fun news => EntR w x news a0 r) (fun v _ tl => ∃ t, v = Value.int r.key t ∧ tl = []) := by
  unfold TreeSpec
  k_fill
  intro mean mg mb dp un gd cn nms ig ic mo a ccd cl outer A₀ base h₀ L m news s Q E B F X N T hdp hun pre0 post
  cases pre0 with
  | rf h =>
    obtain ⟨dy, u1, u2, u3, u4, u5, t, l, n9, q1, q2⟩ := h
    k_steps
    exact post _ [] _ _ (by assumption) (by assumption) Apart.nil ⟨_, rfl, rfl⟩
  | rv h hb =>
    obtain ⟨dy, u1, u2, u3, u4, u5, t, l, n9, q1, q2⟩ := h
    k_steps
    exact post _ [] _ _ (by assumption) (by assumption) Apart.nil ⟨_, rfl, rfl⟩
  | ro h ho =>
    obtain ⟨dy, u1, u2, u3, u4, u5, t, l, n9, q1, q2⟩ := h
    k_steps
    exact post _ [] _ _ (by assumption) (by assumption) Apart.nil ⟨_, rfl, rfl⟩
theorem small_key (w : World) (C y le x : Addr) (nt mn mx : Value) (ec : Addr) (page par nx : Value) (vs : List Value) (n : Nat) (a0 : Addr) (r : Row) (expr : Bool) (hC : OneOf anyNode C) (hz : vs.length ≤ 8) (hv : vs[0]? = some (.ref a0)) :
    TreeSpec w (getAttr (.ref y) "smallest_key" expr) 16 (fun news => nodeIs w C y le x nt mn mx ec page par nx news ∧ (le, lst vs n) ∈ news ∧ EntR w x news a0 r) (fun v _ tl => ∃ t, v = Value.int r.key t ∧ tl = []) := by
  unfold TreeSpec
  k_fill
  intro mean mg mb dp un gd cn nms ig ic mo a ccd cl outer A₀ base h₀ L m news s Q E B F X N T hdp hun pre0 post
  obtain ⟨hnode, hle, hent⟩ := pre0
  refine nodeIs.elim hnode ?_
  intro dy u1 u2 u3 u4 u5 u6 u7 u8 u9 n9 hm hm'
  have hM : HoldM := {}
  k_steps
  refine ⟨?_⟩
  refine' TreeSpec.use0 (small_entry w C y le x nt mn mx ec page par nx vs n a0 _ hC hz hv) ?mB ?mF ?mX ?mN ?mT ?mhd ?mhu ?mp ?_
  (case mB => k_asm); (case mF => k_asm); (case mX => k_asm); (case mN => k_asm); (case mT => k_asm); (case mhd => first | exact room2 (by assumption) (by rfl) | exact room1 (by assumption) (by rfl) | exact room3 (by assumption) (by rfl) | exact room4 (by assumption) (by rfl) | decide); (case mhu => first | exact room2 (by assumption) (by rfl) | exact room1 (by assumption) (by rfl) | exact room3 (by assumption) (by rfl) | exact room4 (by assumption) (by rfl) | decide)
  case mp => exact ⟨hnode, hle⟩
  intro h1 tk1 F1 N1
  k_steps
  refine ⟨?_⟩
  refine' TreeSpec.useI (entry_key w x a0 r _) ?mB ?mF ?mX ?mN ?mT ?mhd ?mhu ?mp ?_
  (case mB => k_asm); (case mF => k_asm); (case mX => k_asm); (case mN => k_asm); (case mT => k_asm); (case mhd => first | exact room2 (by assumption) (by rfl) | exact room1 (by assumption) (by rfl) | exact room3 (by assumption) (by rfl) | exact room4 (by assumption) (by rfl) | decide); (case mhu => first | exact room2 (by assumption) (by rfl) | exact room1 (by assumption) (by rfl) | exact room3 (by assumption) (by rfl) | exact room4 (by assumption) (by rfl) | decide)
  case mp => exact hent
  intro t2 h2 tk2 F2 N2
  k_steps
  exact post _ [] _ _ (by assumption) (by assumption) Apart.nil ⟨_, rfl, rfl⟩
theorem big_key (w : World) (C y le x : Addr) (nt mn mx : Value) (ec : Addr) (page par nx : Value) (vs : List Value) (n : Nat) (a0 : Addr) (r : Row) (expr : Bool) (hC : OneOf anyNode C) (hz : vs.length ≤ 8) (h0 : 0 < vs.length) (hv : vs[vs.length - 1]? = some (.ref a0)) :
    TreeSpec w (getAttr (.ref y) "biggest_key" expr) 16 (fun news => nodeIs w C y le x nt mn mx ec page par nx news ∧ (le, lst vs n) ∈ news ∧ EntR w x news a0 r) (fun v _ tl => ∃ t, v = Value.int r.key t ∧ tl = []) := by
  unfold TreeSpec
  k_fill
  intro mean mg mb dp un gd cn nms ig ic mo a ccd cl outer A₀ base h₀ L m news s Q E B F X N T hdp hun pre0 post
  obtain ⟨hnode, hle, hent⟩ := pre0
  refine nodeIs.elim hnode ?_
  intro dy u1 u2 u3 u4 u5 u6 u7 u8 u9 n9 hm hm'
  have hM : HoldM := {}
  k_steps
  refine ⟨?_⟩
  refine' TreeSpec.use0 (big_entry w C y le x nt mn mx ec page par nx vs n a0 _ hC hz h0 hv) ?mB ?mF ?mX ?mN ?mT ?mhd ?mhu ?mp ?_
  (case mB => k_asm); (case mF => k_asm); (case mX => k_asm); (case mN => k_asm); (case mT => k_asm); (case mhd => first | exact room2 (by assumption) (by rfl) | exact room1 (by assumption) (by rfl) | exact room3 (by assumption) (by rfl) | exact room4 (by assumption) (by rfl) | decide); (case mhu => first | exact room2 (by assumption) (by rfl) | exact room1 (by assumption) (by rfl) | exact room3 (by assumption) (by rfl) | exact room4 (by assumption) (by rfl) | decide)
  case mp => exact ⟨hnode, hle⟩
  intro h1 tk1 F1 N1
  k_steps
  refine ⟨?_⟩
  refine' TreeSpec.useI (entry_key w x a0 r _) ?mB ?mF ?mX ?mN ?mT ?mhd ?mhu ?mp ?_
  (case mB => k_asm); (case mF => k_asm); (case mX => k_asm); (case mN => k_asm); (case mT => k_asm); (case mhd => first | exact room2 (by assumption) (by rfl) | exact room1 (by assumption) (by rfl) | exact room3 (by assumption) (by rfl) | exact room4 (by assumption) (by rfl) | decide); (case mhu => first | exact room2 (by assumption) (by rfl) | exact room1 (by assumption) (by rfl) | exact room3 (by assumption) (by rfl) | exact room4 (by assumption) (by rfl) | decide)
  case mp => exact hent
  intro t2 h2 tk2 F2 N2
  k_steps
  exact post _ [] _ _ (by assumption) (by assumption) Apart.nil ⟨_, rfl, rfl⟩
end Mine
end

section
open PySem PySem.W PyProof.Rows
/-- between two texts: the walk forgets the lines of the text before, as a fresh process has none -/
theorem Mine.calm128 : ∀ (prog : Program) (w : World) (A : Around) (env : Env) (E : Value → Shared → Prop) (s : Shared) (Q : Flow → Shared → Prop), Q .next s → wpAny (model prog w) A (execs [] env) Q E s := by
  w_top off
  intro prog w A env E s Q h
  walk1
  exact h
end

section
open PySem PySem.W PyProof.Rows PySem.Calls
set_option Elab.async false
set_option linter.unusedSimpArgs false
set_option maxRecDepth 100000
set_option maxHeartbeats 400000
namespace Mine
/-- a node's class and its kind -/
def kinds : List (Addr × Int) := [(518, 1), (607, 2), (629, 3), (540, 4)]
theorem lawkind (w : World) (C y le x : Addr) (nt mn mx : Value) (ec : Addr) (page par nx : Value) (kd : Int) (hC : (C, kd) ∈ kinds) :
    TreeSpec w (call (.ref 697) [.ref y]) 12 (fun news => nodeIs w C y le x nt mn mx ec page par nx news) (fun r _ tl => ∃ t, r = .int kd t ∧ tl = []) := by
  unfold TreeSpec
  k_fill
  intro mean mg mb dp un gd cn nms ig ic mo a ccd cl outer A₀ base h₀ L m news s Q E B F X N T hdp hun pre0 post
  obtain ⟨dy, u1, u2, u3, u4, u5, u6, u7, u8, u9, n9, hm, hm'⟩ := pre0
  simp only [kinds, List.mem_cons, List.not_mem_nil, or_false, Prod.mk.injEq] at hC
  rcases hC with ⟨rfl, rfl⟩ | ⟨rfl, rfl⟩ | ⟨rfl, rfl⟩ | ⟨rfl, rfl⟩
  all_goals
    refine wpAny_call ?_
    k_dflt k_enter
    k_steps
    exact post _ [] _ _ (by assumption) (news_sub (by assumption) sub_nil0) Apart.nil ⟨_, rfl, rfl⟩
end Mine
end

section
open PySem PySem.W PyProof.Rows
/-- between two texts: the walk forgets the lines of the text before, as a fresh process has none -/
theorem Mine.calm130 : ∀ (prog : Program) (w : World) (A : Around) (env : Env) (E : Value → Shared → Prop) (s : Shared) (Q : Flow → Shared → Prop), Q .next s → wpAny (model prog w) A (execs [] env) Q E s := by
  w_top off
  intro prog w A env E s Q h
  walk1
  exact h
end

section
open PySem PySem.W PyProof.Rows PySem.Calls
set_option Elab.async false
set_option linter.unusedSimpArgs false
set_option maxRecDepth 100000
set_option maxHeartbeats 400000
namespace Mine
local macro_rules | `(tactic| walk_at "call ref") => `(tactic| refine' Held.out ?_)
local macro_rules | `(tactic| walk_at "eval ListComp") => `(tactic| refine' Held.out ?_)
local macro_rules | `(tactic| walk_at "CompSrcT") => `(tactic| refine' Held.out ?_)
/-- how many children a node of this kind must and may have -/
def least (n : Nat) (kd : Int) : Int := if kd = 1 then 0 else if kd = 2 then 2 else if kd = 3 then ((n + 1) / 2 : Nat) else ((n + 1) / 2 : Nat) - 1
def most (n : Nat) (kd : Int) : Int := if kd = 1 then (n : Int) - 1 else if kd = 2 then n else if kd = 3 then n else (n : Int) - 1
theorem half_filter : ∀ n : Nat, n ≤ 8 → ((List.range n).filter fun p => p % 2 == 0).length = (n + 1) / 2 := by decide +kernel
theorem even_iff (i : Nat) : ((i : Int).fmod 2 = 0 ↔ i % 2 = 0) := by
  rw [Int.fmod_eq_emod_of_nonneg _ (by decide)]
  omega
theorem lawbounds34 (w : World) (n : Nat) (kd : Int) (t u : Tok) (hn : n ≤ 8) (h34 : kd = 3 ∨ kd = 4) :
    TreeSpec w (call (.ref 702) [.int (n : Nat) t, .int kd u]) 12 (fun _ => True) (fun r _ tl => ∃ D t1 t2, r = .ref D ∧ (D, tup [.int (least n kd) t1, .int (most n kd) t2]) ∈ tl) := by
  unfold TreeSpec
  k_fill
  intro mean mg mb dp un gd cn nms ig ic mo a ccd cl outer A₀ base h₀ L m news s Q E B F X N T hdp hun pre0 post
  refine wpAny_call ?_
  k_dflt (refine' code_own ?k1 ?k2 ?k3 ?k4 ?k5 ?kA ?kF ?kK ?k6 ?k7 ?k8 ?k9 ?kB ?_ ?c5 ?c2 ?c3 ?c4; (case kA => exact rfl); (case kF => exact rfl); (case kK => exact rfl); (case k2 => k_asm); (case k1 => k_asm); (case k3 => k_asm); (case k4 => k_asm); (case k5 => k_asm); (case k6 => k_is); (case k7 => k_is); (case k8 => k_room); (case k9 => first | exact binds_K (by k_in) rfl (by k_is) rfl rfl rfl | exact BindsTo.of_eq rfl); (case kB => exact locs rfl); (case c5 => decide); (case c2 => exact rfl); (case c3 => exact rfl); (case c4 => exact rfl); k_whole; intro g' L' h' FG' F' N' B' X' T' Qb hQ; (try dsimp only); (try k_lift B'); (try k_fold))
  refine letA ?_
  intro A1
  refine letE ?_
  intro e1
  refine wpAny_execs_cons (wpAny_If ?_)
  refine cutG (fun X => ∀ tk, X false h' tk) ?t1 ?rest1
  case t1 =>
    intro Qt hQt
    rcases h34 with rfl | rfl <;> (k_steps; exact hQt _)
  case rest1 =>
  intro tk1
  refine (if_neg Bool.false_ne_true).mpr ?_
  refine wpAny_execs_nil ?_
  dsimp only
  refine wpAny_execs_cons (wpAny_If ?_)
  refine cutG (fun X => ∀ tk, X false h' tk) ?t2 ?rest2
  case t2 =>
    intro Qt hQt
    rcases h34 with rfl | rfl <;> (k_steps; exact hQt _)
  case rest2 =>
  intro tk2
  refine (if_neg Bool.false_ne_true).mpr ?_
  refine wpAny_execs_nil ?_
  dsimp only
  k_steps
  refine ⟨?_⟩
  rename Fr _ _ _ _ => kF
  rename News _ _ _ _ => kN
  k_dflt (refine LCt.ListComp_T kF (by rfl) (by decide) (by rfl) (by decide) (by rfl) ?_)
  k_steps
  refine ⟨?_⟩
  with_reducible rename IsRange _ _ _ _ _ _ _ _ => hr
  rename Fr _ _ _ _ => kF2
  rename News _ _ _ _ => kN2
  obtain ⟨r1, r2⟩ := range_ok n hn
  k_dflt (refine LCt.CompSrcT.range (n := n) (by rfl) kF2 kN2 hr r1 r2 (by rw [sizeLine_eq]; exact Nat.le_trans hn (by decide)) ?_)
  intro g9
  refine comp_restT (fun i ys nw => nw = news ∧ Held (ys.length = (((List.range n).take i).filter fun p => p % 2 == 0).length)) ⟨rfl, ⟨rfl⟩⟩ ?_ ?_
  · rintro i v ys nw I oI C oC D2 m₂ h tk E' hi ⟨t1, rfl⟩ ⟨rfl, hJ⟩ hC hx F' N' off n1 n2 n3
    rw [Int.zero_add] at hx
    have e1 := even_iff i
    k_steps
    · refine LCg.CompEnd.intro (by assumption) N' _ (fun _ h => h) off trivial ⟨rfl, ⟨?_⟩⟩
      have hp : i % 2 = 0 := by omega
      rw [List.length_append, hJ.out, List.take_add_one, List.getElem?_range hi, List.filter_append, List.length_append]
      simp [hp]
    · refine LCg.CompEnd.intro (by assumption) N' _ (fun _ h => h) off trivial ⟨rfl, ⟨?_⟩⟩
      have hp : ¬ i % 2 = 0 := by omega
      rw [hJ.out, List.take_add_one, List.getElem?_range hi, List.filter_append, List.length_append]
      simp [hp]
  · rintro ys nw ⟨rfl, hJ⟩ D2 h tk F' N' o1
    have hl : ys.length = (n + 1) / 2 := by
      rw [hJ.out, List.take_of_length_le (by simp), half_filter n hn]
    k_steps
    refine call_len_list (items := ys.toArray) (PySem.IsL.isList (n := ys.length) (N' _ (.head _)).1) (by rw [List.size_toArray, hl]; omega) ?_
    rw [List.size_toArray, hl]
    k_steps
    all_goals refine hQ _ _ ?_
    all_goals k_steps
    all_goals with_reducible rename _ ∧ AllLt _ _ => l9
    all_goals rename News _ _ _ _ => kN9
    · have e : kd = 3 := by assumption
      refine post _ [_, _] _ _ (by assumption) kN9 (Apart.cons (fun q hq => Nat.ne_of_lt (ktn_ltOf l9.2 q hq)) (Apart.cons (fun q hq => off1_ne o1 q hq) Apart.nil)) ?_
      subst e
      exact ⟨_, _, _, rfl, .head _⟩
    · have e : kd = 4 := h34.resolve_left (by assumption)
      refine post _ [_, _] _ _ (by assumption) kN9 (Apart.cons (fun q hq => Nat.ne_of_lt (ktn_ltOf l9.2 q hq)) (Apart.cons (fun q hq => off1_ne o1 q hq) Apart.nil)) ?_
      subst e
      exact ⟨_, _, _, rfl, .head _⟩
theorem lawbounds (w : World) (n : Nat) (kd : Int) (t u : Tok) (hn : n ≤ 8) (hk : kd = 1 ∨ kd = 2 ∨ kd = 3 ∨ kd = 4) :
    TreeSpec w (call (.ref 702) [.int (n : Nat) t, .int kd u]) 12 (fun _ => True) (fun r _ tl => ∃ D t1 t2, r = .ref D ∧ (D, tup [.int (least n kd) t1, .int (most n kd) t2]) ∈ tl) := by
  rcases hk with rfl | rfl | h34
  rotate_left 2
  · exact lawbounds34 w n kd t u hn h34
  all_goals
    unfold TreeSpec
    k_fill
    intro mean mg mb dp un gd cn nms ig ic mo a ccd cl outer A₀ base h₀ L m news s Q E B F X N T hdp hun pre0 post
    refine wpAny_call ?_
    k_dflt k_enter
    k_steps
    with_reducible rename AllLt _ news => l9
    rename News _ _ _ _ => kN
    exact post _ [_] _ _ (by assumption) kN (Apart.cons (fun q hq => Nat.ne_of_lt (ktn_ltOf l9 q hq)) Apart.nil) ⟨_, _, _, rfl, .head _⟩
end Mine
end

section
open PySem PySem.W PyProof.Rows
/-- between two texts: the walk forgets the lines of the text before, as a fresh process has none -/
theorem Mine.calm132 : ∀ (prog : Program) (w : World) (A : Around) (env : Env) (E : Value → Shared → Prop) (s : Shared) (Q : Flow → Shared → Prop), Q .next s → wpAny (model prog w) A (execs [] env) Q E s := by
  w_top off
  intro prog w A env E s Q h
  walk1
  exact h
end

section
open PySem PySem.W PyProof.Rows PySem.Calls
set_option Elab.async false
set_option linter.unusedSimpArgs false
set_option maxRecDepth 100000
set_option maxHeartbeats 4000000
namespace Mine
local macro_rules | `(tactic| k_is) => `(tactic| (rename OneOf _ _ => q9; first | (clear q9; k_is) | (with_reducible first | apply q9.find4 | apply q9.over4 | apply q9.taker4 | apply q9.dict4 | apply q9.plain4 | apply q9.find2 | apply q9.over2 | apply q9.taker2 | apply q9.dict2 | apply q9.plain2 | apply q9.mro2) <;> k_is))
local macro_rules | `(tactic| walk_at "MINE spec") => `(tactic| ((case mB | mF | mX | mN | mT => k_asm); (case mhd | mhu => k_units)))
local macro_rules | `(tactic| walk_at "getAttr ref") => `(tactic| (k_here; k_dflt (refine' (conf_one ?h).use0 ?mB ?mF ?mX ?mN ?mT ?mhd ?mhu ?mp ?_; (case h => with_reducible constructor); (walk_at "MINE spec"); (case mp => exact ⟨_, by k_mem, by k_mem⟩); intro h' tk' F' N'; (try k_sweep))))
local macro_rules | `(tactic| walk_at "getMethod type:int") => `(tactic| (k_here; k_dflt ((with_reducible refine' KFB.getm ?kfbF ?kfbN ?kfbX ?kfbE ?_); (case kfbF => k_asm); (case kfbN => k_asm); (case kfbX => k_asm); (case kfbE => k_is); k_whole; intro x' h' F' N' l1; (try k_lt l1); (try k_sweep))))
local macro_rules | `(tactic| walk_at "getMethod ref") => `(tactic| ((with_reducible rename HoldM => hM); refine' Held.out ?_))
local macro_rules | `(tactic| k_all) => `(tactic| with_reducible assumption)
local macro_rules | `(tactic| walk_at "call ref") => `(tactic| refine' Held.out ?_)
local macro_rules | `(tactic| walk_at "callWith ref") => `(tactic| ((with_reducible rename keepIn _ _ = true => hkp); refine' Held.out ?_))
local macro_rules | `(tactic| walk_at "call builtin:len") => `(tactic| refine' Held.out ?_)
local macro_rules | `(tactic| walk_at "call builtin:list.append") => `(tactic| refine' Held.out ?_)
local macro_rules | `(tactic| walk_at "subscriptTail") => `(tactic| refine' Held.out ?_)
/-- cutn of statements that may raise -/
theorem cutnE {M : Model} {A : Around} {env : Env} {E : Value → Shared → Prop} {s : Shared} {h0 : Heap} {k0 : Nat} (R : (Heap → Nat → Prop) → Prop) {body l1 l2 : List Stmt} {Q : Flow → Shared → Prop} (hb : body = l1 ++ l2)
    (h1 : ∀ Qb : Flow → Shared → Prop, R (fun h tk => Qb .next { s with heap := h, toks := tk }) → wpAny M A (execs l1 env) Qb E { s with heap := h0, toks := k0 })
    (h2 : R (fun h tk => wpAny M A (execs l2 env) Q E { s with heap := h, toks := tk })) : wpAny M A (execs body env) Q E { s with heap := h0, toks := k0 } := fun Γ p a => by
  subst hb
  refine wp_execs_append _ _ _ (Sem.wp_mono M Γ _ (fun f p' s' h' => ?_) (fun _ _ _ h' => h') p _ (h1 (fun f s' => match f with | .next => wpAny M A (execs l2 env) Q E s' | f => Q f s') h2 Γ p a))
  cases f with
  | next => exact h' Γ p' a
  | _ => exact h'
/-- the call of a def, from any frame; where Ok fails it raises an AssertionError -/
def CodeSpecX (w : World) (f : Value) (args : Args) (cost : Nat) (Pre : Led → Prop) (Ok : Prop) (Keep : Led → Led → Prop) (Post : Value → Led → Led → Prop) : Prop :=
  ∀ (mean : ExcName → Option Value) (mg mb : Str → Option Value) (A : Around) (env : Env) (outer : List Env) (A₀ : Around) (base h₀ : Heap) (L : Addr) (m : Str → Option Value) (news : Led) (s : Shared) (R : Result → Shared → Prop),
    A.handled = none → A.frames = some (env :: outer) → env.frame = some L → env.scope.kind = .function → Below A₀ base outer h₀ → Fr h₀ L s.heap m → (hd.heap_1 w.params).In h₀ → News h₀ L s.heap news → Top vw lsw mean mg mb h₀ → A.depth + cost < 400 → A.units + 8 * cost < 5000 → Pre news →
    (∀ r news' h' tk', Ok → Fr h₀ L h' m → News h₀ L h' news' → Post r news news' → R (.ok (.ret r)) { s with heap := h', toks := tk' }) →
    (∀ g e led h' tk', ¬ Ok → Fr h₀ L g m → RaisedSN base g (env :: outer) e (.type "AssertionError") led h' → g.UpToSlots h' → Keep news led → R (.error (.ref e)) { s with heap := h', toks := tk' }) →
    codeAny (model PySem.Challenge.rw_ke0002_01.row.prog w) A (.call f args) R s
theorem CodeSpecX.use {w : World} {f : Value} {args : Args} {cost : Nat} {Pre : Led → Prop} {Ok : Prop} {Keep : Led → Led → Prop} {Post : Value → Led → Led → Prop} (S : CodeSpecX w f args cost Pre Ok Keep Post)
    {mean : ExcName → Option Value} {mg mb : Str → Option Value} {A : Around} {env : Env} {outer : List Env} {A₀ : Around} {base h₀ : Heap} {L : Addr} {m : Str → Option Value} {news : Led} {s : Shared} {hs : Heap} {ks : Nat} {R : Result → Shared → Prop}
    (hh : A.handled = none) (hA : A.frames = some (env :: outer)) (hf : env.frame = some L) (hke : env.scope.kind = .function) (B : Below A₀ base outer h₀) (F : Fr h₀ L hs m) (X : (hd.heap_1 w.params).In h₀) (N : News h₀ L hs news) (T : Top vw lsw mean mg mb h₀) (hdd : A.depth + cost < 400) (hu : A.units + 8 * cost < 5000) (pre : Pre news)
    (k : ∀ r news' h' tk', Ok → Fr h₀ L h' m → News h₀ L h' news' → Post r news news' → R (.ok (.ret r)) { s with heap := h', toks := tk' })
    (k2 : ∀ g e led h' tk', ¬ Ok → Fr h₀ L g m → RaisedSN base g (env :: outer) e (.type "AssertionError") led h' → g.UpToSlots h' → Keep news led → R (.error (.ref e)) { s with heap := h', toks := tk' }) :
    codeAny (model PySem.Challenge.rw_ke0002_01.row.prog w) A (.call f args) R { s with heap := hs, toks := ks } := S mean mg mb A env outer A₀ base h₀ L m news { s with heap := hs, toks := ks } R hh hA hf hke B F X N T hdd hu pre k k2
/-- what a page's octets say -/
structure OctN (pn : Nat) (kd nxt : Int) (dat pad ks : List Int) : Prop where
  is : ks = KTBy.little 1 kd ++ (KTBy.little 3 (dat.length + 4) ++ (KTBy.little 4 nxt ++ (dat ++ pad)))
  len : ks.length = pn
  k0 : 0 ≤ nxt
  k1 : nxt < 256 ^ 4
/-- an entry that was made of these octets -/
inductive LdIs (w : World) (x : Addr) (kn vn : Nat) (news : Led) : Addr → Addr → List Int → Prop
  | rv {a : Addr} {k len : Int} {vl : Nat} {vp ks : List Int} {b : Array UInt8} {t : Tok} (H : Oct kn vn k vl vp 0 ks) (h : rec1 w x a k (.bytes b t) len .none news) (hb : KBw.bInts b = vp.take vl) : LdIs w x kn vn news 260 a ks
  | ro {a : Addr} {k len o : Int} {vl : Nat} {vp ks : List Int} {t : Tok} (H : Oct kn vn k vl vp o ks) (ho : o ≠ 0) (h : rec1 w x a k .none len (.int o t) news) : LdIs w x kn vn news 260 a ks
  | rf {a : Addr} {k rb ra : Int} {ks : List Int} {t1 t2 : Tok} (H : OctR kn k rb ra ks) (h : refIs w x a k (.int rb t1) (.int ra t2) news) : LdIs w x kn vn news 301 a ks
theorem LdIs.sub {w : World} {x : Addr} {kn vn : Nat} {news news' : Led} {ec a : Addr} {ks : List Int} (h : LdIs w x kn vn news ec a ks) (s : ∀ q ∈ news, (∀ l n, q.2 ≠ lst l n) → q ∈ news') : LdIs w x kn vn news' ec a ks := by
  cases h with
  | rv H h hb =>
    obtain ⟨dy, u1, u2, u3, u4, u5, t, l, n, h1, h2⟩ := h
    exact .rv H ⟨dy, u1, u2, u3, u4, u5, t, l, n, s _ h1 fun _ _ e => (nomatch congrArg Obj.cls e), s _ h2 fun _ _ e => absurd (congrArg Obj.cls e) (show ¬Value.type "dict" = Value.type "list" by decide)⟩ hb
  | ro H ho h =>
    obtain ⟨dy, u1, u2, u3, u4, u5, t, l, n, h1, h2⟩ := h
    exact .ro H ho ⟨dy, u1, u2, u3, u4, u5, t, l, n, s _ h1 fun _ _ e => (nomatch congrArg Obj.cls e), s _ h2 fun _ _ e => absurd (congrArg Obj.cls e) (show ¬Value.type "dict" = Value.type "list" by decide)⟩
  | rf H h =>
    obtain ⟨dy, u1, u2, u3, u4, u5, t, l, n, h1, h2⟩ := h
    exact .rf H ⟨dy, u1, u2, u3, u4, u5, t, l, n, s _ h1 fun _ _ e => (nomatch congrArg Obj.cls e), s _ h2 fun _ _ e => absurd (congrArg Obj.cls e) (show ¬Value.type "dict" = Value.type "list" by decide)⟩
/-- what the octets of the entries say -/
inductive EntsOf (kn vn : Nat) (octs : List (List Int)) : Addr → Nat → Prop
  | rcs (h : ∀ o ∈ octs, ∃ k vl vp ov, Oct kn vn k vl vp ov o) : EntsOf kn vn octs 260 (2 + kn + 2 + vn + 4)
  | rfs (h : ∀ o ∈ octs, ∃ k rb ra, OctR kn k rb ra o) : EntsOf kn vn octs 301 (4 + 2 + kn + 4)
theorem EntsOf.len {kn vn el : Nat} {octs : List (List Int)} {ec : Addr} (h : EntsOf kn vn octs ec el) : (∀ o ∈ octs, o.length = el) ∧ 4 < el ∧ (kn ≤ 3 → vn ≤ 3 → el ≤ 1000) := by
  cases h with
  | rcs h =>
    refine ⟨fun o ho => ?_, Nat.lt_add_of_pos_left (Nat.add_pos_left (Nat.add_pos_left (Nat.add_pos_left (by decide) kn) 2) vn), fun a b => Nat.le_trans (Nat.add_le_add_right (Nat.add_le_add (Nat.add_le_add_right (Nat.add_le_add_left a 2) 2) b) 4) (by decide)⟩
    obtain ⟨k, vl, vp, ov, H⟩ := h o ho
    rw [H.is]
    simp only [List.length_append, KTBy.little_length, H.vp]
    omega
  | rfs h =>
    refine ⟨fun o ho => ?_, Nat.lt_add_of_pos_left (Nat.add_pos_left (by decide) kn), fun a _ => Nat.le_trans (Nat.add_le_add_right (Nat.add_le_add_left a _) 4) (by decide)⟩
    obtain ⟨k, rb, ra, H⟩ := h o ho
    rw [H.is]
    simp only [List.length_append, KTBy.little_length]
    omega
/-- the loop of Node.load after i entries -/
inductive LdAt (w : World) (x : Addr) (kn vn : Nat) (ec le y : Addr) (octs : List (List Int)) (dat el : Value) (news0 : Led) : Nat → (Str → Option Value) → Led → Prop
  | mk {i : Nat} {m : Str → Option Value} {nw : Led} (vs : List Value) (nn : Nat) (h1 : m "self" = some (.ref y)) (h2 : m "data" = some dat) (h3 : m "entry_length" = some el) (hl : (le, lst vs nn) ∈ nw)
    (hv : All2 (fun v o => ∃ a, v = .ref a ∧ LdIs w x kn vn nw ec a o) vs (octs.take i)) (hk : ∀ q ∈ news0, q.1 ≠ le → q ∈ nw) : LdAt w x kn vn ec le y octs dat el news0 i m nw
/-- what load leaves -/
inductive LoadEnd (w : World) (x C y dy le ec : Addr) (kn vn : Nat) (nxt : Int) (dict : Value → Obj) (octs : List (List Int)) : Value → Led → Led → Prop
  | mk {news news' : Led} (vs : List Value) (nn : Nat) (nx' : Value) (hnx : (nxt = 0 ∧ nx' = .none) ∨ (nxt ≠ 0 ∧ ∃ t, nx' = .int nxt t)) (h1 : (y, instObj C dy) ∈ news') (h2 : (dy, dict nx') ∈ news') (h3 : (le, lst vs nn) ∈ news')
    (hv : All2 (fun v o => ∃ a, v = .ref a ∧ LdIs w x kn vn news' ec a o) vs octs) (hk : ∀ q ∈ news, q.1 ≠ dy → q.1 ≠ le → q ∈ news') : LoadEnd w x C y dy le ec kn vn nxt dict octs .none news news'
/-- an entry was made of octets -/
inductive EntMade (w : World) (x : Addr) (kn vn : Nat) (ec : Addr) (o : List Int) : Value → Led → Prop
  | mk (zz dz : Addr) (o1 o2 : Obj) (no1 : ∀ l n, o1 ≠ lst l n) (no2 : ∀ l n, o2 ≠ lst l n) (h : ∀ nw, (zz, o1) ∈ nw → (dz, o2) ∈ nw → LdIs w x kn vn nw ec zz o) : EntMade w x kn vn ec o (.ref zz) [(zz, o1), (dz, o2)]
theorem ent_make (w : World) (x : Addr) (c : Cf) (pn on kn vn : Nat) (ec : Addr) (el : Nat) (octs : List (List Int)) (o : List Int) (ba : Array UInt8) (ta : Tok) (hc : Cf1 c pn on kn vn) (He : EntsOf kn vn octs ec el) (ho : o ∈ octs) (hb : KBw.bInts ba = o) :
    TreeSpec w (call (.ref ec) [.ref x] [("data", .bytes ba ta)]) 34 (fun news => confIs x c.vals news ∧ serIs c.ser news)
    (fun r _ tl => EntMade w x kn vn ec o r tl) := by
  unfold TreeSpec
  intro mean mg mb dp un gd cn nms ig ic mo a ccd cl outer A₀ base h₀ L m news s Q E B F X N T hdp hun pre post
  cases He with
  | rcs he =>
    obtain ⟨ek, vl, vp, ov, HO⟩ := he o ho
    refine rec_make w x c pn on kn vn _ _ _ _ 34 _ _ _ hc (.d _) (.d ba ta ek vl vp ov (hb.symm ▸ HO)) mean mg mb dp un gd cn nms ig ic mo a ccd cl outer A₀ base h₀ L m news s Q E B F X N T hdp hun ⟨pre.1, fun _ => pre.2⟩ ?_
    intro r tl h' tk' F' N' ap hp
    cases hp with
    | mk y dy u1 u2 u3 u4 u5 l n k' v' o' h7 =>
    obtain ⟨⟨t1, rfl⟩, hcase⟩ := h7
    refine post _ _ h' tk' F' N' ap (.mk y dy _ _ (fun _ _ e => (nomatch congrArg Obj.cls e)) (fun _ _ e => absurd (congrArg Obj.cls e) (show ¬Value.type "dict" = Value.type "list" by decide)) fun nw m1 m2 => ?_)
    rcases hcase with ⟨rfl, rfl, b2, t2', rfl, hb2⟩ | ⟨hne, rfl, t2', rfl⟩
    · exact .rv HO ⟨dy, u1, u2, u3, u4, u5, t1, l, n, m1, m2⟩ hb2
    · exact .ro HO hne ⟨dy, u1, u2, u3, u4, u5, t1, l, n, m1, m2⟩
  | rfs he =>
    obtain ⟨ek, rb, ra, HO⟩ := he o ho
    refine ref_make w x c pn on kn vn _ _ _ _ 34 _ _ _ hc (.d _) (.d ba ta ek rb ra (hb.symm ▸ HO)) mean mg mb dp un gd cn nms ig ic mo a ccd cl outer A₀ base h₀ L m news s Q E B F X N T hdp hun ⟨pre.1, fun _ => pre.2⟩ ?_
    intro r tl h' tk' F' N' ap hp
    cases hp with
    | mk y dy u1 u2 u3 u4 u5 l n k' b' a' h7 =>
    obtain ⟨⟨t1, rfl⟩, ⟨t2, rfl⟩, ⟨t3, rfl⟩⟩ := h7
    exact post _ _ h' tk' F' N' ap (.mk y dy _ _ (fun _ _ e => (nomatch congrArg Obj.cls e)) (fun _ _ e => absurd (congrArg Obj.cls e) (show ¬Value.type "dict" = Value.type "list" by decide)) fun nw m1 m2 => .rf HO ⟨dy, u1, u2, u3, u4, u5, t1, _, n, m1, m2⟩)
theorem node_load (w : World) (C y le dy x ec : Addr) (c : Cf) (pn on kn vn : Nat) (kd nxt : Int) (nt mn mx page par nx : Value) (u1 u2 u3 u4 u5 u6 u7 u8 u9 : Tok) (n : Nat) (b : Array UInt8) (t : Tok) (octs : List (List Int)) (el : Nat) (pad : List Int) (hC : OneOf anyNode C) (hc : Cf1 c pn on kn vn) (hz : b.size ≤ 1000)
    (H : b.size = pn → OctN pn kd nxt octs.flatten pad (KBw.bInts b)) (He : EntsOf kn vn octs ec el) :
    CodeSpecX w (.ref 325) ⟨[.ref y, .bytes b t], []⟩ 46
    (fun news => (y, instObj C dy) ∈ news ∧ (dy, nodeDict w u1 u2 u3 u4 u5 u6 u7 u8 u9 x nt mn mx ec le page par nx n) ∈ news ∧ (le, lst [] 0) ∈ news ∧ confIs x c.vals news ∧ serIs c.ser news)
    (b.size = pn) (fun news led => ∀ q ∈ news, q ∈ led) (LoadEnd w x C y dy le ec kn vn nxt (fun nx' => nodeDict w u1 u2 u3 u4 u5 u6 u7 u8 u9 x nt mn mx ec le page par nx' n) octs) := by
  unfold CodeSpecX
  k_fill
  intro mean mg mb A env outer A₀ base h₀ L m news s R hh hA hf hke B F X N T hdp hun pre0 post bad
  obtain ⟨hd0, dp, fr, gd, un⟩ := A
  dsimp only at hh hA hdp hun
  subst hh hA
  obtain ⟨hm, hm', hle, hcf, hs⟩ := pre0
  generalize hdat : octs.flatten = dat at *
  have hyd : y ≠ dy := news_ne N hm hm' fun e => nomatch congrArg Obj.cls e
  have hld : le ≠ dy := news_ne N hle hm' fun e => absurd (congrArg Obj.cls e) (show ¬Value.type "list" = Value.type "dict" by decide)
  have hly : le ≠ y := news_ne N hle hm fun e => nomatch congrArg Obj.cls e
  refine' code_ownX ?mB ?mF ?mX ?mN ?mT rfl hf hke ?mho ?mhc ?mroom ?mbind ?mloc ?_ ?mcell ?mco ?mge ?mki
  case mB => k_asm
  case mF => k_asm
  case mX => k_asm
  case mN => k_asm
  case mT => k_asm
  case mho => k_is
  case mhc => k_is
  case mroom => first | exact room1 (by assumption) (by rfl) | exact room2 (by assumption) (by rfl) | exact room0 (by assumption) (by rfl) | (simp only [PySem.recursionLimit]; omega)
  case mbind => first | exact BindsTo.of_eq rfl | exact binds_K (by k_in) rfl (by k_is) rfl rfl rfl
  case mcell => decide
  case mco => exact rfl
  case mge => exact rfl
  case mki => exact rfl
  case mloc => exact locs rfl
  intro g' L' h' FG' F' N' B' X' T' Qb Eb hQ hE
  try dsimp only
  try k_fold
  refine letA ?_
  intro A1
  refine letE ?_
  intro e1
  obtain ⟨dc, hc1, hc2⟩ := id hcf
  refine cutnE (fun X => ∀ h tk m t2, ((b.size : Int) = c.ps) → (Fr g' L' h m) → (News g' L' h news) → (m "self" = some (.ref y)) → (m "data" = some (.bytes b t)) → (m "end_used_page_length" = some (.int 4 t2)) → X h tk) (l1 := [_, _]) (l2 := _) rfl ?len ?rest1
  case len =>
    intro Qb hQ
    k_steps
    refine ⟨?_⟩
    refine KBw.len_K rfl (by rw [KBw.ints_length]; exact Nat.le_trans hz (by decide)) ?_
    rw [KBw.ints_length]
    k_steps
    · exact hQ _ _ _ _ (by assumption) (by assumption) (by assumption) rfl rfl rfl
    · have hno : ¬ (b.size = pn) := fun e => ‹(b.size : Int) ≠ c.ps› (by rw [hc.ps, e])
      refine hE _ _ ?_
      refine leave_newS (by assumption) (by assumption) (by assumption) (by assumption) ?_
      intro h9 R9 _ U9
      exact bad _ _ _ _ _ hno FG' R9 U9 fun q hq => hq
  case rest1 =>
    clear F' N'
    intro h tk m1 t2 hbs F1 N1 hms hmd hme
    have hb : b.size = pn := Int.ofNat_inj.mp (hbs.trans hc.ps)
    have H := H hb
    have z := H.len
    have hp16 : pn ≤ 16777216 := Nat.le_of_lt (Nat.lt_trans hc.p2 (by decide))
    have hdl : dat.length + pad.length + 8 = pn := by
      rw [H.is] at z
      simp only [List.length_append, KTBy.little_length] at z
      omega
    have hd88 : dat.length ≤ 88 := Nat.le_trans (Nat.le_trans (Nat.le_add_right _ _) (Nat.le_add_right _ 8)) (Nat.le_trans (Nat.le_of_eq hdl) (Nat.le_of_lt hc.p2))
    refine cutn (fun X => ∀ h tk m t2 t3, (Fr g' L' h m) → (News g' L' h news) → (m "self" = some (.ref y)) → (m "data" = some (.bytes b t)) → (m "used_page_length" = some (.int (dat.length + 4) t2)) → (m "end_header" = some (.int 8 t3)) → (m "end_used_page_length" = m1 "end_used_page_length") → X h tk) (l1 := [_, _]) (l2 := _) rfl ?used ?rest2
    case used =>
      intro Qb hQ
      k_steps
      refine ⟨?_⟩
      refine KBc.slice_K (s := ⟨_, _, _, _, _⟩) (by assumption) (by assumption) rfl (by constructor) (by constructor) (by rw [z]; exact hp16) ?_
      intro ha ta ka Fa Na hka
      replace hka := hka.trans (part_of (A := KTBy.little 1 kd) (B := KTBy.little 3 (dat.length + 4)) H.is (by simp [KTBy.little_length]) (by simp [KTBy.little_length]))
      generalize KBy.picked b _ _ = ba at *
      k_steps
      refine ⟨?_⟩
      rename News _ _ _ _ => N3
      refine KFB.call_little N3 (.head _) hka (by rw [KTBy.little_length]; decide) ?_
      intro t5 k5
      rw [value_little 3 ((dat.length : Int) + 4) (Int.natCast_nonneg (dat.length + 4)) (Int.ofNat_lt.mpr (Nat.lt_of_le_of_lt (Nat.add_le_add_right hd88 4) (by decide)))]
      replace N3 := news_sub N3 fun q hq => .tail _ hq
      k_steps
      exact hQ _ _ _ _ _ (by assumption) (by assumption) (by exact hms) (by exact hmd) rfl rfl (by exact rfl)
    case rest2 =>
      intro h tk m2 t3 t4 F2 N2 hms2 hmd2 hmu2 hmh2 hme2
      replace hme2 := hme2.trans hme
      have hm2 : (y, instObj C dy) ∈ rest dy news := mem_rest hm hyd
      have hkeep : ∀ q ∈ news, q.1 ≠ dy → q ∈ rest dy news := fun q hq h9 => mem_rest hq h9
      replace N2 := news_rest N2 hm'
      refine cutn (fun X => ∀ h tk m nx', ((nxt = 0 ∧ nx' = .none) ∨ (nxt ≠ 0 ∧ ∃ t, nx' = .int nxt t)) → (Fr g' L' h m) → (News g' L' h ((dy, nodeDict w u1 u2 u3 u4 u5 u6 u7 u8 u9 x nt mn mx ec le page par nx' n) :: rest dy news)) → (m "self" = some (.ref y)) → (m "data" = some (.bytes b t)) → (m "used_page_length" = some (.int (dat.length + 4) t3)) → (m "end_header" = some (.int 8 t4)) → X h tk) (l1 := [_, _]) (l2 := _) rfl ?next ?rest3
      case next =>
        intro Qb hQ
        k_steps
        refine ⟨?_⟩
        refine KBc.slice_K (s := ⟨_, _, _, _, _⟩) (by assumption) (by assumption) rfl (by constructor) (by constructor) (by rw [z]; exact hp16) ?_
        intro ha ta ka Fa Na hka
        replace hka := hka.trans (part_of (A := KTBy.little 1 kd ++ KTBy.little 3 (dat.length + 4)) (B := KTBy.little 4 nxt) (by rw [H.is, List.append_assoc]) (by simp [KTBy.little_length]) (by simp [KTBy.little_length]))
        generalize KBy.picked b _ _ = ba at *
        k_steps
        refine ⟨?_⟩
        rename News _ _ _ _ => N3
        refine KFB.call_little N3 (.head _) hka (by rw [KTBy.little_length]; decide) ?_
        intro t5 k5
        rw [value_little 4 _ H.k0 H.k1]
        replace N3 := news_sub N3 fun q hq => .tail _ hq
        k_steps
        (rename News _ _ _ _ => N4); refine' set_dict (dx := dy) (by assumption) ?k2 N4 (InstAt.of_news N4 (.tail _ hm2) (.head _)) rfl ?k6 ?k7 ?k8 ?k9 rfl rfl (.head rest_ne) (Nat.le_of_ble_eq_true rfl) ?_; (case k2 => k_asm); (case k6 => k_is); (case k7 => k_is); (case k8 => k_is); (case k9 => k_is); intro h5 F5 N5; (dsimp only)
        k_steps
        · (rename News _ _ _ _ => N4); refine' set_dict (dx := dy) (by assumption) ?k2 N4 (InstAt.of_news N4 (.tail _ hm2) (.head _)) rfl ?k6 ?k7 ?k8 ?k9 rfl rfl (.head rest_ne) (Nat.le_of_ble_eq_true rfl) ?_; (case k2 => k_asm); (case k6 => k_is); (case k7 => k_is); (case k8 => k_is); (case k9 => k_is); intro h5 F5 N5; (dsimp only)
          k_steps
          exact hQ _ _ _ _ (.inl ⟨by assumption, rfl⟩) (by assumption) (by assumption) (by exact hms2) (by exact hmd2) (by exact hmu2) (by exact hmh2)
        · exact hQ _ _ _ _ (.inr ⟨by assumption, _, rfl⟩) (by assumption) (by assumption) (by exact hms2) (by exact hmd2) (by exact hmu2) (by exact hmh2)
      case rest3 =>
        intro h tk m3 nx' hnx F3 N3 hms3 hmd3 hmu3 hmh3
        refine cutn (fun X => ∀ h tk m t5, (Fr g' L' h m) → (News g' L' h ((dy, nodeDict w u1 u2 u3 u4 u5 u6 u7 u8 u9 x nt mn mx ec le page par nx' n) :: rest dy news)) → (m "self" = some (.ref y)) → (m "data" = some (.bytes b t)) → (m "used_page_length" = some (.int (dat.length + 4) t3)) → (m "end_header" = some (.int 8 t4)) → (m "entry_length" = some (.int el t5)) → X h tk) (l1 := [_]) (l2 := _) rfl ?elen ?rest4
        case elen =>
          intro Qb hQ
          have hcf' : confIs x c.vals (rest dy news) := by
            obtain ⟨q1, q2⟩ := (⟨hc1, hc2⟩ : _ ∧ _)
            exact ⟨dc, mem_rest hc1 (news_ne N hc1 hm' fun e => by simp at e), mem_rest hc2 (news_ne N hc2 hm' fun e => by simp [emptyDict] at e)⟩
          have hM : HoldM := {}
          k_steps
          refine ⟨?_⟩
          with_reducible rename HoldM => hM
          clear hM
          refine' method_val ?k1 ?k2 ?k3 ?k4 ?k5 ?_
          case k1 => k_asm
          case k2 => k_asm
          case k3 => exact InstAt.of_news N3 (.tail _ hm2) (.head _)
          case k4 => k_is
          case k5 => k_is
          cases He with
          | rcs he =>
            have hel : 2 + c.ks + 2 + c.vz + 4 = ((2 + kn + 2 + vn + 4 : Nat) : Int) := by rw [hc.ks, hc.vz]; rfl
            k_steps
            refine ⟨?_⟩
            refine' TreeSpec.use (rec_make w x c pn on kn vn _ _ _ _ 12 _ _ _ hc .c (.n _ _ _ (.inl rfl))) ?mB ?mF ?mX ?mN ?mT ?mhd ?mhu ?mp ?_
            (case mB => k_asm); (case mF => k_asm); (case mX => k_asm); (case mN => k_asm); (case mT => k_asm); (case mhd => first | exact room2 (by assumption) (by rfl) | exact room1 (by assumption) (by rfl) | exact room3 (by assumption) (by rfl) | exact room4 (by assumption) (by rfl) | decide); (case mhu => first | exact room2 (by assumption) (by rfl) | exact room1 (by assumption) (by rfl) | exact room3 (by assumption) (by rfl) | exact room4 (by assumption) (by rfl) | decide)
            case mp => exact ⟨hcf'.sub fun q hq => .tail _ hq, fun e => absurd rfl e⟩
            intro r1 tl1 h4 tk4 F4 N4 ap4 hp4
            cases hp4 with
            | mk z1 dz v1 v2 v3 v4 v5 l4 n4 k7 v7 o7 h7 =>
            cases h7
            rw [hel] at N4
            k_steps
            rename News _ _ _ _ => N5
            exact hQ _ _ _ _ (by assumption) (news_sub N5 fun q hq => .tail _ (.tail _ hq)) (by exact hms3) (by exact hmd3) (by exact hmu3) (by exact hmh3) rfl
          | rfs he =>
            have hel : 2 * 4 + 2 + c.ks = ((4 + 2 + kn + 4 : Nat) : Int) := by rw [hc.ks]; omega
            k_steps
            refine ⟨?_⟩
            refine' TreeSpec.use (ref_make w x c pn on kn vn _ _ _ _ 12 _ _ _ hc .c (.n _ _ _)) ?mB ?mF ?mX ?mN ?mT ?mhd ?mhu ?mp ?_
            (case mB => k_asm); (case mF => k_asm); (case mX => k_asm); (case mN => k_asm); (case mT => k_asm); (case mhd => first | exact room2 (by assumption) (by rfl) | exact room1 (by assumption) (by rfl) | exact room3 (by assumption) (by rfl) | exact room4 (by assumption) (by rfl) | decide); (case mhu => first | exact room2 (by assumption) (by rfl) | exact room1 (by assumption) (by rfl) | exact room3 (by assumption) (by rfl) | exact room4 (by assumption) (by rfl) | decide)
            case mp => exact ⟨hcf'.sub fun q hq => .tail _ hq, fun e => absurd rfl e⟩
            intro r1 tl1 h4 tk4 F4 N4 ap4 hp4
            cases hp4 with
            | mk z1 dz v1 v2 v3 v4 v5 l4 n4 k7 v7 o7 h7 =>
            cases h7
            rw [hel] at N4
            k_steps
            rename News _ _ _ _ => N5
            exact hQ _ _ _ _ (by assumption) (news_sub N5 fun q hq => .tail _ (.tail _ hq)) (by exact hms3) (by exact hmd3) (by exact hmu3) (by exact hmh3) rfl
        case rest4 =>
          intro h tk m4 t5 F4 N4 hms4 hmd4 hmu4 hmh4 hml4
          obtain ⟨hol, hel4, helz⟩ := He.len
          have hdl2 : dat.length = octs.length * el := by rw [← hdat]; exact flatten_len hol
          rw [hdl2] at hmu4
          refine wpAny_execs_cons (For_rangeD rfl rfl ?_)
          k_steps
          have hp88 : octs.length * el ≤ 88 := hdl2 ▸ hd88
          have hel1 := helz hc.k2 hc.v2
          have hol1 : octs.length ≤ 1000 := by
            refine Nat.le_trans ?_ (Nat.le_trans hp88 (by decide))
            exact Nat.le_mul_of_pos_right _ (Nat.lt_trans (by decide) hel4)
          refine range3_rows (by assumption) (by assumption) (by omega) ?_ (.inl (PyProof.noPylong_small (by omega)))
          intro h5 tk5 w1 w2 w3 hr F5 N5 _
          refine LoopD.mk _ 8 _ el w1 w2 w3 octs.length (fun g => g = g') g' m4 _ (LdAt w x kn vn ec le y octs (.bytes b t) (.int el t5) ((dy, nodeDict w u1 u2 u3 u4 u5 u6 u7 u8 u9 x nt mn mx ec le page par nx' n) :: rest dy news)) rfl rfl F5 N5 hr (small_el hel4 hol1 hel1) (rangeSize_el hel4)
            (LdAt.mk [] 0 hms4 hmd4 hml4 (.tail _ (mem_rest hle hld)) trivial (fun q hq _ => hq)) ?turn ?done
          case done =>
            intro m6 nw6 h₀2 h6 tk6 e6 q F6 N6
            subst e6
            cases q with
            | mk vs nn q1 q2 q3 q4 q5 q6 =>
            dsimp only
            rw [List.take_length] at q5
            k_steps
            refine hQ _ _ ?_
            k_steps
            refine post _ _ _ _ hb (by assumption) (by assumption) (.mk vs nn nx' hnx (q6 _ (.tail _ hm2) (Ne.symm hly)) (q6 _ (.head _) (Ne.symm hld)) q4 q5 fun q hq h1 h2 => q6 _ (.tail _ (hkeep q hq h1)) h2)
          case turn =>
            intro i ti m6 nw6 h₀2 h6 tk6 I oI hi e6 q off F6 N6 Qt hT
            subst e6
            cases q with
            | mk vs nn q1 q2 q3 q4 q5 q6 =>
            dsimp only
            obtain ⟨o, ho⟩ : ∃ o, octs[i]? = some o := ⟨octs[i], by simp [hi]⟩
            k_steps
            have hfl : (octs.take i).flatten.length = i * el := by rw [flatten_len fun o ho => hol o (List.mem_of_mem_take ho), List.length_take, Nat.min_eq_left (Nat.le_of_lt hi)]
            have hoe := hol o (List.mem_of_getElem? ho)
            refine ⟨?_⟩
            refine KBc.slice_K (s := ⟨_, _, _, _, _⟩) (by assumption) (by assumption) rfl (by constructor) (by constructor) (by rw [z]; exact hp16) ?_
            intro ha ta ka Fa Na hka
            replace hka := hka.trans (part_of (A := KTBy.little 1 kd ++ (KTBy.little 3 (dat.length + 4) ++ (KTBy.little 4 nxt ++ (octs.take i).flatten))) (B := o) (C := (octs.drop (i + 1)).flatten ++ pad) (by rw [H.is, show dat = _ from hdat.symm.trans (flatten_at ho)]; simp only [List.append_assoc]) (by simp only [List.length_append, KTBy.little_length, hfl]; push_cast; omega) (by simp only [List.length_append, KTBy.little_length, hfl, hoe]; push_cast; omega))
            generalize KBy.picked b _ _ = ba at *
            have hM : HoldM := {}
            k_steps
            refine ⟨?_⟩
            with_reducible rename HoldM => hM
            clear hM
            have keepB : ∀ q ∈ news, q.1 ≠ dy → q.1 ≠ le → q ∈ nw6 := fun q hq h1 h2 => q6 _ (.tail _ (mem_rest hq h1)) h2
            have iy := q6 _ (.tail _ hm2) (Ne.symm hly)
            have idy := q6 _ (.head _) (Ne.symm hld)
            have hcN : confIs x c.vals nw6 := ⟨dc, keepB _ hc1 (news_ne N hc1 hm' fun e => by simp at e) (news_ne N hc1 hle fun e => by simp at e), keepB _ hc2 (news_ne N hc2 hm' fun e => by simp [emptyDict] at e) (news_ne N hc2 hle fun e => by simp [emptyDict] at e)⟩
            have hsN : serIs c.ser nw6 := by
              obtain ⟨ds, hs1, hs2⟩ := hs
              exact ⟨ds, keepB _ hs1 (news_ne N hs1 hm' fun e => by simp at e) (news_ne N hs1 hle fun e => by simp at e), keepB _ hs2 (news_ne N hs2 hm' fun e => by simp [emptyDict] at e) (news_ne N hs2 hle fun e => by simp [emptyDict] at e)⟩
            rename News _ _ _ _ => N7
            refine' method_val ?k1 ?k2 ?k3 ?k4 ?k5 ?_
            case k1 => k_asm
            case k2 => k_asm
            case k3 => exact InstAt.of_news N7 (.tail _ iy) (.tail _ idy)
            case k4 => k_is
            case k5 => k_is
            have hkp : keepIn (hd.heap_1 w.params) (.ref ec) = true := by cases He <;> k_is
            k_steps
            refine ⟨?_⟩
            with_reducible rename keepIn _ _ = true => hkp
            refine callWith_KW (K := hd.heap_1 w.params) (by k_asm) hkp rfl ?_
            clear hkp
            k_steps
            refine ⟨?_⟩
            refine' TreeSpec.use (ent_make w x c pn on kn vn _ _ _ o ba ta hc He (List.mem_of_getElem? ho) hka) ?mB ?mF ?mX ?mN ?mT ?mhd ?mhu ?mp ?_
            (case mB => k_asm); (case mF => k_asm); (case mX => k_asm); (case mN => k_asm); (case mT => k_asm); (case mhd => first | exact room2 (by assumption) (by rfl) | exact room1 (by assumption) (by rfl) | exact room3 (by assumption) (by rfl) | exact room4 (by assumption) (by rfl) | decide); (case mhu => first | exact room2 (by assumption) (by rfl) | exact room1 (by assumption) (by rfl) | exact room3 (by assumption) (by rfl) | exact room4 (by assumption) (by rfl) | decide)
            case mp => exact ⟨hcN.sub fun q hq => .tail _ hq, hsN.sub fun q hq => .tail _ hq⟩
            intro r1 tl1 h8 tk8 F8 N8 ap8 hp8
            cases hp8 with
            | mk zz dz o1 o2 no1 no2 hld =>
            k_steps
            refine ⟨?_⟩
            rename News _ _ _ _ => N9
            have hvs : vs.length < 1000 := by
              rw [q5.len, List.length_take]
              exact Nat.lt_of_le_of_lt (Nat.min_le_left _ _) (Nat.lt_of_lt_of_le hi hol1)
            have hle9 : (le, lst vs nn) ∈ [(zz, o1), (dz, o2)] ++ (I, oI) :: nw6 := List.mem_append_right _ (.tail _ q4)
            have hnl : ∀ q ∈ [(zz, o1), (dz, o2)] ++ (I, oI) :: nw6, (∀ l n, q.2 ≠ lst l n) → q.1 ≠ le := fun q hq h => news_ne N9 hq hle9 (h _ _)
            refine append_led (by assumption) N9 hle9 hvs ?_
            intro h10 F10 N10
            k_steps
            refine hT .next _ _ _ _ ((le, lst (vs ++ [.ref zz]) (nn + 1)) :: rest le ([(zz, o1), (dz, o2)] ++ nw6)) (.inl rfl) rfl F10 (news_sub N10 ?s1) ?s2 (LdAt.mk (vs ++ [.ref zz]) (nn + 1) q1 q2 q3 (.head _) ?s3 ?s4)
            case s1 =>
              intro q hq
              rcases List.mem_cons.mp hq with rfl | hq
              · exact .tail _ (mem_rest (List.mem_append_right _ (.head _)) (Ne.symm (off _ q4)))
              rcases List.mem_cons.mp hq with rfl | hq
              · exact .head _
              · exact .tail _ (mem_rest ((List.mem_append.mp (List.mem_filter.mp hq).1).elim (List.mem_append_left _) fun h => List.mem_append_right _ (.tail _ h)) (rest_ne _ hq))
            case s2 =>
              intro q hq
              rcases List.mem_cons.mp hq with rfl | hq
              · exact off (le, lst vs nn) q4
              · exact (List.mem_append.mp (List.mem_filter.mp hq).1).elim (fun h => Ne.symm (ap8 _ (.head _) _ h)) fun h => off _ h
            case s3 =>
              have up : ∀ q ∈ nw6, (∀ l n, q.2 ≠ lst l n) → q ∈ (le, lst (vs ++ [.ref zz]) (nn + 1)) :: rest le ([(zz, o1), (dz, o2)] ++ nw6) := fun q hq h => .tail _ (mem_rest (List.mem_append_right _ hq) (hnl q (List.mem_append_right _ (.tail _ hq)) h))
              rw [List.take_add_one, ho]
              exact All2.append (q5.imp fun _ _ ⟨a, e, h⟩ => ⟨a, e, h.sub up⟩) ⟨⟨zz, rfl, hld _ (.tail _ (mem_rest (.head _) (hnl (zz, o1) (.head _) no1))) (.tail _ (mem_rest (.tail _ (.head _)) (hnl (dz, o2) (.tail _ (.head _)) no2)))⟩, trivial⟩
            case s4 => exact fun q hq h => .tail _ (mem_rest (List.mem_append_right _ (q6 q hq h)) h)
end Mine
end

section
open PySem PySem.W PyProof.Rows
/-- between two texts: the walk forgets the lines of the text before, as a fresh process has none -/
theorem Mine.calm134 : ∀ (prog : Program) (w : World) (A : Around) (env : Env) (E : Value → Shared → Prop) (s : Shared) (Q : Flow → Shared → Prop), Q .next s → wpAny (model prog w) A (execs [] env) Q E s := by
  w_top off
  intro prog w A env E s Q h
  walk1
  exact h
end

section
open PySem PySem.W PyProof.Rows PySem.Calls
set_option Elab.async false
set_option linter.unusedSimpArgs false
set_option maxRecDepth 100000
set_option maxHeartbeats 4000000
namespace Mine
/-- what a node is made of: nothing, or a page's octets -/
inductive DatOf (pn kn vn : Nat) (ec : Addr) (nx : Value) : Value → List (List Int) → (Value → Prop) → Prop → Prop
  | no : DatOf pn kn vn ec nx .none [] (· = nx) True
  | oct {b : Array UInt8} {t : Tok} {kd nxt : Int} {pad : List Int} {octs : List (List Int)} {el : Nat} (h0 : b.size ≠ 0) (hz : b.size ≤ 1000) (H : b.size = pn → OctN pn kd nxt octs.flatten pad (KBw.bInts b)) (He : EntsOf kn vn octs ec el) :
    DatOf pn kn vn ec nx (.bytes b t) octs (fun nx' => (nxt = 0 ∧ nx' = .none) ∨ (nxt ≠ 0 ∧ ∃ t, nx' = .int nxt t)) (b.size = pn)
/-- what a node's dict bears behind Node.__init__ -/
inductive InitEndX (w : World) (dy x ec : Addr) (kn vn : Nat) (nt mn mx page : Value) (octs : List (List Int)) (NX : Value → Prop) : Value → Led → Led → Prop
  | mk {news news' : Led} (le : Addr) (nx' : Value) (u1 u2 u3 u4 u5 u6 u7 u8 u9 : Tok) (n : Nat) (vs : List Value) (nn : Nat) (hnx : NX nx') (h1 : (le, lst vs nn) ∈ news') (h2 : (dy, nodeDict w u1 u2 u3 u4 u5 u6 u7 u8 u9 x nt mn mx ec le page .none nx' n) ∈ news')
    (hv : All2 (fun v o => ∃ a, v = .ref a ∧ LdIs w x kn vn news' ec a o) vs octs) (hl : ∀ q ∈ news, q.1 ≠ le) (hk : Kept dy news news') : InitEndX w dy x ec kn vn nt mn mx page octs NX .none news news'
local macro_rules | `(tactic| k_is) => `(tactic| (rename OneOf _ _ => q9; first | (clear q9; k_is) | (with_reducible first | apply q9.find4 | apply q9.over4 | apply q9.taker4 | apply q9.dict4 | apply q9.plain4 | apply q9.find2 | apply q9.over2 | apply q9.taker2 | apply q9.dict2 | apply q9.plain2 | apply q9.mro2) <;> k_is))
local macro_rules | `(tactic| walk_at "call type:list") => `(tactic| (k_here; k_dflt (refine' list0 ?mF ?mN ?_; (case mF => k_asm); (case mN => k_asm); intro D' h' F' N' l1; (try k_lt l1); (try k_sweep))))
local macro_rules | `(tactic| k_all) => `(tactic| assumption)
local macro_rules | `(tactic| ks_enter) => `(tactic| refine' Held.out ?_)
local macro_rules | `(tactic| walk_at "call ref") => `(tactic| ((with_reducible rename HoldM => hM); refine' Held.out ?_))
theorem node_init (w : World) (C y dy x ec : Addr) (c : Cf) (pn on kn vn : Nat) (u1 u2 u3 u4 : Tok) (nt mn mx page nx D : Value) (octs : List (List Int)) (NX : Value → Prop) (Ok : Prop) (args : Args) (hC : OneOf anyNode C) (hc : Cf1 c pn on kn vn) (hD : DatOf pn kn vn ec nx D octs NX Ok)
    (ha : args = ⟨[.ref y, .ref x, D, page, .none, nx], []⟩ ∨ (nx = .none ∧ args = ⟨[.ref y, .ref x, D, page, .none], []⟩)) :
    CodeSpecX w (.ref 318) args 52
    (fun news => (y, instObj C dy) ∈ news ∧ (dy, dictOf [en w "_node_type_int" u1 nt, en w "min_children" u2 mn, en w "max_children" u3 mx, en w "_entry_class" u4 (.ref ec)] 4) ∈ news ∧ confIs x c.vals news ∧ serIs c.ser news)
    Ok (fun news led => ∀ q ∈ news, q.1 ≠ dy → q ∈ led) (InitEndX w dy x ec kn vn nt mn mx page octs NX) := by
  unfold CodeSpecX
  k_fill
  intro mean mg mb A env outer A₀ base h₀ L m news s R hh hA hf hke B F X N T hdp hun pre post bad
  obtain ⟨hd0, dp, fr, gd, un⟩ := A
  dsimp only at hh hA hdp hun
  subst hh hA
  obtain ⟨hm, hm', hcf, hs⟩ := pre
  have hyd := news_ne N hm hm' fun e => nomatch congrArg Obj.cls e
  have hr : ∀ p ∈ rest dy news, p.1 ≠ dy := rest_ne
  have hkeep : ∀ q ∈ news, q.1 ≠ dy → q ∈ rest dy news := fun q hq h9 => mem_rest hq h9
  have hmr : (y, instObj C dy) ∈ rest dy news := hkeep _ hm hyd
  have hcf' : confIs x c.vals (rest dy news) := by
    obtain ⟨dc, hc1, hc2⟩ := hcf
    exact ⟨dc, mem_rest hc1 (news_ne N hc1 hm' fun e => by simp at e), mem_rest hc2 (news_ne N hc2 hm' fun e => by simp [emptyDict] at e)⟩
  have hs' : serIs c.ser (rest dy news) := by
    obtain ⟨ds, hs1, hs2⟩ := hs
    exact ⟨ds, mem_rest hs1 (news_ne N hs1 hm' fun e => by simp at e), mem_rest hs2 (news_ne N hs2 hm' fun e => by simp [emptyDict] at e)⟩
  replace N := news_rest N hm'
  refine' code_ownX (binds := [("self", .ref y), ("tree_conf", .ref x), ("data", D), ("page", page), ("parent", .none), ("next_page", nx)]) ?mB ?mF ?mX ?mN ?mT rfl hf hke ?mho ?mhc ?mroom ?mbind ?mloc ?_ ?mcell ?mco ?mge ?mki
  case mB => k_asm
  case mF => k_asm
  case mX => k_asm
  case mN => k_asm
  case mT => k_asm
  case mho => k_is
  case mhc => k_is
  case mroom => first | exact room1 (by assumption) (by rfl) | exact room2 (by assumption) (by rfl) | exact room0 (by assumption) (by rfl) | (simp only [PySem.recursionLimit]; omega)
  case mbind =>
    rcases ha with rfl | ⟨rfl, rfl⟩
    all_goals first | exact BindsTo.of_eq rfl | exact binds_K (by k_in) rfl (by k_is) rfl rfl rfl
  case mcell => decide
  case mco => exact rfl
  case mge => exact rfl
  case mki => exact rfl
  case mloc => exact locs rfl
  intro g' L' h' FG' F' N' B' X' T' Qb Eb hQ hE
  try dsimp only
  try k_fold
  refine letA ?_
  intro A1
  refine letE ?_
  intro e1
  refine cutn (fun X => ∀ h tk m le u5 u6 u7 u8 u9 n', (∀ q ∈ news, q.1 ≠ le) → (Fr g' L' h m) → (News g' L' h ((le, lst [] 0) :: (dy, nodeDict w u1 u2 u3 u4 u5 u6 u7 u8 u9 x nt mn mx ec le page .none nx n') :: rest dy news)) → (m "self" = some (.ref y)) → (m "data" = some D) → X h tk) (l1 := [_, _, _, _, _]) (l2 := _) rfl ?set ?rest1
  case set =>
    intro Qb hQ
    k_steps
    with_reducible rename _ ∧ AllLt _ _ => l9
    refine hQ _ _ _ _ _ _ _ _ _ _ (fun q hq => ?_) (by assumption) (by assumption) (by exact rfl) (by exact rfl)
    by_cases e : q.1 = dy
    · rw [e]; exact Nat.ne_of_lt l9.1
    · exact Nat.ne_of_lt (ktn_ltOf l9.2 q (hkeep q hq e))
  case rest1 =>
    clear F' N'
    intro h tk m le u5 u6 u7 u8 u9 n' hle F1 N1 hms hmd
    cases hD with
    | no =>
      k_steps
      refine hQ _ _ ?_
      k_steps
      exact post _ _ _ _ trivial (by assumption) (by assumption) (.mk le nx u1 u2 u3 u4 u5 u6 u7 u8 u9 n' [] 0 rfl (.head _) (.tail _ (.head _)) trivial hle fun q hq e => .tail _ (.tail _ (hkeep q hq e)))
    | oct h0 hz H He =>
      rename_i b t kd nxt pad el
      have hbn : ((b.size : Int) != 0) = true := by
        rw [bne_iff_ne]
        omega
      have hM : HoldM := {}
      k_steps
      refine ⟨?_⟩
      with_reducible rename HoldM => hM
      clear hM
      refine wpAny_call ?_
      refine' CodeSpecX.use (node_load w C y le dy x ec c pn on kn vn kd nxt nt mn mx page .none nx u1 u2 u3 u4 u5 u6 u7 u8 u9 n' b t octs el pad hC hc hz H He) ?hh ?hA ?hf ?hke ?mB ?mF ?mX ?mN ?mT ?mhd ?mhu ?mp ?_ ?_
      (case hA => exact Around.frames_deeper (Below.stack (by assumption))); (case hf => exact rfl); (case hke => exact rfl); (case hh => first | exact hh | exact rfl); (case mB => assumption); (case mF => assumption); (case mX => assumption); (case mN => assumption); (case mT => assumption); (case mhd => first | exact room2 (by assumption) (by rfl) | exact room1 (by assumption) (by rfl) | exact room3 (by assumption) (by rfl) | exact room4 (by assumption) (by rfl)); (case mhu => first | exact room2 (by assumption) (by rfl) | exact room1 (by assumption) (by rfl) | exact room3 (by assumption) (by rfl) | exact room4 (by assumption) (by rfl))
      case mp => exact ⟨.tail _ (.tail _ hmr), .tail _ (.head _), .head _, hcf'.sub fun q hq => .tail _ (.tail _ hq), hs'.sub fun q hq => .tail _ (.tail _ hq)⟩
      · intro r2 nw2 h2 tk2 hok F2 N2 hp
        cases hp with
        | mk vs nn nx' hnx h1 h2 h3 hv hk =>
        k_steps
        refine hQ _ _ ?_
        k_steps
        exact post _ _ _ _ hok (by assumption) (by assumption) (.mk le nx' u1 u2 u3 u4 u5 u6 u7 u8 u9 n' vs nn hnx h3 h2 hv hle fun q hq e => hk q (.tail _ (.tail _ (hkeep q hq e))) e (hle q hq))
      · intro g3 e3 led3 h3 tk3 hno F3 R3 U3 hl3
        refine hE _ _ ?_
        refine leave_onG (by assumption) F3 R3 U3 rfl ?_
        intro h9 R9 U9
        refine bad _ _ _ _ _ hno FG' R9 U9 fun q hq e => hl3 q (.tail _ (.tail _ (hkeep q hq e)))
end Mine
end

section
open PySem PySem.W PyProof.Rows
/-- between two texts: the walk forgets the lines of the text before, as a fresh process has none -/
theorem Mine.calm136 : ∀ (prog : Program) (w : World) (A : Around) (env : Env) (E : Value → Shared → Prop) (s : Shared) (Q : Flow → Shared → Prop), Q .next s → wpAny (model prog w) A (execs [] env) Q E s := by
  w_top off
  intro prog w A env E s Q h
  walk1
  exact h
end

section
open PySem PySem.W PyProof.Rows PySem.Calls
set_option Elab.async false
set_option linter.unusedSimpArgs false
set_option maxRecDepth 100000
set_option maxHeartbeats 4000000
namespace Mine
local macro_rules | `(tactic| walk_at "wpAt") => `(tactic| (dsimp only))
local macro_rules | `(tactic| walk_at "wpAt") => `(tactic| k_dflt (first | (ks_step "exec Expr"; refine ks_wpAt_Expr_any ?_) | (ks_step "eval Call"; refine ks_wpAt_MethodCall ?_)))
local macro_rules | `(tactic| k_is) => `(tactic| (rename OneOf _ _ => q9; first | (clear q9; k_is) | (with_reducible first | apply q9.find4 | apply q9.over4 | apply q9.taker4 | apply q9.dict4 | apply q9.plain4 | apply q9.find2 | apply q9.over2 | apply q9.taker2 | apply q9.dict2 | apply q9.plain2 | apply q9.mro2) <;> k_is))
local macro_rules | `(tactic| walk_at "getMethod ref") => `(tactic| ((with_reducible rename HoldM => hM); refine' Held.out ?_))
local macro_rules | `(tactic| k_all) => `(tactic| assumption)
local macro_rules | `(tactic| ks_enter) => `(tactic| refine' Held.out ?_)
theorem OneOf.rec_any {C : Addr} (h : OneOf recNode C) : OneOf anyNode C := List.mem_append_left (bs := refNode) h
theorem OneOf.ref_any {C : Addr} (h : OneOf refNode C) : OneOf anyNode C := .tail _ (.tail _ h)
theorem rec_init (w : World) (C y dy x : Addr) (c : Cf) (pn on kn vn : Nat) (u1 u2 u3 : Tok) (nt mn mx page nx D : Value) (octs : List (List Int)) (NX : Value → Prop) (Ok : Prop) (args : Args) (hC : OneOf recNode C) (hc : Cf1 c pn on kn vn) (hD : DatOf pn kn vn 260 nx D octs NX Ok)
    (ha : args = ⟨[.ref y, .ref x, D, page, .none, nx], []⟩ ∨ (nx = .none ∧ args = ⟨[.ref y, .ref x, D, page, .none], []⟩)) :
    CodeSpecX w (.ref 478) args 60
    (fun news => (y, instObj C dy) ∈ news ∧ (dy, dictOf [en w "_node_type_int" u1 nt, en w "min_children" u2 mn, en w "max_children" u3 mx] 3) ∈ news ∧ confIs x c.vals news ∧ serIs c.ser news)
    Ok (fun news led => ∀ q ∈ news, q.1 ≠ dy → q ∈ led) (InitEndX w dy x 260 kn vn nt mn mx page octs NX) := by
  unfold CodeSpecX
  k_fill
  intro mean mg mb A env outer A₀ base h₀ L m news s R hh hA hf hke B F X N T hdp hun pre post bad
  obtain ⟨hd0, dp, fr, gd, un⟩ := A
  dsimp only at hh hA hdp hun
  subst hh hA
  obtain ⟨hm, hm', hcf, hs⟩ := pre
  have hyd := news_ne N hm hm' fun e => nomatch congrArg Obj.cls e
  have hr : ∀ p ∈ rest dy news, p.1 ≠ dy := rest_ne
  have hkeep : ∀ q ∈ news, q.1 ≠ dy → q ∈ rest dy news := fun q hq h9 => mem_rest hq h9
  have hcf' : confIs x c.vals (rest dy news) := by
    obtain ⟨dc, hc1, hc2⟩ := hcf
    exact ⟨dc, mem_rest hc1 (news_ne N hc1 hm' fun e => by simp at e), mem_rest hc2 (news_ne N hc2 hm' fun e => by simp [emptyDict] at e)⟩
  have hs' : serIs c.ser (rest dy news) := by
    obtain ⟨ds, hs1, hs2⟩ := hs
    exact ⟨ds, mem_rest hs1 (news_ne N hs1 hm' fun e => by simp at e), mem_rest hs2 (news_ne N hs2 hm' fun e => by simp [emptyDict] at e)⟩
  clear hcf hs
  replace hm : (y, instObj C dy) ∈ rest dy news := hkeep _ hm hyd
  replace N := news_rest N hm'
  clear hm'
  refine' own_superX (hA := rfl) (hf := hf) (hke := hke) (binds := [("self", .ref y), ("tree_conf", .ref x), ("data", D), ("page", page), ("parent", .none), ("next_page", nx)]) ?mB ?mF ?mX ?mN ?mT ?mho ?mhc ?mroom ?mbind ?mloc ?_ ?mcell ?mco ?mge ?mki
  case mB => k_asm
  case mF => k_asm
  case mX => k_asm
  case mN => k_asm
  case mT => k_asm
  case mho => k_is
  case mhc => k_is
  case mroom => first | exact room1 (by assumption) (by rfl) | exact room2 (by assumption) (by rfl) | exact room0 (by assumption) (by rfl) | (simp only [PySem.recursionLimit]; omega)
  case mbind =>
    rcases ha with rfl | ⟨rfl, rfl⟩
    all_goals first | exact BindsTo.of_eq rfl | exact binds_K (by k_in) rfl (by k_is) rfl rfl rfl
  case mcell => decide
  case mco => exact rfl
  case mge => exact rfl
  case mki => exact rfl
  case mloc => exact locs rfl
  intro g' L' h' FG' F' N' B' X' T' l1 Qb Eb hQ hE
  try k_lt l1
  try dsimp only
  refine letAt ?_
  intro A1
  refine letEt ?_
  intro e1
  show _root_.PySem.wpAt _ _ _ _ _ _ { s with heap := h', toks := s.toks + 6 }
  have hM : HoldM := ⟨⟩
  k_steps
  refine ⟨?_⟩
  with_reducible rename HoldM => hM
  clear hM
  k_dflt (refine' ks_method ?k1 ?k2 ?k3 ?k4 ?k5 ?k6 ?k7 ?k8 ?k9 ?_; (case k1 => k_asm); (case k2 => k_asm); (case k3 => k_asm); (case k4 => k_mem); (case k5 => k_inst); (case k6 => k_is); (case k7 => exact OneOf.two (P := fun C => ks_superIn _ C _ _ = _) hC (by ks_is) (by ks_is)); (case k8 => k_is); (case k9 => decide); intro q' h' F' N' l1; (try k_lt l1))
  k_steps
  refine ⟨?_⟩
  rename News _ _ _ _ => N7
  rename _ ∧ AllLt _ _ => l7
  refine' CodeSpecX.use (node_init w C y dy x 260 c pn on kn vn _ _ _ _ nt mn mx page nx D octs NX Ok _ hC.rec_any hc hD (.inl rfl)) ?hh ?hA ?hf ?hke ?mB ?mF ?mX ?mN ?mT ?mhd ?mhu ?mp ?_ ?_
  (case hA => exact Around.frames_deeper (Below.stack (by assumption))); (case hf => exact rfl); (case hke => exact rfl); (case hh => first | exact hh | exact rfl); (case mB => assumption); (case mF => assumption); (case mX => assumption); (case mN => assumption); (case mT => assumption); (case mhd => first | exact room2 (by assumption) (by rfl) | exact room1 (by assumption) (by rfl) | exact room3 (by assumption) (by rfl) | exact room4 (by assumption) (by rfl)); (case mhu => first | exact room2 (by assumption) (by rfl) | exact room1 (by assumption) (by rfl) | exact room3 (by assumption) (by rfl) | exact room4 (by assumption) (by rfl))
  case mp => exact ⟨.tail _ (.tail _ (.tail _ hm)), by k_mem, hcf'.sub fun q hq => .tail _ (.tail _ (.tail _ hq)), hs'.sub fun q hq => .tail _ (.tail _ (.tail _ hq))⟩
  · intro r1 nw1 h1 tk1 hok F1 N1 hp1
    cases hp1 with
    | mk le nx' v1 v2 v3 v4 v5 v6 v7 v8 v9 n1 vs nn hnx q1 q2 hv hl hk =>
    k_steps
    refine hQ _ _ ?_
    k_steps
    exact post _ _ _ _ hok (by assumption) (by assumption) (.mk le nx' v1 v2 v3 v4 v5 v6 v7 v8 v9 n1 vs nn hnx q1 q2 hv (fun q hq => (Classical.em (q.1 = dy)).elim (fun e => by rw [e]; exact hl (dy, _) (by k_mem)) fun e => hl q (.tail _ (.tail _ (.tail _ (hkeep q hq e))))) fun q hq n => hk _ (.tail _ (.tail _ (.tail _ (hkeep q hq n)))) n)
  · intro g3 e3 led3 h3 tk3 hno F3 R3 U3 hl3
    refine hE _ _ ?_
    refine leave_onG (by assumption) F3 R3 U3 rfl ?_
    intro h9 R9 U9
    exact bad _ _ _ _ _ hno FG' R9 U9 fun q hq e => hl3 q (.tail _ (.tail _ (.tail _ (hkeep q hq e)))) e
theorem ref_init (w : World) (C y dy x : Addr) (c : Cf) (pn on kn vn : Nat) (u1 u2 u3 : Tok) (nt mn mx page D : Value) (octs : List (List Int)) (NX : Value → Prop) (Ok : Prop) (args : Args) (hC : OneOf refNode C) (hc : Cf1 c pn on kn vn) (hD : DatOf pn kn vn 301 .none D octs NX Ok)
    (ha : args = ⟨[.ref y, .ref x, D, page, .none], []⟩) :
    CodeSpecX w (.ref 559) args 60
    (fun news => (y, instObj C dy) ∈ news ∧ (dy, dictOf [en w "_node_type_int" u1 nt, en w "min_children" u2 mn, en w "max_children" u3 mx] 3) ∈ news ∧ confIs x c.vals news ∧ serIs c.ser news)
    Ok (fun news led => ∀ q ∈ news, q.1 ≠ dy → q ∈ led) (InitEndX w dy x 301 kn vn nt mn mx page octs NX) := by
  unfold CodeSpecX
  k_fill
  intro mean mg mb A env outer A₀ base h₀ L m news s R hh hA hf hke B F X N T hdp hun pre post bad
  obtain ⟨hd0, dp, fr, gd, un⟩ := A
  dsimp only at hh hA hdp hun
  subst hh hA
  obtain ⟨hm, hm', hcf, hs⟩ := pre
  have hyd := news_ne N hm hm' fun e => nomatch congrArg Obj.cls e
  have hr : ∀ p ∈ rest dy news, p.1 ≠ dy := rest_ne
  have hkeep : ∀ q ∈ news, q.1 ≠ dy → q ∈ rest dy news := fun q hq h9 => mem_rest hq h9
  have hcf' : confIs x c.vals (rest dy news) := by
    obtain ⟨dc, hc1, hc2⟩ := hcf
    exact ⟨dc, mem_rest hc1 (news_ne N hc1 hm' fun e => by simp at e), mem_rest hc2 (news_ne N hc2 hm' fun e => by simp [emptyDict] at e)⟩
  have hs' : serIs c.ser (rest dy news) := by
    obtain ⟨ds, hs1, hs2⟩ := hs
    exact ⟨ds, mem_rest hs1 (news_ne N hs1 hm' fun e => by simp at e), mem_rest hs2 (news_ne N hs2 hm' fun e => by simp [emptyDict] at e)⟩
  clear hcf hs
  replace hm : (y, instObj C dy) ∈ rest dy news := hkeep _ hm hyd
  replace N := news_rest N hm'
  clear hm'
  refine' own_superX (hA := rfl) (hf := hf) (hke := hke) (binds := [("self", .ref y), ("tree_conf", .ref x), ("data", D), ("page", page), ("parent", .none)]) ?mB ?mF ?mX ?mN ?mT ?mho ?mhc ?mroom ?mbind ?mloc ?_ ?mcell ?mco ?mge ?mki
  case mB => k_asm
  case mF => k_asm
  case mX => k_asm
  case mN => k_asm
  case mT => k_asm
  case mho => k_is
  case mhc => k_is
  case mroom => first | exact room1 (by assumption) (by rfl) | exact room2 (by assumption) (by rfl) | exact room0 (by assumption) (by rfl) | (simp only [PySem.recursionLimit]; omega)
  case mbind =>
    subst ha
    first | exact BindsTo.of_eq rfl | exact binds_K (by k_in) rfl (by k_is) rfl rfl rfl
  case mcell => decide
  case mco => exact rfl
  case mge => exact rfl
  case mki => exact rfl
  case mloc => exact locs rfl
  intro g' L' h' FG' F' N' B' X' T' l1 Qb Eb hQ hE
  try k_lt l1
  try dsimp only
  refine letAt ?_
  intro A1
  refine letEt ?_
  intro e1
  show _root_.PySem.wpAt _ _ _ _ _ _ { s with heap := h', toks := s.toks + 5 }
  have hM : HoldM := ⟨⟩
  k_steps
  refine ⟨?_⟩
  with_reducible rename HoldM => hM
  clear hM
  k_dflt (refine' ks_method ?k1 ?k2 ?k3 ?k4 ?k5 ?k6 ?k7 ?k8 ?k9 ?_; (case k1 => k_asm); (case k2 => k_asm); (case k3 => k_asm); (case k4 => k_mem); (case k5 => k_inst); (case k6 => k_is); (case k7 => exact OneOf.two (P := fun C => ks_superIn _ C _ _ = _) hC (by ks_is) (by ks_is)); (case k8 => k_is); (case k9 => decide); intro q' h' F' N' l1; (try k_lt l1))
  k_steps
  refine ⟨?_⟩
  rename News _ _ _ _ => N7
  rename _ ∧ AllLt _ _ => l7
  refine' CodeSpecX.use (node_init w C y dy x 301 c pn on kn vn _ _ _ _ nt mn mx page .none D octs NX Ok _ hC.ref_any hc hD (.inr ⟨rfl, rfl⟩)) ?hh ?hA ?hf ?hke ?mB ?mF ?mX ?mN ?mT ?mhd ?mhu ?mp ?_ ?_
  (case hA => exact Around.frames_deeper (Below.stack (by assumption))); (case hf => exact rfl); (case hke => exact rfl); (case hh => first | exact hh | exact rfl); (case mB => assumption); (case mF => assumption); (case mX => assumption); (case mN => assumption); (case mT => assumption); (case mhd => first | exact room2 (by assumption) (by rfl) | exact room1 (by assumption) (by rfl) | exact room3 (by assumption) (by rfl) | exact room4 (by assumption) (by rfl)); (case mhu => first | exact room2 (by assumption) (by rfl) | exact room1 (by assumption) (by rfl) | exact room3 (by assumption) (by rfl) | exact room4 (by assumption) (by rfl))
  case mp => exact ⟨.tail _ (.tail _ (.tail _ hm)), by k_mem, hcf'.sub fun q hq => .tail _ (.tail _ (.tail _ hq)), hs'.sub fun q hq => .tail _ (.tail _ (.tail _ hq))⟩
  · intro r1 nw1 h1 tk1 hok F1 N1 hp1
    cases hp1 with
    | mk le nx' v1 v2 v3 v4 v5 v6 v7 v8 v9 n1 vs nn hnx q1 q2 hv hl hk =>
    k_steps
    refine hQ _ _ ?_
    k_steps
    exact post _ _ _ _ hok (by assumption) (by assumption) (.mk le nx' v1 v2 v3 v4 v5 v6 v7 v8 v9 n1 vs nn hnx q1 q2 hv (fun q hq => (Classical.em (q.1 = dy)).elim (fun e => by rw [e]; exact hl (dy, _) (by k_mem)) fun e => hl q (.tail _ (.tail _ (.tail _ (hkeep q hq e))))) fun q hq n => hk _ (.tail _ (.tail _ (.tail _ (hkeep q hq n)))) n)
  · intro g3 e3 led3 h3 tk3 hno F3 R3 U3 hl3
    refine hE _ _ ?_
    refine leave_onG (by assumption) F3 R3 U3 rfl ?_
    intro h9 R9 U9
    exact bad _ _ _ _ _ hno FG' R9 U9 fun q hq e => hl3 q (.tail _ (.tail _ (.tail _ (hkeep q hq e)))) e
end Mine
end

section
open PySem PySem.W PyProof.Rows
/-- between two texts: the walk forgets the lines of the text before, as a fresh process has none -/
theorem Mine.calm138 : ∀ (prog : Program) (w : World) (A : Around) (env : Env) (E : Value → Shared → Prop) (s : Shared) (Q : Flow → Shared → Prop), Q .next s → wpAny (model prog w) A (execs [] env) Q E s := by
  w_top off
  intro prog w A env E s Q h
  walk1
  exact h
end

section
open PySem PySem.W PyProof.Rows PySem.Calls
set_option Elab.async false
set_option linter.unusedSimpArgs false
set_option maxRecDepth 100000
set_option maxHeartbeats 4000000
namespace Mine
/-- the tree t at any frame of the text's own: it may change the ledger; where Ok holds it ends as Post says, else it raises an AssertionError -/
def MutSpecX (w : World) (t : Sem Value) (cost : Nat) (Pre : Led → Prop) (Ok : Prop) (Post : Value → Led → Led → Prop) : Prop :=
  ∀ (mean : ExcName → Option Value) (mg mb : Str → Option Value) (dp un : Nat) (gd : Option (List Code)) (cn : Str) (nms : List (Str × NameKind)) (ig ic : Bool) (mo : List (Str × Const)) (a : Addr) (ccd : Value) (cl : List (Str × Addr)) (outer : List Env) (A₀ : Around) (base h₀ : Heap) (L : Addr)
    (m : Str → Option Value) (news : Led) (s : Shared) (Q E : Value → Shared → Prop),
    Below A₀ base outer h₀ → Fr h₀ L s.heap m → (hd.heap_1 w.params).In h₀ → News h₀ L s.heap news → Top vw lsw mean mg mb h₀ → dp + cost < 400 → un + 8 * cost < 5000 → Pre news →
    (∀ r news' h' tk', Ok → Fr h₀ L h' m → News h₀ L h' news' → Post r news news' → Q r { s with heap := h', toks := tk' }) →
    (∀ g e led h' tk', ¬ Ok → Fr h₀ L g m → RaisedSN base g (envX cn ⟨.function, nms, ig, ic, mo⟩ L a ccd cl :: outer) e (.type "AssertionError") led h' → g.UpToSlots h' → (∀ q ∈ news, q ∈ led) → E (.ref e) { s with heap := h', toks := tk' }) →
    wpAny (model PySem.Challenge.rw_ke0002_01.row.prog w) (ktrTop dp un gd cn ⟨.function, nms, ig, ic, mo⟩ L a ccd cl outer) t Q E s
theorem MutSpecX.use {w : World} {t : Sem Value} {cost : Nat} {Pre : Led → Prop} {Ok : Prop} {Post : Value → Led → Led → Prop} (S : MutSpecX w t cost Pre Ok Post)
    {mean : ExcName → Option Value} {mg mb : Str → Option Value} {dp un : Nat} {gd : Option (List Code)} {cn : Str} {nms : List (Str × NameKind)} {ig ic : Bool} {mo : List (Str × Const)} {a : Addr} {ccd : Value} {cl : List (Str × Addr)} {outer : List Env} {A₀ : Around} {base h₀ : Heap} {L : Addr}
    {m : Str → Option Value} {news : Led} {s : Shared} {hs : Heap} {ks : Nat} {Q E : Value → Shared → Prop}
    (B : Below A₀ base outer h₀) (F : Fr h₀ L hs m) (X : (hd.heap_1 w.params).In h₀) (N : News h₀ L hs news) (T : Top vw lsw mean mg mb h₀) (hd : dp + cost < 400) (hu : un + 8 * cost < 5000) (pre : Pre news)
    (k : ∀ r news' h' tk', Ok → Fr h₀ L h' m → News h₀ L h' news' → Post r news news' → Q r { s with heap := h', toks := tk' })
    (k2 : ∀ g e led h' tk', ¬ Ok → Fr h₀ L g m → RaisedSN base g (envX cn ⟨.function, nms, ig, ic, mo⟩ L a ccd cl :: outer) e (.type "AssertionError") led h' → g.UpToSlots h' → (∀ q ∈ news, q ∈ led) → E (.ref e) { s with heap := h', toks := tk' }) :
    wpAny (model PySem.Challenge.rw_ke0002_01.row.prog w) (ktrTop dp un gd cn ⟨.function, nms, ig, ic, mo⟩ L a ccd cl outer) t Q E { s with heap := hs, toks := ks } :=
  S mean mg mb dp un gd cn nms ig ic mo a ccd cl outer A₀ base h₀ L m news { s with heap := hs, toks := ks } Q E B F X N T hd hu pre k k2
/-- a node was made -/
inductive MadeX (w : World) (C x ec : Addr) (kn vn : Nat) (page : Value) (octs : List (List Int)) (NX : Value → Prop) (nt mn mx : Int) : Value → Led → Led → Prop
  | mk {news news' : Led} (y dy le : Addr) (t1 t2 t3 : Tok) (nx' : Value) (u1 u2 u3 u4 u5 u6 u7 u8 u9 : Tok) (n : Nat) (vs : List Value) (nn : Nat) (hnx : NX nx') (h1 : (y, instObj C dy) ∈ news') (h2 : (dy, nodeDict w u1 u2 u3 u4 u5 u6 u7 u8 u9 x (.int nt t1) (.int mn t2) (.int mx t3) ec le page .none nx' n) ∈ news') (h3 : (le, lst vs nn) ∈ news')
    (hv : All2 (fun v o => ∃ a, v = .ref a ∧ LdIs w x kn vn news' ec a o) vs octs) (hl : ∀ q ∈ news, q.1 ≠ le) (hd : ∀ q ∈ news, q.1 ≠ dy) (hk : ∀ q ∈ news, q ∈ news') : MadeX w C x ec kn vn page octs NX nt mn mx (.ref y) news news'
local macro_rules | `(tactic| walk_at "MINE spec") => `(tactic| ((case mB | mF | mX | mN | mT => k_asm); (case mhd | mhu => k_units)))
local macro_rules | `(tactic| walk_at "getAttr ref") => `(tactic| (k_here; k_dflt (refine' (conf_one ?h).use0 ?mB ?mF ?mX ?mN ?mT ?mhd ?mhu ?mp ?_; (case h => with_reducible constructor); (walk_at "MINE spec"); (case mp => exact ⟨_, by k_mem, by k_mem⟩); intro h' tk' F' N'; (try k_sweep))))
local macro_rules | `(tactic| walk_at "wpAt") => `(tactic| (dsimp only))
local macro_rules | `(tactic| walk_at "wpAt") => `(tactic| k_dflt (first | (ks_step "exec Expr"; refine ks_wpAt_Expr_any ?_) | (ks_step "eval Call"; refine ks_wpAt_MethodCall ?_)))
local macro_rules | `(tactic| k_all) => `(tactic| assumption)
local macro_rules | `(tactic| ks_enter) => `(tactic| refine' Held.out ?_)
theorem mk_LonelyRootNode (w : World) (x : Addr) (c : Cf) (pn on kn vn : Nat) (page D : Value) (octs : List (List Int)) (NX : Value → Prop) (Ok : Prop) (vals : List Value) (kw : List (Str × Value)) (hc : Cf1 c pn on kn vn) (hD : DatOf pn kn vn 260 .none D octs NX Ok)
    (ha : (D = .none ∧ vals = [.ref x] ∧ kw = ([("page", page)] : List (Str × Value))) ∨ (vals = [.ref x, D, page] ∧ kw = [])) :
    MutSpecX w (call (.ref 518) vals kw) 70 (fun news => confIs x c.vals news ∧ serIs c.ser news) Ok (MadeX w 518 x 260 kn vn page octs NX 1 (0) (c.od - 1)) := by
  unfold MutSpecX
  k_fill
  intro mean mg mb dp un gd cn nms ig ic mo a ccd cl outer A₀ base h₀ L m news s Q E B F X N T hdp hun pre post bad
  obtain ⟨⟨dc, hm, hm'⟩, hs⟩ := pre
  have hod : 1 ≤ c.od := by
    have := hc.od
    have := hc.o1
    omega
  k_steps
  refine ⟨?_⟩
  with_reducible rename AllLt _ news => lnews
  rename_i y dy h1 F1 N1 l2
  have hny : ∀ q ∈ news, q.1 ≠ dy := fun q hq => Nat.ne_of_lt (ktn_ltOf lnews q hq)
  refine' own_superX (hA := rfl) (hf := rfl) (hke := rfl) (binds := [("self", .ref y), ("tree_conf", .ref x), ("data", D), ("page", page), ("parent", .none)]) ?mB ?mF ?mX ?mN ?mT ?mho ?mhc ?mroom ?mbind ?mloc ?_ ?mcell ?mco ?mge ?mki
  case mB => k_asm
  case mF => k_asm
  case mX => k_asm
  case mN => k_asm
  case mT => k_asm
  case mho => k_is
  case mhc => k_is
  case mroom => k_room
  case mbind =>
    rcases ha with ⟨rfl, rfl, rfl⟩ | ⟨rfl, rfl⟩
    all_goals first | exact BindsTo.of_eq rfl | exact binds_K (by k_in) rfl (by k_is) rfl rfl rfl
  case mcell => decide
  case mco => exact rfl
  case mge => exact rfl
  case mki => exact rfl
  case mloc => exact locs rfl
  intro g' L' h' FG' F' N' B' X' T' l1 Qb Eb hQ hE
  try k_lt l1
  try dsimp only
  refine letAt ?_
  intro A1
  refine letEt ?_
  intro e1
  show _root_.PySem.wpAt _ _ _ _ _ _ { s with heap := h', toks := s.toks + 5 }
  k_steps
  refine ⟨?_⟩
  refine' CodeSpecX.use (rec_init w 518 y dy x c pn on kn vn _ _ _ _ _ _ page .none D octs NX Ok _ (.head _) hc hD (.inr ⟨rfl, rfl⟩)) ?hh ?hA ?hf ?hke ?mB ?mF ?mX ?mN ?mT ?mhd ?mhu ?mp ?_ ?_
  (case hA => exact Around.frames_deeper (Below.stack (by assumption))); (case hf => exact rfl); (case hke => exact rfl); (case hh => first | exact hh | exact rfl); (case mB => assumption); (case mF => assumption); (case mX => assumption); (case mN => assumption); (case mT => assumption); (case mhd => first | exact room2 (by assumption) (by rfl) | exact room1 (by assumption) (by rfl) | exact room3 (by assumption) (by rfl) | exact room4 (by assumption) (by rfl)); (case mhu => first | exact room2 (by assumption) (by rfl) | exact room1 (by assumption) (by rfl) | exact room3 (by assumption) (by rfl) | exact room4 (by assumption) (by rfl))
  case mp => exact ⟨by k_mem, by k_mem, ⟨dc, .tail _ (.tail _ (.tail _ (.tail _ hm))), .tail _ (.tail _ (.tail _ (.tail _ hm')))⟩, hs.sub fun q hq => .tail _ (.tail _ (.tail _ (.tail _ hq)))⟩
  · intro r1 nw1 h1 tk1 hok F1 N1 hp1
    cases hp1 with
    | mk le nx' v1 v2 v3 v4 v5 v6 v7 v8 v9 n1 vs nn hnx q1 q2 hv hl hk =>
    k_steps
    refine hQ _ _ ?_
    k_steps
    exact ⟨rfl, post _ _ _ _ hok (by assumption) (by assumption) (.mk y dy le _ _ _ nx' v1 v2 v3 v4 v5 v6 v7 v8 v9 n1 vs nn hnx (hk _ (.tail _ (.tail _ (.head _))) (Nat.ne_of_gt l2)) q2 q1 hv (fun q hq => hl q (.tail _ (.tail _ (.tail _ (.tail _ hq))))) hny fun q hq => hk _ (.tail _ (.tail _ (.tail _ (.tail _ hq)))) (hny q hq))⟩
  · intro g3 e3 led3 h3 tk3 hno F3 R3 U3 hl3
    refine hE _ _ ?_
    refine leave_onG (by assumption) F3 R3 U3 rfl ?_
    intro h9 R9 U9
    exact bad _ _ _ _ _ hno FG' R9 U9 fun q hq => hl3 q (.tail _ (.tail _ (.tail _ (.tail _ hq)))) (hny q hq)
theorem mk_LeafNode (w : World) (x : Addr) (c : Cf) (pn on kn vn : Nat) (page nx D : Value) (octs : List (List Int)) (NX : Value → Prop) (Ok : Prop) (vals : List Value) (kw : List (Str × Value)) (hc : Cf1 c pn on kn vn) (hD : DatOf pn kn vn 260 nx D octs NX Ok)
    (ha : (D = .none ∧ vals = [.ref x] ∧ kw = ([("page", page), ("next_page", nx)] : List (Str × Value))) ∨ (nx = .none ∧ vals = [.ref x, D, page] ∧ kw = [])) :
    MutSpecX w (call (.ref 540) vals kw) 70 (fun news => confIs x c.vals news ∧ serIs c.ser news) Ok (MadeX w 540 x 260 kn vn page octs NX 4 ((c.od + 1).fdiv 2 - 1) (c.od - 1)) := by
  unfold MutSpecX
  k_fill
  intro mean mg mb dp un gd cn nms ig ic mo a ccd cl outer A₀ base h₀ L m news s Q E B F X N T hdp hun pre post bad
  obtain ⟨⟨dc, hm, hm'⟩, hs⟩ := pre
  have hod : 1 ≤ c.od := by
    have := hc.od
    have := hc.o1
    omega
  k_steps
  refine ⟨?_⟩
  with_reducible rename AllLt _ news => lnews
  rename_i y dy h1 F1 N1 l2
  have hny : ∀ q ∈ news, q.1 ≠ dy := fun q hq => Nat.ne_of_lt (ktn_ltOf lnews q hq)
  refine' own_superX (hA := rfl) (hf := rfl) (hke := rfl) (binds := [("self", .ref y), ("tree_conf", .ref x), ("data", D), ("page", page), ("parent", .none), ("next_page", nx)]) ?mB ?mF ?mX ?mN ?mT ?mho ?mhc ?mroom ?mbind ?mloc ?_ ?mcell ?mco ?mge ?mki
  case mB => k_asm
  case mF => k_asm
  case mX => k_asm
  case mN => k_asm
  case mT => k_asm
  case mho => k_is
  case mhc => k_is
  case mroom => k_room
  case mbind =>
    rcases ha with ⟨rfl, rfl, rfl⟩ | ⟨rfl, rfl, rfl⟩
    all_goals first | exact BindsTo.of_eq rfl | exact binds_K (by k_in) rfl (by k_is) rfl rfl rfl
  case mcell => decide
  case mco => exact rfl
  case mge => exact rfl
  case mki => exact rfl
  case mloc => exact locs rfl
  intro g' L' h' FG' F' N' B' X' T' l1 Qb Eb hQ hE
  try k_lt l1
  try dsimp only
  refine letAt ?_
  intro A1
  refine letEt ?_
  intro e1
  show _root_.PySem.wpAt _ _ _ _ _ _ { s with heap := h', toks := s.toks + 6 }
  k_steps
  refine ⟨?_⟩
  refine' CodeSpecX.use (rec_init w 540 y dy x c pn on kn vn _ _ _ _ _ _ page nx D octs NX Ok _ (.tail _ (.head _)) hc hD (.inl rfl)) ?hh ?hA ?hf ?hke ?mB ?mF ?mX ?mN ?mT ?mhd ?mhu ?mp ?_ ?_
  (case hA => exact Around.frames_deeper (Below.stack (by assumption))); (case hf => exact rfl); (case hke => exact rfl); (case hh => first | exact hh | exact rfl); (case mB => assumption); (case mF => assumption); (case mX => assumption); (case mN => assumption); (case mT => assumption); (case mhd => first | exact room2 (by assumption) (by rfl) | exact room1 (by assumption) (by rfl) | exact room3 (by assumption) (by rfl) | exact room4 (by assumption) (by rfl)); (case mhu => first | exact room2 (by assumption) (by rfl) | exact room1 (by assumption) (by rfl) | exact room3 (by assumption) (by rfl) | exact room4 (by assumption) (by rfl))
  case mp => exact ⟨by k_mem, by k_mem, ⟨dc, .tail _ (.tail _ (.tail _ (.tail _ hm))), .tail _ (.tail _ (.tail _ (.tail _ hm')))⟩, hs.sub fun q hq => .tail _ (.tail _ (.tail _ (.tail _ hq)))⟩
  · intro r1 nw1 h1 tk1 hok F1 N1 hp1
    cases hp1 with
    | mk le nx' v1 v2 v3 v4 v5 v6 v7 v8 v9 n1 vs nn hnx q1 q2 hv hl hk =>
    k_steps
    refine hQ _ _ ?_
    k_steps
    exact ⟨rfl, post _ _ _ _ hok (by assumption) (by assumption) (.mk y dy le _ _ _ nx' v1 v2 v3 v4 v5 v6 v7 v8 v9 n1 vs nn hnx (hk _ (.tail _ (.tail _ (.head _))) (Nat.ne_of_gt l2)) q2 q1 hv (fun q hq => hl q (.tail _ (.tail _ (.tail _ (.tail _ hq))))) hny fun q hq => hk _ (.tail _ (.tail _ (.tail _ (.tail _ hq)))) (hny q hq))⟩
  · intro g3 e3 led3 h3 tk3 hno F3 R3 U3 hl3
    refine hE _ _ ?_
    refine leave_onG (by assumption) F3 R3 U3 rfl ?_
    intro h9 R9 U9
    exact bad _ _ _ _ _ hno FG' R9 U9 fun q hq => hl3 q (.tail _ (.tail _ (.tail _ (.tail _ hq)))) (hny q hq)
theorem mk_RootNode (w : World) (x : Addr) (c : Cf) (pn on kn vn : Nat) (page D : Value) (octs : List (List Int)) (NX : Value → Prop) (Ok : Prop) (vals : List Value) (kw : List (Str × Value)) (hc : Cf1 c pn on kn vn) (hD : DatOf pn kn vn 301 .none D octs NX Ok)
    (ha : (D = .none ∧ vals = [.ref x] ∧ kw = ([("page", page)] : List (Str × Value))) ∨ (vals = [.ref x, D, page] ∧ kw = [])) :
    MutSpecX w (call (.ref 607) vals kw) 70 (fun news => confIs x c.vals news ∧ serIs c.ser news) Ok (MadeX w 607 x 301 kn vn page octs NX 2 (2) (c.od)) := by
  unfold MutSpecX
  k_fill
  intro mean mg mb dp un gd cn nms ig ic mo a ccd cl outer A₀ base h₀ L m news s Q E B F X N T hdp hun pre post bad
  obtain ⟨⟨dc, hm, hm'⟩, hs⟩ := pre
  have hod : 1 ≤ c.od := by
    have := hc.od
    have := hc.o1
    omega
  k_steps
  refine ⟨?_⟩
  with_reducible rename AllLt _ news => lnews
  rename_i y dy h1 F1 N1 l2
  have hny : ∀ q ∈ news, q.1 ≠ dy := fun q hq => Nat.ne_of_lt (ktn_ltOf lnews q hq)
  refine' own_superX (hA := rfl) (hf := rfl) (hke := rfl) (binds := [("self", .ref y), ("tree_conf", .ref x), ("data", D), ("page", page), ("parent", .none)]) ?mB ?mF ?mX ?mN ?mT ?mho ?mhc ?mroom ?mbind ?mloc ?_ ?mcell ?mco ?mge ?mki
  case mB => k_asm
  case mF => k_asm
  case mX => k_asm
  case mN => k_asm
  case mT => k_asm
  case mho => k_is
  case mhc => k_is
  case mroom => k_room
  case mbind =>
    rcases ha with ⟨rfl, rfl, rfl⟩ | ⟨rfl, rfl⟩
    all_goals first | exact BindsTo.of_eq rfl | exact binds_K (by k_in) rfl (by k_is) rfl rfl rfl
  case mcell => decide
  case mco => exact rfl
  case mge => exact rfl
  case mki => exact rfl
  case mloc => exact locs rfl
  intro g' L' h' FG' F' N' B' X' T' l1 Qb Eb hQ hE
  try k_lt l1
  try dsimp only
  refine letAt ?_
  intro A1
  refine letEt ?_
  intro e1
  show _root_.PySem.wpAt _ _ _ _ _ _ { s with heap := h', toks := s.toks + 5 }
  k_steps
  refine ⟨?_⟩
  refine' CodeSpecX.use (ref_init w 607 y dy x c pn on kn vn _ _ _ _ _ _ page D octs NX Ok _ (.head _) hc hD rfl) ?hh ?hA ?hf ?hke ?mB ?mF ?mX ?mN ?mT ?mhd ?mhu ?mp ?_ ?_
  (case hA => exact Around.frames_deeper (Below.stack (by assumption))); (case hf => exact rfl); (case hke => exact rfl); (case hh => first | exact hh | exact rfl); (case mB => assumption); (case mF => assumption); (case mX => assumption); (case mN => assumption); (case mT => assumption); (case mhd => first | exact room2 (by assumption) (by rfl) | exact room1 (by assumption) (by rfl) | exact room3 (by assumption) (by rfl) | exact room4 (by assumption) (by rfl)); (case mhu => first | exact room2 (by assumption) (by rfl) | exact room1 (by assumption) (by rfl) | exact room3 (by assumption) (by rfl) | exact room4 (by assumption) (by rfl))
  case mp => exact ⟨by k_mem, by k_mem, ⟨dc, .tail _ (.tail _ (.tail _ (.tail _ hm))), .tail _ (.tail _ (.tail _ (.tail _ hm')))⟩, hs.sub fun q hq => .tail _ (.tail _ (.tail _ (.tail _ hq)))⟩
  · intro r1 nw1 h1 tk1 hok F1 N1 hp1
    cases hp1 with
    | mk le nx' v1 v2 v3 v4 v5 v6 v7 v8 v9 n1 vs nn hnx q1 q2 hv hl hk =>
    k_steps
    refine hQ _ _ ?_
    k_steps
    exact ⟨rfl, post _ _ _ _ hok (by assumption) (by assumption) (.mk y dy le _ _ _ nx' v1 v2 v3 v4 v5 v6 v7 v8 v9 n1 vs nn hnx (hk _ (.tail _ (.tail _ (.head _))) (Nat.ne_of_gt l2)) q2 q1 hv (fun q hq => hl q (.tail _ (.tail _ (.tail _ (.tail _ hq))))) hny fun q hq => hk _ (.tail _ (.tail _ (.tail _ (.tail _ hq)))) (hny q hq))⟩
  · intro g3 e3 led3 h3 tk3 hno F3 R3 U3 hl3
    refine hE _ _ ?_
    refine leave_onG (by assumption) F3 R3 U3 rfl ?_
    intro h9 R9 U9
    exact bad _ _ _ _ _ hno FG' R9 U9 fun q hq => hl3 q (.tail _ (.tail _ (.tail _ (.tail _ hq)))) (hny q hq)
theorem mk_InternalNode (w : World) (x : Addr) (c : Cf) (pn on kn vn : Nat) (page D : Value) (octs : List (List Int)) (NX : Value → Prop) (Ok : Prop) (vals : List Value) (kw : List (Str × Value)) (hc : Cf1 c pn on kn vn) (hD : DatOf pn kn vn 301 .none D octs NX Ok)
    (ha : (D = .none ∧ vals = [.ref x] ∧ kw = ([("page", page)] : List (Str × Value))) ∨ (vals = [.ref x, D, page] ∧ kw = [])) :
    MutSpecX w (call (.ref 629) vals kw) 70 (fun news => confIs x c.vals news ∧ serIs c.ser news) Ok (MadeX w 629 x 301 kn vn page octs NX 3 ((c.od + 1).fdiv 2) (c.od)) := by
  unfold MutSpecX
  k_fill
  intro mean mg mb dp un gd cn nms ig ic mo a ccd cl outer A₀ base h₀ L m news s Q E B F X N T hdp hun pre post bad
  obtain ⟨⟨dc, hm, hm'⟩, hs⟩ := pre
  have hod : 1 ≤ c.od := by
    have := hc.od
    have := hc.o1
    omega
  k_steps
  refine ⟨?_⟩
  with_reducible rename AllLt _ news => lnews
  rename_i y dy h1 F1 N1 l2
  have hny : ∀ q ∈ news, q.1 ≠ dy := fun q hq => Nat.ne_of_lt (ktn_ltOf lnews q hq)
  refine' own_superX (hA := rfl) (hf := rfl) (hke := rfl) (binds := [("self", .ref y), ("tree_conf", .ref x), ("data", D), ("page", page), ("parent", .none)]) ?mB ?mF ?mX ?mN ?mT ?mho ?mhc ?mroom ?mbind ?mloc ?_ ?mcell ?mco ?mge ?mki
  case mB => k_asm
  case mF => k_asm
  case mX => k_asm
  case mN => k_asm
  case mT => k_asm
  case mho => k_is
  case mhc => k_is
  case mroom => k_room
  case mbind =>
    rcases ha with ⟨rfl, rfl, rfl⟩ | ⟨rfl, rfl⟩
    all_goals first | exact BindsTo.of_eq rfl | exact binds_K (by k_in) rfl (by k_is) rfl rfl rfl
  case mcell => decide
  case mco => exact rfl
  case mge => exact rfl
  case mki => exact rfl
  case mloc => exact locs rfl
  intro g' L' h' FG' F' N' B' X' T' l1 Qb Eb hQ hE
  try k_lt l1
  try dsimp only
  refine letAt ?_
  intro A1
  refine letEt ?_
  intro e1
  show _root_.PySem.wpAt _ _ _ _ _ _ { s with heap := h', toks := s.toks + 5 }
  k_steps
  refine ⟨?_⟩
  refine' CodeSpecX.use (ref_init w 629 y dy x c pn on kn vn _ _ _ _ _ _ page D octs NX Ok _ (.tail _ (.head _)) hc hD rfl) ?hh ?hA ?hf ?hke ?mB ?mF ?mX ?mN ?mT ?mhd ?mhu ?mp ?_ ?_
  (case hA => exact Around.frames_deeper (Below.stack (by assumption))); (case hf => exact rfl); (case hke => exact rfl); (case hh => first | exact hh | exact rfl); (case mB => assumption); (case mF => assumption); (case mX => assumption); (case mN => assumption); (case mT => assumption); (case mhd => first | exact room2 (by assumption) (by rfl) | exact room1 (by assumption) (by rfl) | exact room3 (by assumption) (by rfl) | exact room4 (by assumption) (by rfl)); (case mhu => first | exact room2 (by assumption) (by rfl) | exact room1 (by assumption) (by rfl) | exact room3 (by assumption) (by rfl) | exact room4 (by assumption) (by rfl))
  case mp => exact ⟨by k_mem, by k_mem, ⟨dc, .tail _ (.tail _ (.tail _ (.tail _ hm))), .tail _ (.tail _ (.tail _ (.tail _ hm')))⟩, hs.sub fun q hq => .tail _ (.tail _ (.tail _ (.tail _ hq)))⟩
  · intro r1 nw1 h1 tk1 hok F1 N1 hp1
    cases hp1 with
    | mk le nx' v1 v2 v3 v4 v5 v6 v7 v8 v9 n1 vs nn hnx q1 q2 hv hl hk =>
    k_steps
    refine hQ _ _ ?_
    k_steps
    exact ⟨rfl, post _ _ _ _ hok (by assumption) (by assumption) (.mk y dy le _ _ _ nx' v1 v2 v3 v4 v5 v6 v7 v8 v9 n1 vs nn hnx (hk _ (.tail _ (.tail _ (.head _))) (Nat.ne_of_gt l2)) q2 q1 hv (fun q hq => hl q (.tail _ (.tail _ (.tail _ (.tail _ hq))))) hny fun q hq => hk _ (.tail _ (.tail _ (.tail _ (.tail _ hq)))) (hny q hq))⟩
  · intro g3 e3 led3 h3 tk3 hno F3 R3 U3 hl3
    refine hE _ _ ?_
    refine leave_onG (by assumption) F3 R3 U3 rfl ?_
    intro h9 R9 U9
    exact bad _ _ _ _ _ hno FG' R9 U9 fun q hq => hl3 q (.tail _ (.tail _ (.tail _ (.tail _ hq)))) (hny q hq)
end Mine
end

section
open PySem PySem.W PyProof.Rows
/-- between two texts: the walk forgets the lines of the text before, as a fresh process has none -/
theorem Mine.calm140 : ∀ (prog : Program) (w : World) (A : Around) (env : Env) (E : Value → Shared → Prop) (s : Shared) (Q : Flow → Shared → Prop), Q .next s → wpAny (model prog w) A (execs [] env) Q E s := by
  w_top off
  intro prog w A env E s Q h
  walk1
  exact h
end

section
open PySem PySem.W PyProof.Rows PySem.Calls
set_option Elab.async false
set_option linter.unusedSimpArgs false
set_option maxRecDepth 100000
set_option maxHeartbeats 4000000
namespace Mine
--
local macro_rules | `(tactic| k_all) => `(tactic| with_reducible assumption)
local macro_rules | `(tactic| walk_at "call ref") => `(tactic| refine' Held.out ?_)
local macro_rules | `(tactic| walk_at "subscriptTail") => `(tactic| refine' Held.out ?_)
/-- the four kinds of nodes -/
inductive KindOf (c : Cf) : Int → Addr → Addr → Int → Int → Prop
  | k1 : KindOf c 1 518 260 0 (c.od - 1)
  | k2 : KindOf c 2 607 301 2 c.od
  | k3 : KindOf c 3 629 301 ((c.od + 1).fdiv 2) c.od
  | k4 : KindOf c 4 540 260 ((c.od + 1).fdiv 2 - 1) (c.od - 1)
theorem four {k : Int} (h0 : 1 ≤ k) (h1 : k ≤ 4) : k = 1 ∨ k = 2 ∨ k = 3 ∨ k = 4 := by
  obtain ⟨n, rfl⟩ := Int.eq_ofNat_of_zero_le (Int.le_trans (by decide) h0)
  have key : ∀ n : Nat, n < 5 → 1 ≤ n → ((n : Int) = 1 ∨ (n : Int) = 2 ∨ (n : Int) = 3 ∨ (n : Int) = 4) := by decide
  exact key n (Nat.lt_succ_of_le (Int.ofNat_le.mp h1)) (Int.ofNat_le.mp h0)
theorem from_page (w : World) (x C ec : Addr) (c : Cf) (pn on kn vn : Nat) (k0 mn mx : Int) (page : Value) (octs : List (List Int)) (NX : Value → Prop) (Ok : Prop) (b : Array UInt8) (t : Tok) (l : List Int) (hc : Cf1 c pn on kn vn) (hk0 : 0 ≤ k0) (hk1 : k0 < 256) (hz : b.size ≤ 1000)
    (hK : (1 ≤ k0 ∧ k0 ≤ 4) → KindOf c k0 C ec mn mx) (hD : (1 ≤ k0 ∧ k0 ≤ 4) → DatOf pn kn vn ec .none (.bytes b t) octs NX Ok) (hb : KBw.bInts b = k0 :: l) :
    CodeSpecX w (.ref 437) ⟨[.ref 457, .ref x, .bytes b t, page], []⟩ 80 (fun news => confIs x c.vals news ∧ serIs c.ser news) ((1 ≤ k0 ∧ k0 ≤ 4) ∧ Ok) (fun news led => ∀ q ∈ news, q ∈ led) (MadeX w C x ec kn vn page octs NX k0 mn mx) := by
  unfold CodeSpecX
  k_fill
  intro mean mg mb A env outer A₀ base h₀ L m news s R hh hA hf hke B F X N T hdp hun pre0 post bad
  obtain ⟨hd0, dp, fr, gd, un⟩ := A
  dsimp only at hh hA hdp hun
  subst hh hA
  obtain ⟨hcf, hs⟩ := pre0
  have z : b.size = l.length + 1 := by
    have := bInts_size hb
    rw [this]
    rfl
  refine' code_ownX ?mB ?mF ?mX ?mN ?mT rfl hf hke ?mho ?mhc ?mroom ?mbind ?mloc ?_ ?mcell ?mco ?mge ?mki
  case mB => k_asm
  case mF => k_asm
  case mX => k_asm
  case mN => k_asm
  case mT => k_asm
  case mho => k_is
  case mhc => k_is
  case mroom => first | exact room1 (by assumption) (by rfl) | exact room2 (by assumption) (by rfl) | exact room0 (by assumption) (by rfl) | (simp only [PySem.recursionLimit]; omega)
  case mbind => first | exact BindsTo.of_eq rfl | exact binds_K (by k_in) rfl (by k_is) rfl rfl rfl
  case mcell => decide
  case mco => exact rfl
  case mge => exact rfl
  case mki => exact rfl
  case mloc => exact locs rfl
  intro g' L' h' FG' F' N' B' X' T' Qb Eb hQ hE
  try dsimp only
  try k_fold
  refine letA ?_
  intro A1
  refine letE ?_
  intro e1
  refine cutn (fun X => ∀ h tk m t3, (Fr g' L' h m) → (News g' L' h news) → (m "tree_conf" = some (.ref x)) → (m "data" = some (.bytes b t)) → (m "page" = some page) → (m "node_type_int" = some (.int k0 t3)) → X h tk) (l1 := [_, _]) (l2 := _) rfl ?kind ?rest1
  case kind =>
    intro Qb hQ
    k_steps
    refine ⟨?_⟩
    refine KBc.slice_K (s := ⟨_, _, _, _, _⟩) (by assumption) (by assumption) rfl (by constructor) (by constructor) (by rw [hb, List.length_cons]; omega) ?_
    intro ha ta ka Fa Na hka
    replace hka := hka.trans (part_of (A := []) (B := [k0]) (C := l) hb rfl rfl)
    generalize KBy.picked b _ _ = ba at *
    k_steps
    refine ⟨?_⟩
    rename News _ _ _ _ => N3
    refine KFB.call_little N3 (.head _) hka (by show 1 ≤ 8; decide) ?_
    intro t5 k5
    rw [show KFB.value [k0].reverse = k0 by simp [KFB.value]]
    replace N3 := news_sub N3 fun q hq => .tail _ hq
    k_steps
    exact hQ _ _ _ _ (by assumption) (by assumption) rfl rfl rfl rfl
  case rest1 =>
    clear F' N'
    intro h tk m1 t3 F1 N1 hmc hmd hmp hmk
    by_cases hin : 1 ≤ k0 ∧ k0 ≤ 4
    · have hK' := hK hin
      replace hD := hD hin
      clear hK
      cases hK' with
      | k1 =>
        k_steps
        refine ⟨?_⟩
        refine' MutSpecX.use (mk_LonelyRootNode w x c pn on kn vn page (.bytes b t) octs NX Ok _ _ hc hD (.inr ⟨rfl, rfl⟩)) ?mB ?mF ?mX ?mN ?mT ?mhd ?mhu ?mp ?_ ?_
        (case mB => k_asm); (case mF => k_asm); (case mX => k_asm); (case mN => k_asm); (case mT => k_asm); (case mhd => first | exact room2 (by assumption) (by rfl) | exact room1 (by assumption) (by rfl) | exact room3 (by assumption) (by rfl) | exact room4 (by assumption) (by rfl) | decide); (case mhu => first | exact room2 (by assumption) (by rfl) | exact room1 (by assumption) (by rfl) | exact room3 (by assumption) (by rfl) | exact room4 (by assumption) (by rfl) | decide)
        case mp => exact ⟨hcf, hs⟩
        · intro r2 nw2 h2 tk2 hok F2 N2 hp
          k_steps
          refine hQ _ _ ?_
          k_steps
          exact post _ _ _ _ ⟨hin, hok⟩ (by assumption) (by assumption) hp
        · intro g3 e3 led3 h3 tk3 hno F3 R3 U3 hl3
          refine hE _ _ ?_
          refine leave_onG (by assumption) F3 R3 U3 rfl ?_
          intro h9 R9 U9
          exact bad _ _ _ _ _ (fun q => hno q.2) FG' R9 U9 hl3
      | k2 =>
        k_steps
        refine ⟨?_⟩
        refine' MutSpecX.use (mk_RootNode w x c pn on kn vn page (.bytes b t) octs NX Ok _ _ hc hD (.inr ⟨rfl, rfl⟩)) ?mB ?mF ?mX ?mN ?mT ?mhd ?mhu ?mp ?_ ?_
        (case mB => k_asm); (case mF => k_asm); (case mX => k_asm); (case mN => k_asm); (case mT => k_asm); (case mhd => first | exact room2 (by assumption) (by rfl) | exact room1 (by assumption) (by rfl) | exact room3 (by assumption) (by rfl) | exact room4 (by assumption) (by rfl) | decide); (case mhu => first | exact room2 (by assumption) (by rfl) | exact room1 (by assumption) (by rfl) | exact room3 (by assumption) (by rfl) | exact room4 (by assumption) (by rfl) | decide)
        case mp => exact ⟨hcf, hs⟩
        · intro r2 nw2 h2 tk2 hok F2 N2 hp
          k_steps
          refine hQ _ _ ?_
          k_steps
          exact post _ _ _ _ ⟨hin, hok⟩ (by assumption) (by assumption) hp
        · intro g3 e3 led3 h3 tk3 hno F3 R3 U3 hl3
          refine hE _ _ ?_
          refine leave_onG (by assumption) F3 R3 U3 rfl ?_
          intro h9 R9 U9
          exact bad _ _ _ _ _ (fun q => hno q.2) FG' R9 U9 hl3
      | k3 =>
        k_steps
        refine ⟨?_⟩
        refine' MutSpecX.use (mk_InternalNode w x c pn on kn vn page (.bytes b t) octs NX Ok _ _ hc hD (.inr ⟨rfl, rfl⟩)) ?mB ?mF ?mX ?mN ?mT ?mhd ?mhu ?mp ?_ ?_
        (case mB => k_asm); (case mF => k_asm); (case mX => k_asm); (case mN => k_asm); (case mT => k_asm); (case mhd => first | exact room2 (by assumption) (by rfl) | exact room1 (by assumption) (by rfl) | exact room3 (by assumption) (by rfl) | exact room4 (by assumption) (by rfl) | decide); (case mhu => first | exact room2 (by assumption) (by rfl) | exact room1 (by assumption) (by rfl) | exact room3 (by assumption) (by rfl) | exact room4 (by assumption) (by rfl) | decide)
        case mp => exact ⟨hcf, hs⟩
        · intro r2 nw2 h2 tk2 hok F2 N2 hp
          k_steps
          refine hQ _ _ ?_
          k_steps
          exact post _ _ _ _ ⟨hin, hok⟩ (by assumption) (by assumption) hp
        · intro g3 e3 led3 h3 tk3 hno F3 R3 U3 hl3
          refine hE _ _ ?_
          refine leave_onG (by assumption) F3 R3 U3 rfl ?_
          intro h9 R9 U9
          exact bad _ _ _ _ _ (fun q => hno q.2) FG' R9 U9 hl3
      | k4 =>
        k_steps
        refine ⟨?_⟩
        refine' MutSpecX.use (mk_LeafNode w x c pn on kn vn page .none (.bytes b t) octs NX Ok _ _ hc hD (.inr ⟨rfl, rfl, rfl⟩)) ?mB ?mF ?mX ?mN ?mT ?mhd ?mhu ?mp ?_ ?_
        (case mB => k_asm); (case mF => k_asm); (case mX => k_asm); (case mN => k_asm); (case mT => k_asm); (case mhd => first | exact room2 (by assumption) (by rfl) | exact room1 (by assumption) (by rfl) | exact room3 (by assumption) (by rfl) | exact room4 (by assumption) (by rfl) | decide); (case mhu => first | exact room2 (by assumption) (by rfl) | exact room1 (by assumption) (by rfl) | exact room3 (by assumption) (by rfl) | exact room4 (by assumption) (by rfl) | decide)
        case mp => exact ⟨hcf, hs⟩
        · intro r2 nw2 h2 tk2 hok F2 N2 hp
          k_steps
          refine hQ _ _ ?_
          k_steps
          exact post _ _ _ _ ⟨hin, hok⟩ (by assumption) (by assumption) hp
        · intro g3 e3 led3 h3 tk3 hno F3 R3 U3 hl3
          refine hE _ _ ?_
          refine leave_onG (by assumption) F3 R3 U3 rfl ?_
          intro h9 R9 U9
          exact bad _ _ _ _ _ (fun q => hno q.2) FG' R9 U9 hl3
    · have n1 : k0 ≠ 1 := fun e => hin (by rw [e]; decide)
      have n2 : k0 ≠ 2 := fun e => hin (by rw [e]; decide)
      have n3 : k0 ≠ 3 := fun e => hin (by rw [e]; decide)
      have n4 : k0 ≠ 4 := fun e => hin (by rw [e]; decide)
      k_steps
      · exact absurd ‹k0 = 1› n1
      · exact absurd ‹k0 = 2› n2
      · exact absurd ‹k0 = 3› n3
      · exact absurd ‹k0 = 4› n4
      · refine hE _ _ ?_
        refine leave_newS (by assumption) (by assumption) (by assumption) (by assumption) ?_
        intro h9 R9 _ U9
        exact bad _ _ _ _ _ (fun q => hin q.1) FG' R9 U9 fun q hq => hq
theorem CodeSpecX.no {w : World} {f : Value} {args : Args} {cost : Nat} {Pre : Led → Prop} {Ok : Prop} {Keep : Led → Led → Prop} {Post Post' : Value → Led → Led → Prop} (S : CodeSpecX w f args cost Pre Ok Keep Post) (h : ¬ Ok) : CodeSpecX w f args cost Pre False Keep Post' :=
  fun mean mg mb A env outer A₀ base h₀ L m news s R hh hA hf hke B F X N T hdp hun pre _ k2 =>
    S mean mg mb A env outer A₀ base h₀ L m news s R hh hA hf hke B F X N T hdp hun pre (fun _ _ _ _ ok => absurd ok h) fun g e led h' tk' _ => k2 g e led h' tk' id
/-- a page that is no page of a node's is refused -/
theorem from_page_no (w : World) (x : Addr) (c : Cf) (pn on kn vn : Nat) (k0 : Int) (page : Value) (b : Array UInt8) (t : Tok) (l : List Int) (hc : Cf1 c pn on kn vn) (hk0 : 0 ≤ k0) (hk1 : k0 < 256) (hz : b.size ≤ 1000) (hb : KBw.bInts b = k0 :: l) (hno : ¬ ((1 ≤ k0 ∧ k0 ≤ 4) ∧ b.size = pn)) :
    CodeSpecX w (.ref 437) ⟨[.ref 457, .ref x, .bytes b t, page], []⟩ 80 (fun news => confIs x c.vals news ∧ serIs c.ser news) False (fun news led => ∀ q ∈ news, q ∈ led) (fun _ _ _ => True) := by
  have z : b.size ≠ 0 := by
    have := bInts_size hb
    rw [this]
    exact Nat.succ_ne_zero _
  by_cases hin : 1 ≤ k0 ∧ k0 ≤ 4
  · have hne : ¬ b.size = pn := fun e => hno ⟨hin, e⟩
    have key : ∀ {C ec : Addr} {mn mx : Int} {el : Nat}, KindOf c k0 C ec mn mx → EntsOf kn vn [] ec el → CodeSpecX w (.ref 437) ⟨[.ref 457, .ref x, .bytes b t, page], []⟩ 80 (fun news => confIs x c.vals news ∧ serIs c.ser news) False (fun news led => ∀ q ∈ news, q ∈ led) (fun _ _ _ => True) := fun {C ec mn mx el} hK He =>
      (from_page w x C ec c pn on kn vn k0 mn mx page [] _ _ b t l hc hk0 hk1 hz (fun _ => hK) (fun _ => .oct (kd := 0) (nxt := 0) (pad := []) z hz (fun e => absurd e hne) He) hb).no fun q => hne q.2
    rcases four hin.1 hin.2 with rfl | rfl | rfl | rfl
    · exact key .k1 (.rcs fun _ h => nomatch h)
    · exact key .k2 (.rfs fun _ h => nomatch h)
    · exact key .k3 (.rfs fun _ h => nomatch h)
    · exact key .k4 (.rcs fun _ h => nomatch h)
  · exact (from_page w x 0 0 c pn on kn vn k0 0 0 page [] (fun _ => True) True b t l hc hk0 hk1 hz (fun q => absurd q hin) (fun q => absurd q hin) hb).no fun q => hin q.1
end Mine
end

section
open PySem PySem.W PyProof.Rows
/-- between two texts: the walk forgets the lines of the text before, as a fresh process has none -/
theorem Mine.calm142 : ∀ (prog : Program) (w : World) (A : Around) (env : Env) (E : Value → Shared → Prop) (s : Shared) (Q : Flow → Shared → Prop), Q .next s → wpAny (model prog w) A (execs [] env) Q E s := by
  w_top off
  intro prog w A env E s Q h
  walk1
  exact h
end

section
open PySem PySem.W PyProof.Rows PySem.Calls
set_option Elab.async false
set_option linter.unusedSimpArgs false
set_option maxRecDepth 100000
set_option maxHeartbeats 4000000
namespace Mine
/-- a list of ints in the ledger, not too long -/
inductive LI (nw : Led) (D : Addr) (ks : List Int) (N : Nat) : Prop
  | mk (us : List Value) (n : Nat) (h : (D, lst us n) ∈ nw) (hi : IntsAre us ks) (hl : ks.length ≤ N)
theorem LI.up {a b : Led} {D : Addr} {ks : List Int} {N : Nat} (h : LI a D ks N) (s : ∀ q ∈ a, q ∈ b) : LI b D ks N := by
  cases h with
  | mk us n h hi hl => exact .mk us n (s _ h) hi hl
theorem LI.le {a : Led} {D : Addr} {ks : List Int} {N M : Nat} (h : LI a D ks N) (s : N ≤ M) : LI a D ks M := by
  cases h with
  | mk us n h hi hl => exact .mk us n h hi (Nat.le_trans hl s)
theorem LI.len {a : Led} {D : Addr} {ks : List Int} {N : Nat} (h : LI a D ks N) : ks.length ≤ N := by
  cases h with
  | mk us n h hi hl => exact hl
/-- a list of ints was made -/
inductive LiTo (ks : List Int) (N : Nat) (news : Led) : Value → Led → Prop
  | mk {nw : Led} (D : Addr) (hL : LI nw D ks N) (kp : ∀ q ∈ news, q ∈ nw) (ne : ∀ q ∈ news, q.1 ≠ D) : LiTo ks N news (.ref D) nw
theorem MutSpec.useL {w : World} {t : Sem Value} {cost M : Nat} {Pre : Led → Prop} {xs : List Int} (S : MutSpec w t cost Pre (fun r news news' => LiTo xs M news r news'))
    {mean : ExcName → Option Value} {mg mb : Str → Option Value} {dp un : Nat} {gd : Option (List Code)} {cn : Str} {nms : List (Str × NameKind)} {ig ic : Bool} {mo : List (Str × Const)} {a : Addr} {ccd : Value} {cl : List (Str × Addr)} {outer : List Env} {A₀ : Around} {base h₀ : Heap} {L : Addr}
    {m : Str → Option Value} {news : Led} {s : Shared} {hs : Heap} {ks : Nat} {Q E : Value → Shared → Prop}
    (B : Below A₀ base outer h₀) (F : Fr h₀ L hs m) (X : (hd.heap_1 w.params).In h₀) (N : News h₀ L hs news) (T : Top vw lsw mean mg mb h₀) (hd : dp + cost < 400) (hu : un + 8 * cost < 5000) (pre : Pre news)
    (k : ∀ D news' h' tk', Fr h₀ L h' m → News h₀ L h' news' → LI news' D xs M → (∀ q ∈ news, q ∈ news') → (∀ q ∈ news, q.1 ≠ D) → Q (.ref D) { s with heap := h', toks := tk' }) :
    wpAny (model PySem.Challenge.rw_ke0002_01.row.prog w) (ktrTop dp un gd cn ⟨.function, nms, ig, ic, mo⟩ L a ccd cl outer) t Q E { s with heap := hs, toks := ks } :=
  S.use B F X N T hd hu pre fun _ nw h' tk' F' N' p => by
    cases p with
    | mk D hL kp ne => exact k D nw h' tk' F' N' hL kp ne
/-- _law_low -/
theorem lawlowL (w : World) (n : Int) (k : Nat) (kz : Int) (t u : Tok) (hk : k ≤ 8) (hz : kz = (k : Nat)) :
    MutSpec w (call (.ref 683) [.int n t, .int kz u]) 12 (fun _ => True) (fun r news news' => LiTo (low n k) k news r news') := by
  subst hz
  intro mean mg mb dp un gd cn nms ig ic mo a ccd cl outer A₀ base h₀ L m news s Q E B F X N T hdp hun pre0 post
  refine lawlow w n k t u hk mean mg mb dp un gd cn nms ig ic mo a ccd cl outer A₀ base h₀ L m news s Q E B F X N T hdp hun trivial fun r nw h' tk' F' N' p => ?_
  obtain ⟨D, us, rfl, hm, hi, kp, ne⟩ := p
  exact post _ _ _ _ F' N' (.mk D (.mk us _ hm hi (Nat.le_of_eq (low_len n k))) kp ne)
theorem bInts_inj {a b : Array UInt8} (h : KBw.bInts a = KBw.bInts b) : a = b := by
  unfold KBw.bInts at h
  have : a.toList = b.toList := (List.map_inj_right (fun x y e => UInt8.toNat.inj (Int.ofNat.inj e))).mp h
  exact Array.toList_inj.mp this
section
variable {p : Program} {w : World} {A : Around} {E : Value → Shared → Prop} {s : Shared} {h₀ : Heap} {L l b : Addr} {m : Str → Option Value} {news : Led} {ks ls : List Int} {n q : Nat} {Q : Value → Shared → Prop}
theorem cat_S (F : Fr h₀ L s.heap m) (N : News h₀ L s.heap news) (h1 : LI news l ks n) (h2 : LI news b ls q) (hz : n + q < 2000)
    (k : ∀ B h' nw, Fr h₀ L h' m → News h₀ L h' nw → LI nw B (ks ++ ls) (n + q) → (∀ q ∈ news, q ∈ nw) → (∀ q ∈ news, q.1 < B) → Q (.ref B) { s with heap := h' }) : wpAny (model p w) A (binaryOp .Add (.ref l) (.ref b)) Q E s := by
  cases h1 with
  | mk us n1 m1 i1 l1 =>
  cases h2 with
  | mk vs n2 m2 i2 l2 =>
  have e : ks.length + ls.length ≤ n + q := Nat.add_le_add l1 l2
  refine cat_lists F N m1 m2 (by rw [i1.length, i2.length]; exact Nat.lt_of_le_of_lt e hz) fun B h' F' N' lt => ?_
  exact k B h' _ F' N' (.mk _ _ (.head _) (i1.append i2) (by rw [List.length_append]; exact e)) (fun q hq => .tail _ hq) lt
theorem len_S (N : News h₀ L s.heap news) (h : LI news l ks n) (hz : n ≤ 2000) (k : ∀ t k, Q (.int (ks.length : Nat) t) { s with toks := k }) : wpAny (model p w) A (call (.builtin "len") [.ref l]) Q E s := by
  cases h with
  | mk us n1 m1 i1 l1 => exact KM.len_K (n := ks.length) N m1 (by rw [List.size_toArray]; exact i1.length) (Nat.lt_of_le_of_lt (Nat.le_trans l1 hz) (by decide)) (k _ _)
/-- [0] * k -/
theorem zeros_L {i : Int} {j J n1 : Nat} {t u : Tok} (F : Fr h₀ L s.heap m) (N : News h₀ L s.heap news) (h : (l, lst [.int 0 t] n1) ∈ news) (hi : i = j) (hj : j ≤ J) (hJ : J ≤ 256)
    (k : ∀ B h' nw, Fr h₀ L h' m → News h₀ L h' nw → LI nw B (List.replicate j 0) J → (∀ q ∈ news, q ∈ nw) → (∀ q ∈ news, q.1 < B) → Q (.ref B) { s with heap := h' }) : wpAny (model p w) A (binaryOp .Mult (.ref l) (.int i u)) Q E s := by
  subst hi
  have hj' := Nat.le_trans hj hJ
  refine KMa.mul (vs := [_]) F N (News.isList N h) (by omega) (by omega) (by rw [Int.toNat_natCast, List.length_singleton, Nat.one_mul]; exact hj') rfl fun B h' F' N' lt => ?_
  refine k B h' _ F' N' (.mk _ _ (.head _) ?_ (by rw [List.length_replicate]; exact hj)) (fun q hq => .tail _ hq) lt
  rw [Int.toNat_natCast, ← List.flatten_replicate_singleton (n := j) (a := (0 : Int))]
  exact KM.ints_rep (.cons _ _ .nil) _
/-- bytes(list) -/
theorem make_L (F : Fr h₀ L s.heap m) (N : News h₀ L s.heap news) (hh : A.handled = none) (h : LI news l ks n) (hin : KBa.In ks) (hz : n ≤ 16777216)
    (k : ∀ b h' t k', KBw.bInts b = ks → Fr h₀ L h' m → News h₀ L h' news → Q (.bytes b t) { s with heap := h', toks := k' }) : wpAny (model p w) A (call (.type "bytes") [.ref l]) Q E s := by
  cases h with
  | mk us n1 m1 i1 l1 => exact KBa.make_K F N hh (News.isList N m1) i1 hin (Nat.le_trans l1 hz) fun h' t k' F' N' _ => k _ h' t k' (KBa.ints_make hin) F' N'
theorem make_S {c : Array UInt8} (F : Fr h₀ L s.heap m) (N : News h₀ L s.heap news) (hh : A.handled = none) (h : LI news l ks n) (hb : KBw.bInts c = ks) (hz : n ≤ 16777216)
    (k : ∀ h' t k', Fr h₀ L h' m → News h₀ L h' news → Q (.bytes c t) { s with heap := h', toks := k' }) : wpAny (model p w) A (call (.type "bytes") [.ref l]) Q E s :=
  make_L F N hh h (fun _ he => KBw.ints_in (b := c) (hb.symm ▸ he)) hz fun b h' t k' e F' N' => by
    rw [bInts_inj (e.trans hb.symm)]
    exact k h' t k' F' N'
end
end Mine
end

section
open PySem PySem.W PyProof.Rows
/-- between two texts: the walk forgets the lines of the text before, as a fresh process has none -/
theorem Mine.calm144 : ∀ (prog : Program) (w : World) (A : Around) (env : Env) (E : Value → Shared → Prop) (s : Shared) (Q : Flow → Shared → Prop), Q .next s → wpAny (model prog w) A (execs [] env) Q E s := by
  w_top off
  intro prog w A env E s Q h
  walk1
  exact h
end

section
open PySem PySem.W PyProof.Rows PySem.Calls
set_option Elab.async false
set_option linter.unusedSimpArgs false
set_option maxRecDepth 100000
set_option maxHeartbeats 4000000
namespace Mine
local macro_rules | `(tactic| walk_at "MINE spec") => `(tactic| ((case mB | mF | mX | mN | mT => k_asm); (case mhd | mhu => k_units)))
local macro_rules | `(tactic| walk_at "getAttr ref") => `(tactic| (k_here; k_dflt (refine' (conf_one ?h).use0 ?mB ?mF ?mX ?mN ?mT ?mhd ?mhu ?mp ?_; (case h => with_reducible constructor); (walk_at "MINE spec"); (case mp => exact ⟨_, by k_mem, by k_mem⟩); intro h' tk' F' N'; (try k_sweep))))
local macro_rules | `(tactic| k_is) => `(tactic| (rename OneOf _ _ => q9; first | (clear q9; k_is) | (with_reducible first | apply q9.find4 | apply q9.over4 | apply q9.taker4 | apply q9.dict4 | apply q9.plain4 | apply q9.find2 | apply q9.over2 | apply q9.taker2 | apply q9.dict2 | apply q9.plain2 | apply q9.mro2) <;> k_is))
local macro_rules | `(tactic| walk_at "call ref") => `(tactic| refine' Held.out ?_)
local macro_rules | `(tactic| walk_at "call builtin:len") => `(tactic| refine' Held.out ?_)
local macro_rules | `(tactic| walk_at "call type:bytes") => `(tactic| refine' Held.out ?_)
theorem holdT {p : Program} {w : World} {A : Around} {n : Str} {ps : Pos} {f : Expr} {g v : Value} {Q E : Value → Shared → Prop} {s : Shared} (_ : (n != "_") = true) (h : Held (wpAny (model p w) A (subscriptTail (.Name n ps) f g v) Q E s)) : wpAny (model p w) A (subscriptTail (.Name n ps) f g v) Q E s := h.out
local macro_rules | `(tactic| walk_at "subscriptTail") => `(tactic| (with_reducible refine' holdT ?h ?_; (case h => decide)))
local macro_rules | `(tactic| walk_at "truthy ref") => `(tactic| refine' Held.out ?_)
local macro_rules | `(tactic| walk_at "eval ListComp") => `(tactic| refine' Held.out ?_)
local macro_rules | `(tactic| walk_at "compareOp NotEq ref ref") => `(tactic| refine' Held.out ?_)
local macro_rules | `(tactic| walk_at "compareOp Eq ref ref") => `(tactic| refine' Held.out ?_)
local macro_rules | `(tactic| walk_at "MINE held") => `(tactic| refine' Held.out ?_)
local macro_rules | `(tactic| walk_at "getAttr ref") => `(tactic| (refine' holdP ?h ?_; (case h => with_reducible constructor)))
theorem KindOf.kinds {c : Cf} {kd mn mx : Int} {C ec : Addr} (h : KindOf c kd C ec mn mx) : (C, kd) ∈ kinds := by cases h <;> decide
theorem KindOf.cls {c : Cf} {kd mn mx : Int} {C ec : Addr} (h : KindOf c kd C ec mn mx) {rec : Bool} (k : KindB rec kd) : ClsB C rec := by
  cases h <;> cases k
  · exact .t (.head _)
  · exact .f (.head _)
  · exact .f (.tail _ (.head _))
  · exact .t (.tail _ (.head _))
theorem KindOf.bounds {c : Cf} {kd mn mx : Int} {C ec : Addr} {pn on kn vn : Nat} (h : KindOf c kd C ec mn mx) (hc : Cf1 c pn on kn vn) : least on kd = mn ∧ most on kd = mx ∧ (kd = 1 ∨ kd = 2 ∨ kd = 3 ∨ kd = 4) := by
  have ho := hc.od
  have e : (c.od + 1).fdiv 2 = ((on + 1) / 2 : Nat) := by
    rw [ho, Int.fdiv_eq_ediv_of_nonneg _ (by decide)]
    push_cast
    rfl
  cases h with
  | k1 => exact ⟨rfl, by rw [ho]; rfl, .inl rfl⟩
  | k2 => exact ⟨rfl, by rw [ho]; rfl, .inr (.inl rfl)⟩
  | k3 => exact ⟨by rw [e]; rfl, by rw [ho]; rfl, .inr (.inr (.inl rfl))⟩
  | k4 => exact ⟨by rw [e]; rfl, by rw [ho]; rfl, .inr (.inr (.inr rfl))⟩
theorem Row.fit.isRec {rec : Bool} {kn vn : Nat} {r : Row} (h : r.fit rec kn vn) : r.isRec = rec := by
  cases r with
  | rf k b a => exact h.1.symm
  | rc k v o => exact h.1.symm
/-- two plain tuples of one row have one content -/
theorem plain_same {a b news : Led} {x z : Value} {r : Row} (p : PlainIs a x r) (q : PlainIs b z r) (ha : ∀ q ∈ a, q ∈ news) (hb : ∀ q ∈ b, q ∈ news) : SameN news 1 x z := by
  have three : ∀ {x1 x2 x3 y1 y2 y3 : Value}, Same0 x1 y1 → Same0 x2 y2 → Same0 x3 y3 → ∀ (i : Nat) (u v : Value), ([x1, x2, x3] : List Value)[i]? = some u → ([y1, y2, y3] : List Value)[i]? = some v → SameN news 0 u v := fun s1 s2 s3 i u v e f => by
    unfold SameN
    match i with
    | 0 => cases e; cases f; exact s1
    | 1 => cases e; cases f; exact s2
    | 2 => cases e; cases f; exact s3
    | i + 3 => simp at e
  have num : ∀ {k : Int} {t t' : Tok}, Same0 (.int k t) (.int k t') := fun {k t t'} => .inr (.inl ⟨k, t, t', rfl, rfl⟩)
  unfold SameN
  cases p with
  | rf h => cases q with
    | rf h' => exact .inr ⟨_, _, _, _, 0, 0, "tuple", rfl, rfl, .inl rfl, ha _ h, hb _ h', rfl, three num num num⟩
  | rv h hi => cases q with
    | rv h' hi' => exact .inr ⟨_, _, _, _, 0, 0, "tuple", rfl, rfl, .inl rfl, ha _ h, hb _ h', rfl, three num (.inr (.inr ⟨_, _, _, rfl, by rw [bInts_inj (hi.trans hi'.symm)]⟩)) (.inl rfl)⟩
    | ro h' ho => exact absurd rfl ho
  | ro h ho => cases q with
    | rv h' hi => exact absurd rfl ho
    | ro h' ho' => exact .inr ⟨_, _, _, _, 0, 0, "tuple", rfl, rfl, .inl rfl, ha _ h, hb _ h', rfl, three num (.inl rfl) num⟩
theorem plains_same {a b news : Led} {us ys : List Value} {rs : List Row} (p : All2 (PlainIs a) us rs) (q : All2 (PlainIs b) ys rs) (ha : ∀ x ∈ a, x ∈ news) (hb : ∀ x ∈ b, x ∈ news) :
    us.length = ys.length ∧ ∀ (i : Nat) x y, us[i]? = some x → ys[i]? = some y → SameN news 1 x y := by
  refine ⟨p.len.trans q.len.symm, fun i x y e f => ?_⟩
  obtain ⟨r, hr, h1⟩ := p.get e
  obtain ⟨r', hr', h2⟩ := q.get f
  rw [hr] at hr'
  cases hr'
  exact plain_same h1 h2 ha hb
theorem bne_no {b : Bool} {G : Prop} (h : (b != b) = true) : G := by cases b <;> exact absurd h Bool.noConfusion
theorem key_of {D : Addr} {news : Led} {us : List Value} {rows : List Row} {i : Nat} {v : Value} (q : All2 (RowIs D news) us rows) (hv : us[i]? = some v) :
    ∃ r, rows[i]? = some r ∧ ∃ T, v = .ref T ∧ ∃ t b c, (T, ({ cls := .type "tuple", data := .seq #[.int r.key t, b, c] } : Obj)) ∈ news := by
  obtain ⟨r, e, h⟩ := q.get hv
  cases h with
  | rf h => exact ⟨_, e, _, rfl, _, _, _, h⟩
  | rc h hl hi hD => exact ⟨_, e, _, rfl, _, _, _, h⟩
theorem nodeIs.sub9 {w : World} {C y le x : Addr} {nt mn mx : Value} {ec : Addr} {page par nx : Value} {news news' : Led} (h : nodeIs w C y le x nt mn mx ec page par nx news) (k : ∀ q ∈ news, q ∈ news') : nodeIs w C y le x nt mn mx ec page par nx news' := by
  obtain ⟨dy, u1, u2, u3, u4, u5, u6, u7, u8, u9, n, h1, h2⟩ := h
  exact ⟨dy, u1, u2, u3, u4, u5, u6, u7, u8, u9, n, k _ h1, k _ h2⟩
theorem two_same {news : Led} {a b : Int} {t1 t2 t3 t4 : Tok} : ∀ (i : Nat) (u v : Value), ([.int a t1, .int b t2] : List Value)[i]? = some u → ([.int a t3, .int b t4] : List Value)[i]? = some v → SameN news 0 u v := fun i u v e f => by
  unfold SameN
  match i with
  | 0 => cases e; cases f; exact .inr (.inl ⟨_, _, _, rfl, rfl⟩)
  | 1 => cases e; cases f; exact .inr (.inl ⟨_, _, _, rfl, rfl⟩)
  | i + 2 => simp at e
theorem plain_of {D : Addr} {news : Led} {kn vn : Nat} : ∀ {us : List Value} {rows : List Row}, All2 (RowIs D news) us rows → (∀ r ∈ rows, Row.fit false kn vn r) → All2 (PlainIs news) us rows
  | [], [], _, _ => trivial
  | _ :: _, _ :: _, h, hf => ⟨by
      have h1 := h.1
      have f1 := hf _ (.head _)
      cases h1 with
      | rf h9 => exact .rf h9
      | rc h hl hv hD => exact absurd f1.1 Bool.noConfusion, plain_of h.2 fun r hr => hf r (.tail _ hr)⟩
/-- a node of the law's: its kind, page, next page and entries -/
structure NodeOk (w : World) (C y le x : Addr) (c : Cf) (kd mn mx page ahead : Int) (ec : Addr) (rows : List Row) (news : Led) : Prop where
  node : ∃ t1 t2 t3 t4 par nx, ((ahead = 0 ∧ nx = .none) ∨ (ahead ≠ 0 ∧ ∃ t, nx = .int ahead t)) ∧ nodeIs w C y le x (.int kd t1) (.int mn t2) (.int mx t3) ec (.int page t4) par nx news
  ents : ∃ vs nn, (le, lst vs nn) ∈ news ∧ EntRs w x news vs rows
theorem some_first {α : Type} {l : List α} (h : 0 < l.length) : ∃ v, l[0]? = some v := ⟨_, List.getElem?_eq_getElem h⟩
theorem some_last {α : Type} {l : List α} (h : 0 < l.length) : ∃ v, l[l.length - 1]? = some v := ⟨_, List.getElem?_eq_getElem (Nat.sub_lt h (Nat.succ_pos 0))⟩
theorem lawsame (w : World) (C y le x D : Addr) (c : Cf) (pn on kn vn : Nat) (rec : Bool) (kd mn mx page ahead : Int) (t1 t2 t3 : Tok) (ec : Addr) (us : List Value) (n : Nat) (rows : List Row) (hc : Cf1 c pn on kn vn) (hK : KindOf c kd C ec mn mx) (hkd : KindB rec kd) (hr : ∀ r ∈ rows, Row.fit rec kn vn r) (hz : rows.length ≤ 8) :
    MutSpec w (call (.ref 733) [.ref y, .ref x, .int kd t1, .ref D, .int page t2, .int ahead t3]) 30
    (fun news => confIs x c.vals news ∧ NodeOk w C y le x c kd mn mx page ahead ec rows news ∧ (D, lst us n) ∈ news ∧ All2 (RowIs le news) us rows)
    (fun r news news' => r = Value.bool true ∧ ∀ q ∈ news, q ∈ news') := by
  unfold MutSpec
  k_fill
  intro mean mg mb dp un gd cn nms ig ic mo a ccd cl outer A₀ base h₀ L m news s Q E B F X N T hdp hun pre0 post
  obtain ⟨⟨dc, hc1, hc2⟩, ⟨⟨k1, k2', k3, k4, par, nx, hnx, hnode⟩, vs, nn, hle, hents⟩, hD, hrows⟩ := pre0
  have hC := (hK.cls hkd).any
  refine nodeIs.elim hnode ?_
  intro dy u1 u2 u3 u4 u5 u6 u7 u8 u9 n9 hm hm'
  have hvl := hents.len
  have hv8 : vs.length ≤ 8 := by rw [hvl]; exact hz
  have hu8 : us.length ≤ 8 := by rw [hrows.len]; exact hz
  refine wpAny_call ?_
  k_dflt (refine' code_own ?k1 ?k2 ?k3 ?k4 ?k5 ?kA ?kF ?kK ?k6 ?k7 ?k8 ?k9 ?kB ?_ ?c5 ?c2 ?c3 ?c4; (case kA => exact rfl); (case kF => exact rfl); (case kK => exact rfl); (case k2 => k_asm); (case k1 => k_asm); (case k3 => k_asm); (case k4 => k_asm); (case k5 => k_asm); (case k6 => k_is); (case k7 => k_is); (case k8 => k_room); (case k9 => first | exact binds_K (by k_in) rfl (by k_is) rfl rfl rfl | exact BindsTo.of_eq rfl); (case kB => exact locs rfl); (case c5 => decide); (case c2 => exact rfl); (case c3 => exact rfl); (case c4 => exact rfl); k_whole; intro g' L' h' FG' F' N' B' X' T' Qb hQ; (try dsimp only); (try k_lift B'); (try k_fold))
  refine letA ?_
  intro A1
  refine letE ?_
  intro e1
  refine wpAny_execs_cons (wpAny_If ?_)
  refine cutG (fun X => ∀ h tk m, (Fr g' L' h m) → (News g' L' h news) → (m "node" = some (.ref y)) → (m "conf" = some (.ref x)) → (m "kind" = some (.int kd t1)) → (m "rows" = some (.ref D)) → X false h tk) ?t1 ?rest1
  case t1 =>
    intro Qb hQ
    k_steps
    refine ⟨?_⟩
    refine' TreeSpec.useI (lawkind w C y le x _ _ _ ec _ par nx kd hK.kinds) ?mB ?mF ?mX ?mN ?mT ?mhd ?mhu ?mp ?_
    (case mB => k_asm); (case mF => k_asm); (case mX => k_asm); (case mN => k_asm); (case mT => k_asm); (case mhd => first | exact room2 (by assumption) (by rfl) | exact room1 (by assumption) (by rfl) | exact room3 (by assumption) (by rfl) | exact room4 (by assumption) (by rfl) | decide); (case mhu => first | exact room2 (by assumption) (by rfl) | exact room1 (by assumption) (by rfl) | exact room3 (by assumption) (by rfl) | exact room4 (by assumption) (by rfl) | decide)
    case mp => exact hnode
    intro t5 h1 tk1 F1 N1
    rcases hnx with ⟨rfl, rfl⟩ | ⟨ha, t9, rfl⟩
    · k_steps
      · exact absurd rfl ‹kd ≠ kd›
      · exact absurd rfl ‹page ≠ page›
      · exact hQ _ _ _ (by assumption) (by assumption) rfl rfl rfl rfl
    · k_steps
      · exact absurd rfl ‹kd ≠ kd›
      · exact absurd rfl ‹page ≠ page›
      · exact absurd rfl ‹ahead ≠ ahead›
      · exact hQ _ _ _ (by assumption) (by assumption) rfl rfl rfl rfl
      · exact absurd ‹ahead = 0› ha
  case rest1 =>
    clear F' N'
    intro h tk m1 F1 N1 b1 b2 b3 b4
    refine (if_neg Bool.false_ne_true).mpr ?_
    refine wpAny_execs_nil ?_
    dsimp only
    refine cutn (fun X => ∀ h tk m nw P ups np tc, (Fr g' L' h m) → (News g' L' h nw) → (∀ q ∈ news, q ∈ nw) → ((P, lst ups np) ∈ nw) → (All2 (PlainIs nw) ups rows) → (m "plain" = some (.ref P)) → (m "count" = some (.int (numOf rec rows.length) tc)) → (m "node" = some (.ref y)) → (m "conf" = some (.ref x)) → (m "kind" = some (.int kd t1)) → (m "rows" = some (.ref D)) → X h tk) (l1 := [_]) (l2 := _) rfl ?plain ?rest2
    case plain =>
      intro Qb hQ
      refine wpAny_execs_cons (wpAny_If ?_)
      refine cutG (fun X => ∀ tk, X rec h tk) ?t2 ?b2
      case t2 =>
        intro Qt hQt
        cases hkd <;> (k_steps; exact hQt _)
      case b2 =>
        intro tk
        have hul := hrows.len
        cases rec with
        | false =>
          refine (if_neg Bool.false_ne_true).mpr ?_
          have hpl := plain_of hrows hr
          k_steps
          refine ⟨?_⟩
          rename News _ _ _ _ => N5
          refine kgr_truthy N5 hD rfl rfl (by first | assumption | exact Nat.lt_of_le_of_lt (by assumption) (by decide) | exact Nat.le_trans (by assumption) (by decide) | omega) ?_
          by_cases h0 : us = []
          · rw [if_neg (by rw [h0]; decide)]
            have e : numOf false rows.length = 0 := by rw [← hul, h0]; rfl
            rw [e] at hQ
            k_steps
            exact hQ _ _ _ _ D us _ _ (by assumption) (by assumption) (fun r hr => hr) hD hpl rfl rfl (by exact b1) (by exact b2) (by exact b3) (by exact b4)
          · have h1 : rows.length ≠ 0 := fun e => h0 (List.length_eq_zero_iff.mp (hul.trans e))
            rw [if_pos (by cases us; exact absurd rfl h0; rfl)]
            have e : numOf false rows.length = (rows.length : Nat) + 1 := by
              unfold numOf
              rw [if_neg Bool.false_ne_true, if_neg h1]
            rw [e] at hQ
            k_steps
            refine ⟨?_⟩
            rename News _ _ _ _ => N6
            refine KM.len_K (n := rows.length) N6 hD (by rw [List.size_toArray]; exact hul) (by first | assumption | exact Nat.lt_of_le_of_lt (by assumption) (by decide) | exact Nat.le_trans (by assumption) (by decide) | omega) ?_
            dsimp only
            k_steps
            exact hQ _ _ _ _ D us _ _ (by assumption) (by assumption) (fun r hr => hr) hD hpl rfl rfl (by exact b1) (by exact b2) (by exact b3) (by exact b4)
        | true =>
          refine (if_pos rfl).mpr ?_
          refine wpAny_execs_cons (comp_three (n := n) (vs := us) (l := D) (news := news) (h₀ := g') (L := L') (m := m1) (fun i ys nw => (∀ q ∈ news, q ∈ nw) ∧ All2 (PlainIs nw) ys (rows.take i)) (fun i a b c nw => ∃ r, rows[i]? = some r ∧ TripIs le nw a b c r) (by rfl) rfl (by rfl) (by rfl) rfl (by rfl) (by decide) (by rfl) (by decide) (by rfl) (by rfl) (by rfl) (by decide) (by decide) (by decide) (by rw [hul, sizeLine_eq]; omega) ?hit ?hl ?h0 ?htup ?turn ?done)
          case hit =>
            k_dflt (refine ld F1 b4 ?_)
            exact ⟨_, _, rfl, rfl, F1, N1⟩
          case hl => exact fun i ys nw q => q.1 _ hD
          case h0 => exact ⟨fun _ h => h, trivial⟩
          case htup => exact fun i ys nw v q hv => RowIs.trip (hrows.imp fun _ _ h => h.sub q.1) hv
          case turn =>
            intro i va vb vd ys nw I oI C0 oC D0 m₂ h5 tk5 E' hi W q hC x1 x2 x3 F5 N5 off ne
            obtain ⟨r, hri, htr⟩ := W
            obtain ⟨qk0, qv0⟩ := q
            have hfit := hr r (List.mem_of_getElem? hri)
            cases htr with
            | rf => exact absurd hfit.1 Bool.noConfusion
            | rc hl hv hD =>
            rename_i ka l o t8 t9 us3 v3 n3
            obtain ⟨_, hk9, hvl, hin, ho9⟩ := hfit
            have fin : ∀ {p : Addr × Obj}, PlainIs (p :: nw) (.ref p.1) (.rc _ v3 o) → (∀ q ∈ news, q ∈ p :: nw) ∧ All2 (PlainIs (p :: nw)) (ys ++ [.ref p.1]) (rows.take (i + 1)) := fun hp => by
              rw [List.take_add_one, hri]
              exact ⟨fun q hq => .tail _ (qk0 q hq), All2.append (qv0.imp fun _ _ h => h.sub fun q hq => .tail _ hq) ⟨hp, trivial⟩⟩
            k_steps
            · rename _ ∧ _ ∧ _ ∧ AllLt _ _ => l9
              rename News _ _ _ _ => N9
              exact trip_end1 (by assumption) N9 off l9 (fin (.ro (.head _) (by assumption)))
            · exact absurd ‹o = 0› ‹o ≠ 0›
            · refine ⟨?_⟩
              refine KBa.make_K (by assumption) (by assumption) rfl (News.isList (by assumption) (.tail _ (.tail _ (.tail _ hl)))) hv hin (by have := hc.v2; omega) ?_
              intro h8 t8 k8 F8 N8 _
              dsimp only
              k_steps
              · exact absurd ‹o = 0› ‹o ≠ 0›
              · rename _ ∧ _ ∧ _ ∧ AllLt _ _ => l9
                rename News _ _ _ _ => N9
                have e0 : o = 0 := by assumption
                subst e0
                exact trip_end1 (by assumption) N9 off l9 (fin (.rv (.head _) (KBa.ints_make hin)))
          case done =>
            intro ys nw D0 h5 tk5 q F5 N5 off
            k_steps
            refine ⟨?_⟩
            rename News _ _ _ _ => N6
            refine KM.len_K (n := rows.length) N6 (.tail _ (q.1 _ hD)) (by rw [List.size_toArray]; exact hul) (by first | assumption | exact Nat.lt_of_le_of_lt (by assumption) (by decide) | exact Nat.le_trans (by assumption) (by decide) | omega) ?_
            dsimp only
            k_steps
            rw [hul, List.take_length] at q
            exact hQ _ _ _ _ D0 ys _ _ (by assumption) (by assumption) (fun r hr => .tail _ (q.1 r hr)) (.head _) (q.2.imp fun _ _ h => h.sub fun r hr => .tail _ hr) rfl rfl (by exact b1) (by exact b2) (by exact b3) (by exact b4)
    case rest2 =>
      clear F1
      intro h tk m2 nw P ups np tc F2 N2 kp hP hpl c1 c2 c3 c4 c5 c6
      have hc1' := kp _ hc1
      have hc2' := kp _ hc2
      obtain ⟨hmn, hmx, hkd4⟩ := hK.bounds hc
      refine cutn (fun X => ∀ h tk m nw2 tl tm, (Fr g' L' h m) → (News g' L' h nw2) → (∀ q ∈ nw, q ∈ nw2) → (m "least" = some (.int mn tl)) → (m "most" = some (.int mx tm)) → (m "plain" = some (.ref P)) → (m "count" = some (.int (numOf rec rows.length) tc)) → (m "node" = some (.ref y)) → (m "kind" = some (.int kd t1)) → (m "rows" = some (.ref D)) → X h tk) (l1 := [_]) (l2 := _) rfl ?bounds ?rest3
      case bounds =>
        intro Qb hQ
        k_steps
        refine ⟨?_⟩
        rw [hc.od]
        refine' TreeSpec.use (lawbounds w on kd _ _ hc.o2 hkd4) ?mB ?mF ?mX ?mN ?mT ?mhd ?mhu ?mp ?_
        (case mB => k_asm); (case mF => k_asm); (case mX => k_asm); (case mN => k_asm); (case mT => k_asm); (case mhd => first | exact room2 (by assumption) (by rfl) | exact room1 (by assumption) (by rfl) | exact room3 (by assumption) (by rfl) | exact room4 (by assumption) (by rfl) | decide); (case mhu => first | exact room2 (by assumption) (by rfl) | exact room1 (by assumption) (by rfl) | exact room3 (by assumption) (by rfl) | exact room4 (by assumption) (by rfl) | decide)
        case mp => trivial
        intro r1 tl1 h3 tk3 F3 N3 ap3 hp3
        obtain ⟨Db, s1, s2, rfl, hDb⟩ := hp3
        rw [hmn, hmx] at hDb
        have hDb' := List.mem_append_left nw hDb
        k_steps
        exact hQ _ _ _ _ _ _ (by assumption) (by assumption) (fun q hq => List.mem_append_right _ hq) (by exact rfl) (by exact rfl) (by exact c1) (by exact c2) (by exact c3) (by exact c5) (by exact c6)
      case rest3 =>
        clear F2
        intro h tk m3 nw2 tl tm F3 N3 k2 d1 d2 d3 d4 d5 d6 d7
        have up : ∀ q ∈ news, q ∈ nw2 := fun q hq => k2 q (kp q hq)
        have hm2 := up _ hm
        have hm2' := up _ hm'
        have hC9 := hK.cls hkd
        refine wpAny_execs_cons (wpAny_If ?_)
        refine cutG (fun X => ∀ h tk m nw3, (Fr g' L' h m) → (News g' L' h nw3) → (∀ q ∈ nw2, q ∈ nw3) → (m "least" = some (.int mn tl)) → (m "most" = some (.int mx tm)) → (m "plain" = some (.ref P)) → (m "count" = some (.int (numOf rec rows.length) tc)) → (m "node" = some (.ref y)) → (m "kind" = some (.int kd t1)) → (m "rows" = some (.ref D)) → X false h tk) ?t4 ?rest4
        case t4 =>
          intro Qt hQt
          k_steps
          refine ⟨?_⟩
          refine' TreeSpec.use (lawtold w le x rec kd t1 vs nn rows hkd (fun r h => (hr r h).isRec) hz) ?mB ?mF ?mX ?mN ?mT ?mhd ?mhu ?mp ?_
          (case mB => k_asm); (case mF => k_asm); (case mX => k_asm); (case mN => k_asm); (case mT => k_asm); (case mhd => first | exact room2 (by assumption) (by rfl) | exact room1 (by assumption) (by rfl) | exact room3 (by assumption) (by rfl) | exact room4 (by assumption) (by rfl) | decide); (case mhu => first | exact room2 (by assumption) (by rfl) | exact room1 (by assumption) (by rfl) | exact room3 (by assumption) (by rfl) | exact room4 (by assumption) (by rfl) | decide)
          case mp => exact ⟨up _ hle, hents.imp fun _ _ ⟨a, e, h⟩ => ⟨a, e, h.sub fun q hq _ => up q hq⟩⟩
          intro r1 tl1 h4 tk4 F4 N4 ap4 hp4
          obtain ⟨T, ut, rfl, hT, hpt⟩ := hp4
          k_steps
          refine ⟨?_⟩
          obtain ⟨l5, s5⟩ := plains_same (news := tl1 ++ nw2) hpt (hpl.imp fun _ _ h => h.sub k2) (fun q hq => List.mem_append_left _ hq) (fun q hq => List.mem_append_right _ hq)
          refine ne_same N4 (.inr rfl) (List.mem_append_left _ hT) (List.mem_append_right _ (k2 _ hP)) l5 s5 (by k_units) ?_
          k_steps
          refine ⟨?_⟩
          have S9 := num_node w C y le x (.int kd k1) (.int mn k2') (.int mx k3) ec (.int page k4) par nx vs nn true rec hC9 (by first | assumption | exact Nat.lt_of_le_of_lt (by assumption) (by decide) | exact Nat.le_trans (by assumption) (by decide) | omega)
          rw [hvl] at S9
          refine' TreeSpec.useI S9 ?mB ?mF ?mX ?mN ?mT ?mhd ?mhu ?mp ?_
          (case mB => k_asm); (case mF => k_asm); (case mX => k_asm); (case mN => k_asm); (case mT => k_asm); (case mhd => first | exact room2 (by assumption) (by rfl) | exact room1 (by assumption) (by rfl) | exact room3 (by assumption) (by rfl) | exact room4 (by assumption) (by rfl) | decide); (case mhu => first | exact room2 (by assumption) (by rfl) | exact room1 (by assumption) (by rfl) | exact room3 (by assumption) (by rfl) | exact room4 (by assumption) (by rfl) | decide)
          case mp => exact ⟨⟨dy, u1, u2, u3, u4, u5, u6, u7, u8, u9, n9, List.mem_append_right _ hm2, List.mem_append_right _ hm2'⟩, List.mem_append_right _ (up _ hle)⟩
          intro t6 h5 tk5 F5 N5
          k_steps
          · exact absurd rfl ‹numOf rec rows.length ≠ numOf rec rows.length›
          · exact hQt _ _ _ _ (by assumption) (by assumption) (fun q hq => List.mem_append_right _ hq) (by exact d1) (by exact d2) (by exact d3) (by exact d4) (by exact d5) (by exact d6) (by exact d7)
        case rest4 =>
          clear F3 N3 d1 d2 d3 d4 d5 d6 d7
          intro h tk m4 nw3 F3 N3 k3' d1 d2 d3 d4 d5 d6 d7
          refine (if_neg Bool.false_ne_true).mpr ?_
          refine wpAny_execs_nil ?_
          dsimp only
          have hm3 := k3' _ hm2
          have hm3' := k3' _ hm2'
          refine wpAny_execs_cons (wpAny_If ?_)
          refine cutG (fun X => ∀ h tk m nw4, (Fr g' L' h m) → (News g' L' h nw4) → (∀ q ∈ nw2, q ∈ nw4) → (m "least" = some (.int mn tl)) → (m "most" = some (.int mx tm)) → (m "plain" = some (.ref P)) → (m "count" = some (.int (numOf rec rows.length) tc)) → (m "node" = some (.ref y)) → (m "kind" = some (.int kd t1)) → (m "rows" = some (.ref D)) → X false h tk) ?t5 ?rest5
          case t5 =>
            intro Qt hQt
            k_steps
            refine ⟨?_⟩
            rename News _ _ _ _ => N5
            refine ne_same (n := 0) (T := "tuple") (xs := [.int mn _, .int mx _]) (ys := [.int mn _, .int mx _]) N5 (.inl rfl) (.tail _ (.head _)) (.head _) rfl two_same (by k_units) ?_
            k_steps
            exact hQt _ _ _ _ (by assumption) (by assumption) (fun q hq => .tail _ (.tail _ (k3' q hq))) (by exact d1) (by exact d2) (by exact d3) (by exact d4) (by exact d5) (by exact d6) (by exact d7)
          case rest5 =>
            clear F3 N3 d1 d2 d3 d4 d5 d6 d7 hm3 hm3'
            intro h tk m5 nw4 F3 N3 k4' d1 d2 d3 d4 d5 d6 d7
            refine (if_neg Bool.false_ne_true).mpr ?_
            refine wpAny_execs_nil ?_
            dsimp only
            have hm3 := k4' _ hm2
            have hm3' := k4' _ hm2'
            have hle3 := k4' _ (up _ hle)
            refine wpAny_execs_cons (wpAny_If ?_)
            refine cutG (fun X => ∀ h tk m nw5, (Fr g' L' h m) → (News g' L' h nw5) → (∀ q ∈ nw2, q ∈ nw5) → (m "least" = some (.int mn tl)) → (m "most" = some (.int mx tm)) → (m "plain" = some (.ref P)) → (m "count" = some (.int (numOf rec rows.length) tc)) → (m "node" = some (.ref y)) → (m "kind" = some (.int kd t1)) → (m "rows" = some (.ref D)) → X false h tk) ?t6 ?rest6
            case t6 =>
              intro Qt hQt
              k_steps
              refine ⟨?_⟩
              have S9 := can_add w C y le x (.int kd k1) mn mx k2' k3 ec (.int page k4) par nx vs nn true rec hC9 (by first | assumption | exact Nat.lt_of_le_of_lt (by assumption) (by decide) | exact Nat.le_trans (by assumption) (by decide) | omega)
              rw [hvl] at S9
              refine' TreeSpec.use0 S9 ?mB ?mF ?mX ?mN ?mT ?mhd ?mhu ?mp ?_
              (case mB => k_asm); (case mF => k_asm); (case mX => k_asm); (case mN => k_asm); (case mT => k_asm); (case mhd => first | exact room2 (by assumption) (by rfl) | exact room1 (by assumption) (by rfl) | exact room3 (by assumption) (by rfl) | exact room4 (by assumption) (by rfl) | decide); (case mhu => first | exact room2 (by assumption) (by rfl) | exact room1 (by assumption) (by rfl) | exact room3 (by assumption) (by rfl) | exact room4 (by assumption) (by rfl) | decide)
              case mp => exact ⟨⟨dy, u1, u2, u3, u4, u5, u6, u7, u8, u9, n9, hm3, hm3'⟩, hle3⟩
              intro h5 tk5 F5 N5
              k_steps
              · exact bne_no (by assumption)
              refine ⟨?_⟩
              have S9 := can_del w C y le x (.int kd k1) mn mx k2' k3 ec (.int page k4) par nx vs nn true rec hC9 (by first | assumption | exact Nat.lt_of_le_of_lt (by assumption) (by decide) | exact Nat.le_trans (by assumption) (by decide) | omega)
              rw [hvl] at S9
              refine' TreeSpec.use0 S9 ?mB ?mF ?mX ?mN ?mT ?mhd ?mhu ?mp ?_
              (case mB => k_asm); (case mF => k_asm); (case mX => k_asm); (case mN => k_asm); (case mT => k_asm); (case mhd => first | exact room2 (by assumption) (by rfl) | exact room1 (by assumption) (by rfl) | exact room3 (by assumption) (by rfl) | exact room4 (by assumption) (by rfl) | decide); (case mhu => first | exact room2 (by assumption) (by rfl) | exact room1 (by assumption) (by rfl) | exact room3 (by assumption) (by rfl) | exact room4 (by assumption) (by rfl) | decide)
              case mp => exact ⟨⟨dy, u1, u2, u3, u4, u5, u6, u7, u8, u9, n9, hm3, hm3'⟩, hle3⟩
              intro h6 tk6 F6 N6
              k_steps
              · exact bne_no (by assumption)
              · exact hQt _ _ _ _ (by assumption) (by assumption) k4' (by exact d1) (by exact d2) (by exact d3) (by exact d4) (by exact d5) (by exact d6) (by exact d7)
            case rest6 =>
              clear F3 N3 d1 d2 d3 d4 d5 d6 d7 hm3 hm3' hle3
              intro h tk m6 nw5 F3 N3 k5' d1 d2 d3 d4 d5 d6 d7
              refine (if_neg Bool.false_ne_true).mpr ?_
              refine wpAny_execs_nil ?_
              dsimp only
              have hm3 := k5' _ hm2
              have hm3' := k5' _ hm2'
              have hle3 := k5' _ (up _ hle)
              have hP3 := k5' _ (k2 _ hP)
              have hD3 := k5' _ (up _ hD)
              have hul := hrows.len
              have hnode3 : nodeIs w C y le x (.int kd k1) (.int mn k2') (.int mx k3) ec (.int page k4) par nx nw5 := ⟨dy, u1, u2, u3, u4, u5, u6, u7, u8, u9, n9, hm3, hm3'⟩
              k_steps
              refine ⟨?_⟩
              refine kgr_truthy N3 hD3 rfl rfl (by first | assumption | exact Nat.lt_of_le_of_lt (by assumption) (by decide) | exact Nat.le_trans (by assumption) (by decide) | omega) ?_
              by_cases h0 : us = []
              · rw [if_neg (by rw [h0]; decide)]
                k_steps
                refine hQ _ _ ?_
                k_steps
                exact post _ _ _ _ (by assumption) (by assumption) ⟨rfl, fun q hq => k5' _ (up _ hq)⟩
              · rw [if_pos (by cases us; exact absurd rfl h0; rfl)]
                have hl1 : 0 < rows.length := by
                  rw [← hul]
                  exact List.length_pos_iff.mpr h0
                refine by_no fun no => ?_
                obtain ⟨r0, hr0⟩ := some_first hl1
                obtain ⟨rl, hrl⟩ := some_last hl1
                have hv0' : 0 < vs.length := by rw [hvl]; exact hl1
                obtain ⟨v0, hv0⟩ := some_first hv0'
                obtain ⟨vl, hvl9⟩ := some_last hv0'
                obtain ⟨z0, er0, a0, rfl, ent0⟩ := hents.get hv0
                obtain ⟨zl, erl, al, rfl, entl⟩ := hents.get hvl9
                rw [hr0] at er0
                rw [hvl, hrl] at erl
                cases er0
                cases erl
                have ent0' := ent0.sub fun q hq _ => k5' _ (up q hq)
                have entl' := entl.sub fun q hq _ => k5' _ (up q hq)
                refine no ?_
                clear no
                refine cutn (fun X => ∀ h tk m ea e1t e2t, (Fr g' L' h m) → (News g' L' h ((ea, tup [.int r0.key e1t, .int rl.key e2t]) :: nw5)) → (m "ends" = some (.ref ea)) → (m "plain" = some (.ref P)) → (m "node" = some (.ref y)) → (m "kind" = some (.int kd t1)) → (m "rows" = some (.ref D)) → X h tk) (l1 := [_]) (l2 := _) rfl ?ends ?rest7
                case ends =>
                  intro Qe hQe
                  k_steps
                  refine ⟨?_⟩
                  refine' TreeSpec.useI (small_key w C y le x (.int kd k1) (.int mn k2') (.int mx k3) ec (.int page k4) par nx vs nn a0 r0 _ hC (by first | assumption | exact Nat.lt_of_le_of_lt (by assumption) (by decide) | exact Nat.le_trans (by assumption) (by decide) | omega) hv0) ?mB ?mF ?mX ?mN ?mT ?mhd ?mhu ?mp ?_
                  (case mB => k_asm); (case mF => k_asm); (case mX => k_asm); (case mN => k_asm); (case mT => k_asm); (case mhd => first | exact room2 (by assumption) (by rfl) | exact room1 (by assumption) (by rfl) | exact room3 (by assumption) (by rfl) | exact room4 (by assumption) (by rfl) | decide); (case mhu => first | exact room2 (by assumption) (by rfl) | exact room1 (by assumption) (by rfl) | exact room3 (by assumption) (by rfl) | exact room4 (by assumption) (by rfl) | decide)
                  case mp => exact ⟨hnode3, hle3, ent0'⟩
                  intro t6 h6 tk6 F6 N6
                  k_steps
                  refine ⟨?_⟩
                  refine' TreeSpec.useI (big_key w C y le x (.int kd k1) (.int mn k2') (.int mx k3) ec (.int page k4) par nx vs nn al rl _ hC (by first | assumption | exact Nat.lt_of_le_of_lt (by assumption) (by decide) | exact Nat.le_trans (by assumption) (by decide) | omega) (by first | assumption | exact Nat.lt_of_le_of_lt (by assumption) (by decide) | exact Nat.le_trans (by assumption) (by decide) | omega) hvl9) ?mB ?mF ?mX ?mN ?mT ?mhd ?mhu ?mp ?_
                  (case mB => k_asm); (case mF => k_asm); (case mX => k_asm); (case mN => k_asm); (case mT => k_asm); (case mhd => first | exact room2 (by assumption) (by rfl) | exact room1 (by assumption) (by rfl) | exact room3 (by assumption) (by rfl) | exact room4 (by assumption) (by rfl) | decide); (case mhu => first | exact room2 (by assumption) (by rfl) | exact room1 (by assumption) (by rfl) | exact room3 (by assumption) (by rfl) | exact room4 (by assumption) (by rfl) | decide)
                  case mp => exact ⟨hnode3, hle3, entl'⟩
                  intro t7 h7 tk7 F7 N7
                  k_steps
                  exact hQe _ _ _ _ _ _ (by assumption) (by assumption) (by exact rfl) (by exact d3) (by exact d5) (by exact d6) (by exact d7)
                case rest7 =>
                  clear F3 N3 d1 d2 d3 d4 d5 d6 d7
                  intro h tk m7 ea e1t e2t F7 N7 d2 d3 d5 d6 d7
                  refine by_no fun no => ?_
                  have hu0' : 0 < us.length := by rw [hul]; exact hl1
                  obtain ⟨w0, hw0⟩ := some_first hu0'
                  obtain ⟨wl, hwl⟩ := some_last hu0'
                  obtain ⟨z0', er0', T0, rfl, t80, b80, c80, hT0⟩ := key_of hrows hw0
                  obtain ⟨zl', erl', Tl, rfl, t8l, b8l, c8l, hTl⟩ := key_of hrows hwl
                  rw [hr0] at er0'
                  rw [hul, hrl] at erl'
                  cases er0'
                  cases erl'
                  have hT0' := List.Mem.tail (ea, tup [.int r0.key e1t, .int rl.key e2t]) (k5' _ (up _ hT0))
                  have hTl' := List.Mem.tail (ea, tup [.int r0.key e1t, .int rl.key e2t]) (k5' _ (up _ hTl))
                  refine no ?_
                  clear no
                  k_steps
                  refine ⟨?_⟩
                  refine item_at (p := 0) N7 (.tail _ hD3) hw0 (by first | assumption | exact Nat.lt_of_le_of_lt (by assumption) (by decide) | exact Nat.le_trans (by assumption) (by decide) | omega) ?_
                  k_steps
                  refine ⟨?_⟩
                  refine item_last N7 (.tail _ hD3) (by first | assumption | exact Nat.lt_of_le_of_lt (by assumption) (by decide) | exact Nat.le_trans (by assumption) (by decide) | omega) hwl (by first | assumption | exact Nat.lt_of_le_of_lt (by assumption) (by decide) | exact Nat.le_trans (by assumption) (by decide) | omega) ?_
                  k_steps
                  refine ⟨?_⟩
                  rename News _ _ _ _ => N9
                  refine eq_same (n := 0) (T := "tuple") (xs := [.int r0.key _, .int rl.key _]) (ys := [.int r0.key _, .int rl.key _]) N9 (.inl rfl) (.tail _ (.head _)) (.head _) rfl two_same (by k_units) ?_
                  k_steps
                  refine ⟨?_⟩
                  refine' TreeSpec.use0 (small_entry w C y le x (.int kd k1) (.int mn k2') (.int mx k3) ec (.int page k4) par nx vs nn a0 _ hC (by first | assumption | exact Nat.lt_of_le_of_lt (by assumption) (by decide) | exact Nat.le_trans (by assumption) (by decide) | omega) hv0) ?mB ?mF ?mX ?mN ?mT ?mhd ?mhu ?mp ?_
                  (case mB => k_asm); (case mF => k_asm); (case mX => k_asm); (case mN => k_asm); (case mT => k_asm); (case mhd => first | exact room2 (by assumption) (by rfl) | exact room1 (by assumption) (by rfl) | exact room3 (by assumption) (by rfl) | exact room4 (by assumption) (by rfl) | decide); (case mhu => first | exact room2 (by assumption) (by rfl) | exact room1 (by assumption) (by rfl) | exact room3 (by assumption) (by rfl) | exact room4 (by assumption) (by rfl) | decide)
                  case mp => exact ⟨hnode3.sub9 fun q hq => .tail _ (.tail _ hq), .tail _ (.tail _ hle3)⟩
                  intro h6 tk6 F6 N6
                  k_steps
                  refine ⟨?_⟩
                  refine' TreeSpec.use0 (big_entry w C y le x (.int kd k1) (.int mn k2') (.int mx k3) ec (.int page k4) par nx vs nn al _ hC (by first | assumption | exact Nat.lt_of_le_of_lt (by assumption) (by decide) | exact Nat.le_trans (by assumption) (by decide) | omega) (by first | assumption | exact Nat.lt_of_le_of_lt (by assumption) (by decide) | exact Nat.le_trans (by assumption) (by decide) | omega) hvl9) ?mB ?mF ?mX ?mN ?mT ?mhd ?mhu ?mp ?_
                  (case mB => k_asm); (case mF => k_asm); (case mX => k_asm); (case mN => k_asm); (case mT => k_asm); (case mhd => first | exact room2 (by assumption) (by rfl) | exact room1 (by assumption) (by rfl) | exact room3 (by assumption) (by rfl) | exact room4 (by assumption) (by rfl) | decide); (case mhu => first | exact room2 (by assumption) (by rfl) | exact room1 (by assumption) (by rfl) | exact room3 (by assumption) (by rfl) | exact room4 (by assumption) (by rfl) | decide)
                  case mp => exact ⟨hnode3.sub9 fun q hq => .tail _ (.tail _ hq), .tail _ (.tail _ hle3)⟩
                  intro h7 tk7 F8 N8
                  k_steps
                  refine ⟨?_⟩
                  rename_i le9 h99 F99 N99 l99
                  have hpu := hpl.len
                  refine by_no fun no => ?_
                  have hp0' : 0 < ups.length := by rw [hpu]; exact hl1
                  have hp8 : ups.length ≤ 8 := by rw [hpu]; exact hz
                  obtain ⟨u0, hu0⟩ := some_first hp0'
                  obtain ⟨ul, hul9⟩ := some_last hp0'
                  obtain ⟨z9, ez9, pl0⟩ := hpl.get hu0
                  obtain ⟨z8, ez8, pll⟩ := hpl.get hul9
                  rw [hr0] at ez9
                  rw [hpu, hrl] at ez8
                  cases ez9
                  cases ez8
                  refine no ?_
                  clear no
                  refine' TreeSpec.use (lawtold w _ x rec kd t1 [.ref a0, .ref al] 0 [r0, rl] hkd (fun r h => ?zr) (by show 2 ≤ 8; decide)) ?mB ?mF ?mX ?mN ?mT ?mhd ?mhu ?mp ?_
                  case zr =>
                    rcases List.mem_cons.mp h with rfl | h
                    · exact (hr _ (List.mem_of_getElem? hr0)).isRec
                    rcases List.mem_cons.mp h with rfl | h
                    · exact (hr _ (List.mem_of_getElem? hrl)).isRec
                    · cases h
                  (case mB => k_asm); (case mF => k_asm); (case mX => k_asm); (case mN => k_asm); (case mT => k_asm); (case mhd => first | exact room2 (by assumption) (by rfl) | exact room1 (by assumption) (by rfl) | exact room3 (by assumption) (by rfl) | exact room4 (by assumption) (by rfl) | decide); (case mhu => first | exact room2 (by assumption) (by rfl) | exact room1 (by assumption) (by rfl) | exact room3 (by assumption) (by rfl) | exact room4 (by assumption) (by rfl) | decide)
                  case mp => exact ⟨.head _, ⟨a0, rfl, ent0'.sub fun q hq _ => .tail _ (.tail _ (.tail _ hq))⟩, ⟨al, rfl, entl'.sub fun q hq _ => .tail _ (.tail _ (.tail _ hq))⟩, trivial⟩
                  intro r5 tl5 h9 tk9 F9 N10 ap9 hp9
                  obtain ⟨T, ut, rfl, hT, hpt⟩ := hp9
                  replace N10 : News g' L' h9 (tl5 ++ nw5) := news_sub N10 fun q hq => (List.mem_append.mp hq).elim (List.mem_append_left _) fun h => List.mem_append_right _ (.tail _ (.tail _ (.tail _ h)))
                  have hP5 := List.mem_append_right tl5 hP3
                  k_steps
                  refine ⟨?_⟩
                  refine item_at (p := 0) N10 hP5 hu0 (by first | assumption | exact Nat.lt_of_le_of_lt (by assumption) (by decide) | exact Nat.le_trans (by assumption) (by decide) | omega) ?_
                  k_steps
                  refine ⟨?_⟩
                  refine item_last N10 hP5 (by first | assumption | exact Nat.lt_of_le_of_lt (by assumption) (by decide) | exact Nat.le_trans (by assumption) (by decide) | omega) hul9 (by first | assumption | exact Nat.lt_of_le_of_lt (by assumption) (by decide) | exact Nat.le_trans (by assumption) (by decide) | omega) ?_
                  k_steps
                  refine ⟨?_⟩
                  rename News _ _ _ _ => N11
                  obtain ⟨l5, s5⟩ := plains_same (us := ut) (ys := [u0, ul]) (rs := [r0, rl]) (a := tl5) (b := nw) (news := _ :: (tl5 ++ nw5)) hpt ⟨pl0, pll, trivial⟩ (fun q hq => .tail _ (List.mem_append_left _ hq)) (fun q hq => .tail _ (List.mem_append_right _ (k5' _ (k2 _ hq))))
                  refine eq_same N11 (.inr rfl) (.tail _ (List.mem_append_left _ hT)) (.head _) l5 s5 (by k_units) ?_
                  k_steps
                  refine hQ _ _ ?_
                  k_steps
                  exact post _ _ _ _ (by assumption) (by assumption) ⟨rfl, fun q hq => .tail _ (List.mem_append_right _ (k5' _ (up _ hq)))⟩
end Mine
end

section
open PySem PySem.W PyProof.Rows
/-- between two texts: the walk forgets the lines of the text before, as a fresh process has none -/
theorem Mine.calm146 : ∀ (prog : Program) (w : World) (A : Around) (env : Env) (E : Value → Shared → Prop) (s : Shared) (Q : Flow → Shared → Prop), Q .next s → wpAny (model prog w) A (execs [] env) Q E s := by
  w_top off
  intro prog w A env E s Q h
  walk1
  exact h
end

section
open PySem PySem.W PyProof.Rows PySem.Calls
set_option Elab.async false
set_option linter.unusedSimpArgs false
set_option maxRecDepth 100000
set_option maxHeartbeats 4000000
namespace Mine
local macro_rules | `(tactic| walk_at "MINE spec") => `(tactic| ((case mB | mF | mX | mN | mT => k_asm); (case mhd | mhu => k_units)))
local macro_rules | `(tactic| walk_at "getAttr ref") => `(tactic| (k_here; k_dflt (refine' (conf_one ?h).use0 ?mB ?mF ?mX ?mN ?mT ?mhd ?mhu ?mp ?_; (case h => with_reducible constructor); (walk_at "MINE spec"); (case mp => exact ⟨_, by k_mem, by k_mem⟩); intro h' tk' F' N'; (try k_sweep))))
local macro_rules | `(tactic| k_all) => `(tactic| with_reducible assumption)
local macro_rules | `(tactic| walk_at "call ref") => `(tactic| refine' Held.out ?_)
local macro_rules | `(tactic| walk_at "binaryOp Mult ref int") => `(tactic| refine' Held.out ?_)
local macro_rules | `(tactic| walk_at "binaryOp Add ref ref") => `(tactic| refine' Held.out ?_)
local macro_rules | `(tactic| walk_at "call builtin:len") => `(tactic| refine' Held.out ?_)
local macro_rules | `(tactic| walk_at "LoopP") => `(tactic| refine' Held.out ?_)
/-- a row of this kind -/
def Row.ok (rec : Bool) (vn : Nat) : Row → Prop
  | .rf _ _ _ => rec = false
  | .rc _ v _ => rec = true ∧ v.length ≤ vn
/-- the octets of a row -/
def rowOcts (kn vn : Nat) : Row → List Int
  | .rf k b a => low b 4 ++ (low kn 2 ++ low k kn) ++ low a 4
  | .rc k v o => if o = 0 then (low kn 2 ++ low k kn) ++ low v.length 2 ++ v ++ List.replicate (vn - v.length + 4) 0 else (low kn 2 ++ low k kn) ++ List.replicate (2 + vn) 0 ++ low o 4
def bodyOcts (kn vn : Nat) (rows : List Row) : List Int := (rows.map (rowOcts kn vn)).flatten
def octsOf (kd : Int) (kn vn : Nat) (rows : List Row) (ahead : Int) : List Int := [kd] ++ low ((bodyOcts kn vn rows).length + 4) 3 ++ low ahead 4 ++ bodyOcts kn vn rows
theorem rowOcts_len {rec : Bool} {kn vn : Nat} {r : Row} (hk : kn ≤ 3) (hv : vn ≤ 3) (h : r.ok rec vn) : (rowOcts kn vn r).length ≤ 20 := by
  cases r with
  | rf k b a => simp only [rowOcts, List.length_append, low_len]; omega
  | rc k v o =>
    have := h.2
    simp only [rowOcts]
    split <;> (simp only [List.length_append, low_len, List.length_replicate]; omega)
theorem body_len {rec : Bool} {kn vn : Nat} (hk : kn ≤ 3) (hv : vn ≤ 3) : ∀ {rows : List Row}, (∀ r ∈ rows, Row.ok rec vn r) → (bodyOcts kn vn rows).length ≤ 20 * rows.length
  | [], _ => Nat.zero_le _
  | r :: rs, h => by
    unfold bodyOcts
    rw [List.map_cons, List.flatten_cons, List.length_append, List.length_cons, Nat.mul_succ]
    have := rowOcts_len hk hv (h r (.head _))
    have := body_len hk hv (rows := rs) fun r hr => h r (.tail _ hr)
    unfold bodyOcts at this
    omega
theorem body_take {kn vn : Nat} {rows : List Row} {i : Nat} {r : Row} (h : rows[i]? = some r) : bodyOcts kn vn (rows.take (i + 1)) = bodyOcts kn vn (rows.take i) ++ rowOcts kn vn r := by
  unfold bodyOcts
  rw [List.take_add_one, h, List.map_append, List.flatten_append]
  simp
theorem body_le {rec : Bool} {kn vn : Nat} {rows : List Row} (hk : kn ≤ 3) (hv : vn ≤ 3) (h : ∀ r ∈ rows, Row.ok rec vn r) (hz : rows.length ≤ 8) (i : Nat) : (bodyOcts kn vn (rows.take i)).length ≤ 160 :=
  Nat.le_trans (body_len hk hv fun r hr => h r (List.mem_of_mem_take hr)) (Nat.mul_le_mul_left 20 (Nat.le_trans (by rw [List.length_take]; exact Nat.min_le_right _ _) hz))
/-- the loop of _law_octets after i rows -/
inductive LoxAt (x D : Addr) (kd ahead : Int) (t t2 : Tok) (us : List Value) (n kn vn : Nat) (rows : List Row) (news : Led) (i : Nat) (m : Str → Option Value) (nw : Led) : Prop
  | mk (B : Addr) (h1 : m "body" = some (.ref B)) (h2 : m "kind" = some (.int kd t)) (h3 : m "conf" = some (.ref x)) (h4 : m "ahead" = some (.int ahead t2)) (hb : LI nw B (bodyOcts kn vn (rows.take i)) 160) (hD : (D, lst us n) ∈ nw) (hv : All2 (RowIs D nw) us rows) (hk : ∀ q ∈ news, q ∈ nw) : LoxAt x D kd ahead t t2 us n kn vn rows news i m nw
theorem lawoctets (w : World) (x D : Addr) (c : Cf) (pn on kn vn : Nat) (rec : Bool) (kd ahead : Int) (t t2 : Tok) (us : List Value) (n : Nat) (rows : List Row) (hc : Cf1 c pn on kn vn) (hkd : KindB rec kd) (hr : ∀ r ∈ rows, Row.ok rec vn r) (hk : rows.length ≤ 8) :
    MutSpec w (call (.ref 716) [.ref x, .int kd t, .ref D, .int ahead t2]) 30 (fun news => confIs x c.vals news ∧ (D, lst us n) ∈ news ∧ All2 (RowIs D news) us rows)
    (fun r news news' => LiTo (octsOf kd kn vn rows ahead) 168 news r news') := by
  unfold MutSpec
  k_fill
  intro mean mg mb dp un gd cn nms ig ic mo a ccd cl outer A₀ base h₀ L m news s Q E B F X N T hdp hun pre0 post
  obtain ⟨⟨dc, hc1, hc2⟩, hD, hrows⟩ := pre0
  have hul := hrows.len
  refine wpAny_call ?_
  k_dflt (refine' code_own ?k1 ?k2 ?k3 ?k4 ?k5 ?kA ?kF ?kK ?k6 ?k7 ?k8 ?k9 ?kB ?_ ?c5 ?c2 ?c3 ?c4; (case kA => exact rfl); (case kF => exact rfl); (case kK => exact rfl); (case k2 => k_asm); (case k1 => k_asm); (case k3 => k_asm); (case k4 => k_asm); (case k5 => k_asm); (case k6 => k_is); (case k7 => k_is); (case k8 => k_room); (case k9 => first | exact binds_K (by k_in) rfl (by k_is) rfl rfl rfl | exact BindsTo.of_eq rfl); (case kB => exact locs rfl); (case c5 => decide); (case c2 => exact rfl); (case c3 => exact rfl); (case c4 => exact rfl); k_whole; intro g' L' h' FG' F' N' B' X' T' Qb hQ; (try dsimp only); (try k_lift B'); (try k_fold))
  refine letA ?_
  intro A1
  refine letE ?_
  intro e1
  refine cutn (fun X => ∀ h tk m B nb, (Fr g' L' h m) → (News g' L' h ((B, lst [] nb) :: news)) → (m "body" = some (.ref B)) → (m "rows" = some (.ref D)) → (m "kind" = some (.int kd t)) → (m "conf" = some (.ref x)) → (m "ahead" = some (.int ahead t2)) → X h tk) (l1 := [_]) (l2 := _) rfl ?set ?rest1
  case set =>
    intro Qb hQ
    k_steps
    exact hQ _ _ _ _ _ (by assumption) (by assumption) rfl rfl rfl rfl rfl
  case rest1 =>
    clear F' N'
    intro h tk m1 B1 n1 F1 N1 b1 b2 b3 b4 b5
    refine wpAny_execs_cons (For_P rfl rfl rfl rfl ?_)
    k_steps
    refine ⟨?_⟩
    refine LoopP.mk D us n (fun g => g = g') g' m1 _ (LoxAt x D kd ahead t t2 us n kn vn rows news) rfl rfl F1 N1 (fun i m nw q => by cases q; assumption) (LoxAt.mk B1 b1 b3 b4 b5 (.mk [] n1 (.head _) .nil (Nat.zero_le _)) (.tail _ hD) (hrows.imp fun _ _ h => h.sub fun q hq => .tail _ hq) (fun q hq => .tail _ hq)) (fun i a b c nw => ∃ r, rows[i]? = some r ∧ TripIs D nw a b c r) (fun i m nw v q hv => by cases q with | mk B2 h1 h2 h3 h4 hb hD' hv' hk' => exact RowIs.trip hv' hv) ?turn ?done
    case done =>
      intro m6 nw6 h₀2 h6 tk6 e6 q F6 N6
      subst e6
      cases q with
      | mk B2 q1 q2 q3 q4 q6 q7 q8 q9 =>
      dsimp only
      rw [hul, List.take_length] at q6
      unfold octsOf at post
      generalize bodyOcts kn vn rows = body at *
      k_steps
      refine ⟨?_⟩
      rename News _ _ _ _ => N7
      refine len_S N7 (q6.up fun q hq => .tail _ hq) (by decide) ?_
      intro t7 k7
      k_steps
      refine ⟨?_⟩
      refine' MutSpec.useL (lawlowL w (body.length + 4) 3 _ _ _ (by decide) rfl) ?mB ?mF ?mX ?mN ?mT ?mhd ?mhu ?mp ?_
      (case mB => k_asm); (case mF => k_asm); (case mX => k_asm); (case mN => k_asm); (case mT => k_asm); (case mhd => first | exact room2 (by assumption) (by rfl) | exact room1 (by assumption) (by rfl) | exact room3 (by assumption) (by rfl) | exact room4 (by assumption) (by rfl) | decide); (case mhu => first | exact room2 (by assumption) (by rfl) | exact room1 (by assumption) (by rfl) | exact room3 (by assumption) (by rfl) | exact room4 (by assumption) (by rfl) | decide)
      case mp => trivial
      intro D8 nw8 h8 tk8 F8 N8 L8 k8 _
      k_steps
      refine ⟨?_⟩
      refine cat_S (n := 1) (ks := [kd]) F8 N8 (.mk _ _ (k8 _ (.head _)) (.cons kd _ .nil) (Nat.le_refl 1)) L8 (by decide) ?_
      intro D9 h9 nw9 F9 N9 L9 k9 _
      k_steps
      refine ⟨?_⟩
      refine' MutSpec.useL (lawlowL w ahead 4 _ _ _ (by decide) rfl) ?mB ?mF ?mX ?mN ?mT ?mhd ?mhu ?mp ?_
      (case mB => k_asm); (case mF => k_asm); (case mX => k_asm); (case mN => k_asm); (case mT => k_asm); (case mhd => first | exact room2 (by assumption) (by rfl) | exact room1 (by assumption) (by rfl) | exact room3 (by assumption) (by rfl) | exact room4 (by assumption) (by rfl) | decide); (case mhu => first | exact room2 (by assumption) (by rfl) | exact room1 (by assumption) (by rfl) | exact room3 (by assumption) (by rfl) | exact room4 (by assumption) (by rfl) | decide)
      case mp => trivial
      intro D10 nw10 h10 tk10 F10 N10 L10 k10 _
      k_steps
      refine ⟨?_⟩
      refine cat_S F10 N10 (L9.up k10) L10 (by decide) ?_
      intro D11 h11 nw11 F11 N11 L11 k11 _
      k_steps
      refine ⟨?_⟩
      refine cat_S F11 N11 L11 (q6.up fun q hq => k11 _ (k10 _ (k9 _ (k8 _ (.tail _ hq))))) (by decide) ?_
      intro D12 h12 nw12 F12 N12 L12 k12 f12
      k_steps
      refine hQ _ _ ?_
      k_steps
      have up : ∀ q ∈ news, q ∈ nw11 := fun q hq => k11 _ (k10 _ (k9 _ (k8 _ (.tail _ (q9 _ hq)))))
      exact post _ _ _ _ (by assumption) (by assumption) (.mk D12 L12 (fun q hq => k12 _ (up q hq)) fun q hq => Nat.ne_of_lt (f12 q (up q hq)))
    case turn =>
      intro i va vb vd m6 nw6 h₀2 h6 tk6 I oI hi W e6 q off F6 N6 Qt hT
      subst e6
      obtain ⟨r, hri, htr⟩ := W
      cases q with
      | mk B2 q1 q2 q3 q4 q6 q7 q8 q9 =>
      have hrok := hr r (List.mem_of_getElem? hri)
      have hc1' := q9 _ hc1
      have hc2' := q9 _ hc2
      obtain ⟨ka, kt, rfl⟩ : ∃ k t, va = .int k t := by cases htr <;> exact ⟨_, _, rfl⟩
      refine cutn (fun X => ∀ h tk m nw7 Dn, (Fr h₀2 L' h m) → (News h₀2 L' h nw7) → (∀ q ∈ (I, oI) :: nw6, q ∈ nw7) → (LI nw7 Dn (low kn 2 ++ low ka kn) 5) → (m "name" = some (.ref Dn)) → (m "one" = some vb) → (m "two" = some vd) → (m "body" = some (.ref B2)) → (m "kind" = some (.int kd t)) → (m "conf" = some (.ref x)) → (m "ahead" = some (.int ahead t2)) → X h tk) (l1 := [_]) (l2 := _) rfl ?name ?rest2
      case name =>
        intro Qb hQ
        k_steps
        refine ⟨?_⟩
        refine' MutSpec.useL (lawlowL w c.ks 2 _ _ _ (by decide) rfl) ?mB ?mF ?mX ?mN ?mT ?mhd ?mhu ?mp ?_
        (case mB => k_asm); (case mF => k_asm); (case mX => k_asm); (case mN => k_asm); (case mT => k_asm); (case mhd => first | exact room2 (by assumption) (by rfl) | exact room1 (by assumption) (by rfl) | exact room3 (by assumption) (by rfl) | exact room4 (by assumption) (by rfl) | decide); (case mhu => first | exact room2 (by assumption) (by rfl) | exact room1 (by assumption) (by rfl) | exact room3 (by assumption) (by rfl) | exact room4 (by assumption) (by rfl) | decide)
        case mp => trivial
        intro D8 nw8 h8 tk8 F8 N8 L8 k8 _
        have hc1'' := k8 _ (.tail _ hc1')
        have hc2'' := k8 _ (.tail _ hc2')
        k_steps
        refine ⟨?_⟩
        refine' MutSpec.useL (lawlowL w ka kn _ _ _ (Nat.le_trans hc.k2 (by decide)) hc.ks) ?mB ?mF ?mX ?mN ?mT ?mhd ?mhu ?mp ?_
        (case mB => k_asm); (case mF => k_asm); (case mX => k_asm); (case mN => k_asm); (case mT => k_asm); (case mhd => first | exact room2 (by assumption) (by rfl) | exact room1 (by assumption) (by rfl) | exact room3 (by assumption) (by rfl) | exact room4 (by assumption) (by rfl) | decide); (case mhu => first | exact room2 (by assumption) (by rfl) | exact room1 (by assumption) (by rfl) | exact room3 (by assumption) (by rfl) | exact room4 (by assumption) (by rfl) | decide)
        case mp => trivial
        intro D10 nw10 h10 tk10 F10 N10 L10 k10 _
        k_steps
        refine ⟨?_⟩
        refine cat_S F10 N10 (L8.up k10) (L10.le hc.k2) (by decide) ?_
        intro D11 h11 nw11 F11 N11 L11 k11 _
        k_steps
        exact hQ _ _ _ nw11 D11 (by assumption) (by assumption) (fun q hq => k11 _ (k10 _ (k8 _ hq))) (hc.ks ▸ L11) rfl rfl rfl (by exact q1) (by exact q2) (by exact q3) (by exact q4)
      case rest2 =>
        clear F6 N6
        intro h tk m7 nw7 Dn F7 N7 s7 L7 a1 a2 a3 a4 a5 a6 a7
        have fin : ∀ (h5 : Heap) (tk5 : Nat) (m5 : Str → Option Value) (B5 : Addr) (nw5 : Led) (ks5 : List Int) (n5 : Nat), Fr h₀2 L' h5 m5 → News h₀2 L' h5 nw5 → (∀ q ∈ nw7, q ∈ nw5) → I < B5 → LI nw5 B5 ks5 n5 → ks5 = bodyOcts kn vn (rows.take i) ++ rowOcts kn vn r → m5 "body" = some (.ref B5) → m5 "kind" = some (.int kd t) → m5 "conf" = some (.ref x) → m5 "ahead" = some (.int ahead t2) → Qt .next { s with heap := h5, toks := tk5 } := by
          intro h5 tk5 m5 B5 nw5 ks5 n5 F5 N5 s5 hB5 L5 e5 r1 r2 r3 r4
          rw [← body_take hri] at e5
          subst e5
          cases L5 with
          | mk us5 n5 m5' i5 l5 =>
          refine hT .next _ _ _ _ ((B5, lst us5 n5) :: nw6) (.inl rfl) rfl F5 (news_sub N5 fun q hq => ?_) (fun q hq => ?_) (LoxAt.mk B5 r1 r2 r3 r4 (.mk us5 n5 (.head _) i5 (body_le hc.k2 hc.v2 hr hk (i + 1))) (.tail _ q7) (q8.imp fun _ _ h => h.sub fun q hq => .tail _ hq) fun q hq => .tail _ (q9 q hq))
          · rcases List.mem_cons.mp hq with rfl | hq
            · exact s5 _ (s7 _ (.head _))
            rcases List.mem_cons.mp hq with rfl | hq
            · exact m5'
            · exact s5 _ (s7 _ (.tail _ hq))
          · rcases List.mem_cons.mp hq with rfl | hq
            · exact Nat.ne_of_gt hB5
            · exact off _ hq
        have LB : LI nw7 B2 (bodyOcts kn vn (rows.take i)) 160 := q6.up fun q hq => s7 _ (.tail _ hq)
        have hI := s7 _ (.head _)
        refine wpAny_execs_cons (wpAny_If ?_)
        refine cutG (fun X => ∀ tk, X (!rec) h tk) ?test ?branch
        case test =>
          intro Qb hQ
          cases hkd <;> (k_steps; exact hQ _)
        case branch =>
          intro tk
          cases htr with
          | rf =>
            obtain rfl : rec = false := hrok
            refine (if_pos (show (!false) = true from rfl)).mpr ?_
            k_steps
            refine ⟨?_⟩
            refine' MutSpec.useL (lawlowL w _ 4 _ _ _ (by decide) rfl) ?mB ?mF ?mX ?mN ?mT ?mhd ?mhu ?mp ?_
            (case mB => k_asm); (case mF => k_asm); (case mX => k_asm); (case mN => k_asm); (case mT => k_asm); (case mhd => first | exact room2 (by assumption) (by rfl) | exact room1 (by assumption) (by rfl) | exact room3 (by assumption) (by rfl) | exact room4 (by assumption) (by rfl) | decide); (case mhu => first | exact room2 (by assumption) (by rfl) | exact room1 (by assumption) (by rfl) | exact room3 (by assumption) (by rfl) | exact room4 (by assumption) (by rfl) | decide)
            case mp => trivial
            intro D8 nw8 h8 tk8 F8 N8 L8 k8 _
            k_steps
            refine ⟨?_⟩
            refine cat_S F8 N8 (LB.up k8) L8 (by decide) ?_
            intro D9 h9 nw9 F9 N9 L9 k9 _
            k_steps
            refine ⟨?_⟩
            refine cat_S F9 N9 L9 (L7.up fun q h => k9 _ (k8 _ h)) (by decide) ?_
            intro D10 h10 nw10 F10 N10 L10 k10 _
            k_steps
            refine ⟨?_⟩
            refine' MutSpec.useL (lawlowL w _ 4 _ _ _ (by decide) rfl) ?mB ?mF ?mX ?mN ?mT ?mhd ?mhu ?mp ?_
            (case mB => k_asm); (case mF => k_asm); (case mX => k_asm); (case mN => k_asm); (case mT => k_asm); (case mhd => first | exact room2 (by assumption) (by rfl) | exact room1 (by assumption) (by rfl) | exact room3 (by assumption) (by rfl) | exact room4 (by assumption) (by rfl) | decide); (case mhu => first | exact room2 (by assumption) (by rfl) | exact room1 (by assumption) (by rfl) | exact room3 (by assumption) (by rfl) | exact room4 (by assumption) (by rfl) | decide)
            case mp => trivial
            intro D11 nw11 h11 tk11 F11 N11 L11 k11 _
            k_steps
            refine ⟨?_⟩
            refine cat_S F11 N11 (L10.up k11) L11 (by decide) ?_
            intro D12 h12 nw12 F12 N12 L12 k12 f12
            k_steps
            have up : ∀ q ∈ nw7, q ∈ nw11 := fun q h => k11 _ (k10 _ (k9 _ (k8 _ h)))
            exact fin _ _ _ D12 nw12 _ _ (by assumption) (by assumption) (fun q h => k12 _ (up q h)) (f12 _ (up _ hI)) L12 (by simp only [rowOcts, List.append_assoc]) rfl (by exact a5) (by exact a6) (by exact a7)
          | rc hl hv hD =>
            rename_i z1 l o t3 us3 v3 n3
            obtain ⟨rfl, hvl⟩ : rec = true ∧ v3.length ≤ vn := hrok
            refine (if_neg (show ¬ ((!true) = true) by decide)).mpr ?_
            have hv2 := hc.v2
            have Lv : LI nw7 l v3 3 := .mk us3 n3 (s7 _ (.tail _ hl)) hv (Nat.le_trans hvl hv2)
            k_steps
            all_goals refine ⟨?_⟩
            · refine cat_S F7 N7 LB L7 (by decide) ?_
              intro D9 h9 nw9 F9 N9 L9 k9 _
              have hc9 := k9 _ (s7 _ (.tail _ hc1'))
              have hd9 := k9 _ (s7 _ (.tail _ hc2'))
              k_steps
              refine ⟨?_⟩
              rename Fr _ _ _ _ => F10
              rename News _ _ _ _ => N10
              refine zeros_L (j := 2 + vn) (J := 5) F10 N10 (.head _) (by rw [hc.vz]; rfl) (Nat.add_le_add_left hv2 2) (by decide) ?_
              intro D11 h11 nw11 F11 N11 L11 k11 _
              k_steps
              refine ⟨?_⟩
              refine cat_S F11 N11 (L9.up fun q h => k11 _ (.tail _ h)) L11 (by decide) ?_
              intro D12 h12 nw12 F12 N12 L12 k12 _
              k_steps
              refine ⟨?_⟩
              refine' MutSpec.useL (lawlowL w _ 4 _ _ _ (by decide) rfl) ?mB ?mF ?mX ?mN ?mT ?mhd ?mhu ?mp ?_
              (case mB => k_asm); (case mF => k_asm); (case mX => k_asm); (case mN => k_asm); (case mT => k_asm); (case mhd => first | exact room2 (by assumption) (by rfl) | exact room1 (by assumption) (by rfl) | exact room3 (by assumption) (by rfl) | exact room4 (by assumption) (by rfl) | decide); (case mhu => first | exact room2 (by assumption) (by rfl) | exact room1 (by assumption) (by rfl) | exact room3 (by assumption) (by rfl) | exact room4 (by assumption) (by rfl) | decide)
              case mp => trivial
              intro D13 nw13 h13 tk13 F13 N13 L13 k13 _
              k_steps
              refine ⟨?_⟩
              refine cat_S F13 N13 (L12.up k13) L13 (by decide) ?_
              intro D14 h14 nw14 F14 N14 L14 k14 f14
              k_steps
              have up : ∀ q ∈ nw7, q ∈ nw13 := fun q h => k13 _ (k12 _ (k11 _ (.tail _ (k9 _ h))))
              exact fin _ _ _ D14 nw14 _ _ (by assumption) (by assumption) (fun q h => k14 _ (up q h)) (f14 _ (up _ hI)) L14 (by simp only [rowOcts]; rw [if_neg (by assumption)]; simp only [List.append_assoc]) rfl (by exact a5) (by exact a6) (by exact a7)
            · refine cat_S F7 N7 LB L7 (by decide) ?_
              intro D9 h9 nw9 F9 N9 L9 k9 _
              k_steps
              refine ⟨?_⟩
              refine len_S N9 (Lv.up k9) (by decide) ?_
              intro t9 tk9
              k_steps
              refine ⟨?_⟩
              refine' MutSpec.useL (lawlowL w _ 2 _ _ _ (by decide) rfl) ?mB ?mF ?mX ?mN ?mT ?mhd ?mhu ?mp ?_
              (case mB => k_asm); (case mF => k_asm); (case mX => k_asm); (case mN => k_asm); (case mT => k_asm); (case mhd => first | exact room2 (by assumption) (by rfl) | exact room1 (by assumption) (by rfl) | exact room3 (by assumption) (by rfl) | exact room4 (by assumption) (by rfl) | decide); (case mhu => first | exact room2 (by assumption) (by rfl) | exact room1 (by assumption) (by rfl) | exact room3 (by assumption) (by rfl) | exact room4 (by assumption) (by rfl) | decide)
              case mp => trivial
              intro D10 nw10 h10 tk10 F10 N10 L10 k10 _
              k_steps
              refine ⟨?_⟩
              refine cat_S F10 N10 (L9.up k10) L10 (by decide) ?_
              intro D11 h11 nw11 F11 N11 L11 k11 _
              k_steps
              refine ⟨?_⟩
              refine cat_S F11 N11 L11 (Lv.up fun q h => k11 _ (k10 _ (k9 _ h))) (by decide) ?_
              intro D12 h12 nw12 F12 N12 L12 k12 _
              have up12 : ∀ q ∈ nw7, q ∈ nw12 := fun q h => k12 _ (k11 _ (k10 _ (k9 _ h)))
              have hc9 := up12 _ (s7 _ (.tail _ hc1'))
              have hd9 := up12 _ (s7 _ (.tail _ hc2'))
              k_steps
              refine ⟨?_⟩
              rename Fr _ _ _ _ => F13
              rename News _ _ _ _ => N13
              refine len_S N13 (Lv.up fun q h => .tail _ (up12 q h)) (by decide) ?_
              intro t13 tk13
              k_steps
              refine ⟨?_⟩
              refine zeros_L (j := vn - v3.length + 4) (J := 7) F13 N13 (.head _) (by rw [hc.vz, ← Int.ofNat_sub hvl]; rfl) (Nat.add_le_add_right (Nat.le_trans (Nat.sub_le _ _) hv2) 4) (by decide) ?_
              intro D14 h14 nw14 F14 N14 L14 k14 _
              k_steps
              refine ⟨?_⟩
              refine cat_S F14 N14 (L12.up fun q h => k14 _ (.tail _ h)) L14 (by decide) ?_
              intro D15 h15 nw15 F15 N15 L15 k15 f15
              k_steps
              have up : ∀ q ∈ nw7, q ∈ nw14 := fun q h => k14 _ (.tail _ (up12 q h))
              exact fin _ _ _ D15 nw15 _ _ (by assumption) (by assumption) (fun q h => k15 _ (up q h)) (f15 _ (up _ hI)) L15 (by simp only [rowOcts]; rw [if_pos (by assumption)]; simp only [List.append_assoc]) rfl (by exact a5) (by exact a6) (by exact a7)
end Mine
end

section
open PySem PySem.W PyProof.Rows
/-- between two texts: the walk forgets the lines of the text before, as a fresh process has none -/
theorem Mine.calm148 : ∀ (prog : Program) (w : World) (A : Around) (env : Env) (E : Value → Shared → Prop) (s : Shared) (Q : Flow → Shared → Prop), Q .next s → wpAny (model prog w) A (execs [] env) Q E s := by
  w_top off
  intro prog w A env E s Q h
  walk1
  exact h
end

section
open PySem PySem.W PyProof.Rows PySem.Calls
set_option Elab.async false
set_option maxRecDepth 100000
set_option maxHeartbeats 1000000
namespace Mine
theorem little_low (n : Nat) (x : Int) : KTBy.little n x = low x n := by
  rw [KTBy.little_eq]
  unfold low
  refine List.map_congr_left fun p _ => ?_
  have h : (0 : Int) ≤ 256 ^ p := Int.pow_nonneg (by decide)
  rw [Int.fdiv_eq_ediv_of_nonneg _ h, Int.fmod_eq_emod_of_nonneg _ (by decide)]
theorem little_inj {n : Nat} {x y : Int} (x0 : 0 ≤ x) (x1 : x < 256 ^ n) (y0 : 0 ≤ y) (y1 : y < 256 ^ n) (h : KTBy.little n x = KTBy.little n y) : x = y := by
  rw [← value_little n x x0 x1, ← value_little n y y0 y1, h]
theorem pow_mono {kn : Nat} (h : 1 ≤ kn) : (256 : Int) ≤ 256 ^ kn := by
  have : (256 : Nat) ^ 1 ≤ 256 ^ kn := Nat.pow_le_pow_right (by decide) h
  exact_mod_cast this
theorem key_in (m : Int) : ∀ p : Nat, 0 ≤ keyAt m p ∧ keyAt m p ≤ 5 * p
  | 0 => ⟨Int.le_refl _, by show (0 : Int) ≤ 5 * 0; decide⟩
  | p + 1 => by
    have ih := key_in m p
    have a := Int.fmod_nonneg_of_pos (m.fdiv (3 ^ p)) (b := 5) (by decide)
    have b := Int.fmod_lt_of_pos (m.fdiv (3 ^ p)) (b := 5) (by decide)
    show 0 ≤ keyAt m p + (1 + _) ∧ keyAt m p + (1 + _) ≤ 5 * ((p + 1 : Nat) : Int)
    push_cast
    omega
theorem rows_fit {rec : Bool} {m : Int} {kn vn k : Nat} (hk : k ≤ 8) (h1 : 1 ≤ kn) (hv : vn ≤ 3) : ∀ r ∈ rowsOf rec m vn k, Row.fit rec kn vn r := fun r hr => by
  unfold rowsOf at hr
  obtain ⟨p, hp, rfl⟩ := List.mem_map.mp hr
  have hp := List.mem_range.mp hp
  have kk := key_in m (p + 1)
  have pw := pow_mono h1
  push_cast at kk
  cases rec with
  | false =>
    have a := Int.fmod_nonneg_of_pos m (b := 300) (by decide)
    have b := Int.fmod_lt_of_pos m (b := 300) (by decide)
    exact ⟨rfl, ⟨kk.1, by omega⟩, ⟨by omega, by omega⟩, ⟨by omega, by omega⟩⟩
  | true =>
    have a := Int.fmod_nonneg_of_pos (m.fdiv (2 ^ p)) (b := (vn : Int) + 1) (by omega)
    have b := Int.fmod_lt_of_pos (m.fdiv (2 ^ p)) (b := (vn : Int) + 1) (by omega)
    refine ⟨rfl, ⟨kk.1, by omega⟩, by rw [List.length_replicate]; omega, fun e he => ?_, ?_⟩
    · rw [(List.mem_replicate.mp he).2]
      exact ⟨Int.fmod_nonneg_of_pos _ (by decide), Int.fmod_lt_of_pos _ (by decide)⟩
    · split <;> omega
theorem fit_ok {rec : Bool} {kn vn : Nat} {r : Row} (h : Row.fit rec kn vn r) : Row.ok rec vn r := by
  cases r with
  | rf k b a => exact h.1
  | rc k v o => exact ⟨h.1, h.2.2.1⟩
theorem rep_add (a b : Nat) : List.replicate (a + b) (0 : Int) = List.replicate a 0 ++ List.replicate b 0 := List.replicate_append_replicate.symm
theorem little0 (n : Nat) : KTBy.little n 0 = List.replicate n 0 := by
  induction n with
  | zero => rfl
  | succ n ih =>
    show (0 : Int) % 256 :: KTBy.little n (0 / 256) = _
    rw [show (0 : Int) / 256 = 0 by decide, ih, List.replicate_succ]
    rfl
/-- the class of the entries -/
def ecOf (rec : Bool) : Addr := if rec then 260 else 301
/-- a row's octets, as dump says them -/
theorem ent_is {w : World} {x a : Addr} {kn vn : Nat} {rec : Bool} {news : Led} {r : Row} (h : EntR w x news a r) (f : Row.fit rec kn vn r) : EntIs w x kn vn news (ecOf rec) a (rowOcts kn vn r) := by
  cases h with
  | rf h =>
    obtain ⟨rfl, k, b, c⟩ := f
    have := EntIs.rf (kn := kn) (vn := vn) h k.1 k.2 b.1 b.2 c.1 c.2
    show EntIs w x kn vn news 301 _ _
    simp only [little_low] at this
    simpa only [rowOcts, List.append_assoc] using this
  | rv h hb =>
    rename_i k len b0 t0 v
    obtain ⟨rfl, k, hv, he, ho⟩ := f
    have z := bInts_size hb
    have := EntIs.rc (kn := kn) (vn := vn) h k.1 k.2 (.v _ _ (by rw [z]; exact hv))
    rw [KBw.ints_length] at this
    simp only [rowOcts, if_true]
    rw [rep_add]
    rw [little0 4, hb, z] at this
    show EntIs w x kn vn news 260 _ _
    simp only [little_low] at this
    simpa only [List.append_assoc] using this
  | ro h ho =>
    rename_i k len o t0 v
    obtain ⟨rfl, k, hv, he, ho'⟩ := f
    have := EntIs.rc (kn := kn) (vn := vn) h k.1 k.2 (.o _ _ (by omega) ho'.2)
    simp only [List.length_nil, Nat.sub_zero, List.append_nil, Int.ofNat_zero, Int.natCast_zero] at this
    simp only [rowOcts]
    rw [if_neg ho, rep_add]
    have e2 := little0 2
    rw [e2] at this
    show EntIs w x kn vn news 260 _ _
    simp only [little_low] at this
    simpa only [List.append_assoc] using this
theorem ents_are {w : World} {x : Addr} {kn vn : Nat} {rec : Bool} {news : Led} : ∀ {vs : List Value} {rows : List Row}, EntRs w x news vs rows → (∀ r ∈ rows, Row.fit rec kn vn r) → All2 (fun v o => ∃ a, v = .ref a ∧ EntIs w x kn vn news (ecOf rec) a o) vs (rows.map (rowOcts kn vn))
  | [], [], _, _ => trivial
  | _ :: _, _ :: _, h, f => ⟨by obtain ⟨a, e, h1⟩ := h.1; exact ⟨a, e, ent_is h1 (f _ (.head _))⟩, ents_are h.2 fun r hr => f r (.tail _ hr)⟩
theorem oct_of {kn vn : Nat} {k o : Int} {v : List Int} (f : Row.fit true kn vn (.rc k v o)) : ∃ vl vp, Oct kn vn k vl vp o (rowOcts kn vn (.rc k v o)) ∧ (o = 0 → vp.take vl = v) := by
  obtain ⟨_, k, hv, he, ho⟩ := f
  by_cases h0 : o = 0
  · subst h0
    refine ⟨v.length, v ++ List.replicate (vn - v.length) 0, ⟨?_, k.1, k.2, hv, by rw [List.length_append, List.length_replicate]; omega, ho.1, ho.2⟩, fun _ => List.take_left⟩
    simp only [rowOcts, if_true]
    rw [rep_add, little0 4]
    simp only [little_low, List.append_assoc]
  · refine ⟨0, List.replicate vn 0, ⟨?_, k.1, k.2, Nat.zero_le _, List.length_replicate, ho.1, ho.2⟩, fun e => absurd e h0⟩
    simp only [rowOcts]
    rw [if_neg h0, rep_add, show ((0 : Nat) : Int) = 0 from rfl, little0 2]
    simp only [little_low, List.append_assoc]
theorem octR_of {kn vn : Nat} {k b a : Int} (f : Row.fit false kn vn (.rf k b a)) : OctR kn k b a (rowOcts kn vn (.rf k b a)) := by
  obtain ⟨_, k, b, a⟩ := f
  refine ⟨?_, k.1, k.2, b.1, b.2, a.1, a.2⟩
  simp only [rowOcts, little_low, List.append_assoc]
theorem ents_of {kn vn : Nat} {rec : Bool} {rows : List Row} (f : ∀ r ∈ rows, Row.fit rec kn vn r) : ∃ el, EntsOf kn vn (rows.map (rowOcts kn vn)) (ecOf rec) el := by
  cases rec with
  | true =>
    refine ⟨_, EntsOf.rcs fun o ho => ?_⟩
    obtain ⟨r, hr, rfl⟩ := List.mem_map.mp ho
    have fr := f r hr
    cases r with
    | rf k b a => exact absurd fr.1 Bool.noConfusion
    | rc k v o =>
      obtain ⟨vl, vp, h, _⟩ := oct_of fr
      exact ⟨k, vl, vp, o, h⟩
  | false =>
    refine ⟨_, EntsOf.rfs fun o ho => ?_⟩
    obtain ⟨r, hr, rfl⟩ := List.mem_map.mp ho
    have fr := f r hr
    cases r with
    | rf k b a => exact ⟨k, b, a, octR_of fr⟩
    | rc k v o => exact absurd fr.1 Bool.noConfusion
theorem app_inj {a b c d : List Int} (l : a.length = c.length) (h : a ++ b = c ++ d) : a = c ∧ b = d := List.append_inj h l
theorem Oct.inj {kn vn : Nat} {k k' o o' : Int} {vl vl' : Nat} {vp vp' ks : List Int} (h : Oct kn vn k vl vp o ks) (h' : Oct kn vn k' vl' vp' o' ks) (hv : vn ≤ 3) : k = k' ∧ vl = vl' ∧ vp = vp' ∧ o = o' := by
  have e := h.is.symm.trans h'.is
  obtain ⟨_, e⟩ := app_inj (by simp [KTBy.little_length]) e
  obtain ⟨e1, e⟩ := app_inj (by simp [KTBy.little_length]) e
  obtain ⟨e2, e⟩ := app_inj (by simp [KTBy.little_length]) e
  obtain ⟨e3, e4⟩ := app_inj (h.vp.trans h'.vp.symm) e
  have v1 := h.v1
  have v2 := h'.v1
  have := little_inj (by omega) (by omega) (by omega) (by omega) e2
  exact ⟨little_inj h.k0 h.k1 h'.k0 h'.k1 e1, by omega, e3, little_inj h.o0 h.o1 h'.o0 h'.o1 e4⟩
theorem OctR.inj {kn : Nat} {k k' b b' a a' : Int} {ks : List Int} (h : OctR kn k b a ks) (h' : OctR kn k' b' a' ks) : k = k' ∧ b = b' ∧ a = a' := by
  have e := h.is.symm.trans h'.is
  obtain ⟨e1, e⟩ := app_inj (by simp [KTBy.little_length]) e
  obtain ⟨_, e⟩ := app_inj (by simp [KTBy.little_length]) e
  obtain ⟨e2, e3⟩ := app_inj (by simp [KTBy.little_length]) e
  exact ⟨little_inj h.k0 h.k1 h'.k0 h'.k1 e2, little_inj h.b0 h.b1 h'.b0 h'.b1 e1, little_inj h.a0 h.a1 h'.a0 h'.a1 e3⟩
/-- an entry that was made of a row's octets is the row's -/
theorem ld_row {w : World} {x a ec : Addr} {kn vn : Nat} {rec : Bool} {news : Led} {r : Row} (h : LdIs w x kn vn news ec a (rowOcts kn vn r)) (hec : ec = ecOf rec) (f : Row.fit rec kn vn r) (hv : vn ≤ 3) : EntR w x news a r := by
  generalize hks : rowOcts kn vn r = ks at h
  cases r with
  | rf k b c =>
    obtain rfl := f.1
    cases h with
    | rv H h hb => exact absurd hec (by decide)
    | ro H ho h => exact absurd hec (by decide)
    | rf H h =>
      obtain ⟨rfl, rfl, rfl⟩ := (hks ▸ H).inj (octR_of f)
      exact .rf h
  | rc k v o =>
    obtain rfl := f.1
    obtain ⟨vl, vp, H', ht⟩ := oct_of f
    cases h with
    | rf H h => exact absurd hec (by decide)
    | rv H h hb =>
      obtain ⟨rfl, rfl, rfl, e⟩ := (hks ▸ H).inj H' hv
      subst e
      exact .rv h (hb.trans (ht rfl))
    | ro H ho h =>
      obtain ⟨rfl, rfl, rfl, rfl⟩ := (hks ▸ H).inj H' hv
      exact .ro h ho
theorem lds_rows {w : World} {x ec : Addr} {kn vn : Nat} {rec : Bool} {news : Led} (hec : ec = ecOf rec) (hv : vn ≤ 3) : ∀ {vs : List Value} {rows : List Row}, All2 (fun v o => ∃ a, v = .ref a ∧ LdIs w x kn vn news ec a o) vs (rows.map (rowOcts kn vn)) → (∀ r ∈ rows, Row.fit rec kn vn r) → EntRs w x news vs rows
  | [], [], _, _ => trivial
  | _ :: _, _ :: _, h, f => ⟨by obtain ⟨a, e, h1⟩ := h.1; exact ⟨a, e, ld_row h1 hec (f _ (.head _)) hv⟩, lds_rows hec hv h.2 fun r hr => f r (.tail _ hr)⟩
end Mine
end

section
open PySem PySem.W PyProof.Rows
/-- between two texts: the walk forgets the lines of the text before, as a fresh process has none -/
theorem Mine.calm150 : ∀ (prog : Program) (w : World) (A : Around) (env : Env) (E : Value → Shared → Prop) (s : Shared) (Q : Flow → Shared → Prop), Q .next s → wpAny (model prog w) A (execs [] env) Q E s := by
  w_top off
  intro prog w A env E s Q h
  walk1
  exact h
end

section
open PySem PySem.W PyProof.Rows PySem.Calls
set_option Elab.async false
set_option linter.unusedSimpArgs false
set_option maxRecDepth 100000
set_option maxHeartbeats 4000000
namespace Mine
--
local macro_rules | `(tactic| walk_at "call ref") => `(tactic| refine' Held.out ?_)
theorem law_node (w : World) (x C ec : Addr) (c : Cf) (pn on kn vn : Nat) (kd mn mx page : Int) (t1 t2 : Tok) (nx : Value) (hc : Cf1 c pn on kn vn) (hK : KindOf c kd C ec mn mx) (hnx : kd ≠ 4 → nx = .none) :
    MutSpec w (call (.ref 690) [.ref x, .int kd t1, .int page t2, nx]) 76 (fun news => confIs x c.vals news ∧ serIs c.ser news) (MadeX w C x ec kn vn (.int page t2) [] (· = nx) kd mn mx) := by
  unfold MutSpec
  k_fill
  intro mean mg mb dp un gd cn nms ig ic mo a ccd cl outer A₀ base h₀ L m news s Q E B F X N T hdp hun pre0 post
  obtain ⟨hcf, hs⟩ := pre0
  refine wpAny_call ?_
  k_dflt (refine' code_own ?k1 ?k2 ?k3 ?k4 ?k5 ?kA ?kF ?kK ?k6 ?k7 ?k8 ?k9 ?kB ?_ ?c5 ?c2 ?c3 ?c4; (case kA => exact rfl); (case kF => exact rfl); (case kK => exact rfl); (case k2 => k_asm); (case k1 => k_asm); (case k3 => k_asm); (case k4 => k_asm); (case k5 => k_asm); (case k6 => k_is); (case k7 => k_is); (case k8 => k_room); (case k9 => first | exact binds_K (by k_in) rfl (by k_is) rfl rfl rfl | exact BindsTo.of_eq rfl); (case kB => exact locs rfl); (case c5 => decide); (case c2 => exact rfl); (case c3 => exact rfl); (case c4 => exact rfl); k_whole; intro g' L' h' FG' F' N' B' X' T' Qb hQ; (try dsimp only); (try k_lift B'); (try k_fold))
  refine letA ?_
  intro A1
  refine letE ?_
  intro e1
  cases hK with
  | k1 =>
    obtain rfl := hnx (by decide)
    k_steps
    refine ⟨?_⟩
    refine' MutSpecX.use (mk_LonelyRootNode w x c pn on kn vn (.int page t2) .none [] (· = .none) True _ _ hc .no (.inl ⟨rfl, rfl, rfl⟩)) ?mB ?mF ?mX ?mN ?mT ?mhd ?mhu ?mp ?_ ?_
    (case mB => k_asm); (case mF => k_asm); (case mX => k_asm); (case mN => k_asm); (case mT => k_asm); (case mhd => first | exact room2 (by assumption) (by rfl) | exact room1 (by assumption) (by rfl) | exact room3 (by assumption) (by rfl) | exact room4 (by assumption) (by rfl) | decide); (case mhu => first | exact room2 (by assumption) (by rfl) | exact room1 (by assumption) (by rfl) | exact room3 (by assumption) (by rfl) | exact room4 (by assumption) (by rfl) | decide)
    case mp => exact ⟨hcf, hs⟩
    · intro r2 nw2 h2 tk2 hok F2 N2 hp
      k_steps
      refine hQ _ _ ?_
      k_steps
      exact post _ _ _ _ (by assumption) (by assumption) hp
    · intro g3 e3 led3 h3 tk3 hno F3 R3 U3 hl3
      exact absurd trivial hno
  | k2 =>
    obtain rfl := hnx (by decide)
    k_steps
    refine ⟨?_⟩
    refine' MutSpecX.use (mk_RootNode w x c pn on kn vn (.int page t2) .none [] (· = .none) True _ _ hc .no (.inl ⟨rfl, rfl, rfl⟩)) ?mB ?mF ?mX ?mN ?mT ?mhd ?mhu ?mp ?_ ?_
    (case mB => k_asm); (case mF => k_asm); (case mX => k_asm); (case mN => k_asm); (case mT => k_asm); (case mhd => first | exact room2 (by assumption) (by rfl) | exact room1 (by assumption) (by rfl) | exact room3 (by assumption) (by rfl) | exact room4 (by assumption) (by rfl) | decide); (case mhu => first | exact room2 (by assumption) (by rfl) | exact room1 (by assumption) (by rfl) | exact room3 (by assumption) (by rfl) | exact room4 (by assumption) (by rfl) | decide)
    case mp => exact ⟨hcf, hs⟩
    · intro r2 nw2 h2 tk2 hok F2 N2 hp
      k_steps
      refine hQ _ _ ?_
      k_steps
      exact post _ _ _ _ (by assumption) (by assumption) hp
    · intro g3 e3 led3 h3 tk3 hno F3 R3 U3 hl3
      exact absurd trivial hno
  | k3 =>
    obtain rfl := hnx (by decide)
    k_steps
    refine ⟨?_⟩
    refine' MutSpecX.use (mk_InternalNode w x c pn on kn vn (.int page t2) .none [] (· = .none) True _ _ hc .no (.inl ⟨rfl, rfl, rfl⟩)) ?mB ?mF ?mX ?mN ?mT ?mhd ?mhu ?mp ?_ ?_
    (case mB => k_asm); (case mF => k_asm); (case mX => k_asm); (case mN => k_asm); (case mT => k_asm); (case mhd => first | exact room2 (by assumption) (by rfl) | exact room1 (by assumption) (by rfl) | exact room3 (by assumption) (by rfl) | exact room4 (by assumption) (by rfl) | decide); (case mhu => first | exact room2 (by assumption) (by rfl) | exact room1 (by assumption) (by rfl) | exact room3 (by assumption) (by rfl) | exact room4 (by assumption) (by rfl) | decide)
    case mp => exact ⟨hcf, hs⟩
    · intro r2 nw2 h2 tk2 hok F2 N2 hp
      k_steps
      refine hQ _ _ ?_
      k_steps
      exact post _ _ _ _ (by assumption) (by assumption) hp
    · intro g3 e3 led3 h3 tk3 hno F3 R3 U3 hl3
      exact absurd trivial hno
  | k4 =>
    k_steps
    refine ⟨?_⟩
    refine' MutSpecX.use (mk_LeafNode w x c pn on kn vn (.int page t2) nx .none [] (· = nx) True _ _ hc .no (.inl ⟨rfl, rfl, rfl⟩)) ?mB ?mF ?mX ?mN ?mT ?mhd ?mhu ?mp ?_ ?_
    (case mB => k_asm); (case mF => k_asm); (case mX => k_asm); (case mN => k_asm); (case mT => k_asm); (case mhd => first | exact room2 (by assumption) (by rfl) | exact room1 (by assumption) (by rfl) | exact room3 (by assumption) (by rfl) | exact room4 (by assumption) (by rfl) | decide); (case mhu => first | exact room2 (by assumption) (by rfl) | exact room1 (by assumption) (by rfl) | exact room3 (by assumption) (by rfl) | exact room4 (by assumption) (by rfl) | decide)
    case mp => exact ⟨hcf, hs⟩
    · intro r2 nw2 h2 tk2 hok F2 N2 hp
      k_steps
      refine hQ _ _ ?_
      k_steps
      exact post _ _ _ _ (by assumption) (by assumption) hp
    · intro g3 e3 led3 h3 tk3 hno F3 R3 U3 hl3
      exact absurd trivial hno
end Mine
end

section
open PySem PySem.W PyProof.Rows
/-- between two texts: the walk forgets the lines of the text before, as a fresh process has none -/
theorem Mine.calm152 : ∀ (prog : Program) (w : World) (A : Around) (env : Env) (E : Value → Shared → Prop) (s : Shared) (Q : Flow → Shared → Prop), Q .next s → wpAny (model prog w) A (execs [] env) Q E s := by
  w_top off
  intro prog w A env E s Q h
  walk1
  exact h
end

section
open PySem PySem.W PyProof.Rows PySem.Calls
set_option Elab.async false
set_option linter.unusedSimpArgs false
set_option maxRecDepth 100000
set_option maxHeartbeats 4000000
namespace Mine
/-- the ground under a frame, which a caught exception may have turned -/
structure Gr (w : World) (mean : ExcName → Option Value) (mg mb : Str → Option Value) (outer : List Env) (A₀ : Around) (base g₀ h₀ : Heap) : Prop where
  T : KtsTurn (outer.filterMap (·.frame)) g₀ h₀
  B : Below A₀ base outer h₀
  X : (hd.heap_1 w.params).In h₀
  P : Top vw lsw mean mg mb h₀
  D : KtsDicts (outer.filterMap (·.frame)) h₀
/-- the tree t at any frame of the text's own: it may change the ledger, and may catch -/
def TurnSpec (w : World) (t : Sem Value) (cost : Nat) (Pre : Led → Prop) (Post : Value → Led → Led → Prop) : Prop :=
  ∀ (mean : ExcName → Option Value) (mg mb : Str → Option Value) (dp un : Nat) (gd : Option (List Code)) (cn : Str) (nms : List (Str × NameKind)) (ig ic : Bool) (mo : List (Str × Const)) (a : Addr) (ccd : Value) (cl : List (Str × Addr)) (outer : List Env) (A₀ : Around) (base g₀ h₀ : Heap) (L : Addr)
    (m : Str → Option Value) (news : Led) (s : Shared) (Q E : Value → Shared → Prop),
    (hd.heap_1 w.params).In base → Top vw lsw mean mg mb base → Gr w mean mg mb outer A₀ base g₀ h₀ → Fr h₀ L s.heap m → News h₀ L s.heap news → dp + cost < 400 → un + 8 * cost < 5000 → Pre news →
    (∀ r news' h₀' h' tk', Gr w mean mg mb outer A₀ base g₀ h₀' → Fr h₀' L h' m → News h₀' L h' news' → Post r news news' → Q r { s with heap := h', toks := tk' }) →
    wpAny (model PySem.Challenge.rw_ke0002_01.row.prog w) (ktrTop dp un gd cn ⟨.function, nms, ig, ic, mo⟩ L a ccd cl outer) t Q E s
theorem TurnSpec.use {w : World} {t : Sem Value} {cost : Nat} {Pre : Led → Prop} {Post : Value → Led → Led → Prop} (S : TurnSpec w t cost Pre Post)
    {mean : ExcName → Option Value} {mg mb : Str → Option Value} {dp un : Nat} {gd : Option (List Code)} {cn : Str} {nms : List (Str × NameKind)} {ig ic : Bool} {mo : List (Str × Const)} {a : Addr} {ccd : Value} {cl : List (Str × Addr)} {outer : List Env} {A₀ : Around} {base g₀ h₀ : Heap} {L : Addr}
    {m : Str → Option Value} {news : Led} {s : Shared} {hs : Heap} {ks : Nat} {Q E : Value → Shared → Prop}
    (XB : (hd.heap_1 w.params).In base) (TB : Top vw lsw mean mg mb base) (T0 : KtsTurn (outer.filterMap (·.frame)) g₀ h₀) (D : KtsDicts (outer.filterMap (·.frame)) h₀)
    (B : Below A₀ base outer h₀) (F : Fr h₀ L hs m) (X : (hd.heap_1 w.params).In h₀) (N : News h₀ L hs news) (T : Top vw lsw mean mg mb h₀) (hdd : dp + cost < 400) (hu : un + 8 * cost < 5000) (pre : Pre news)
    (k : ∀ r news' h₀' h' tk', KtsTurn (outer.filterMap (·.frame)) g₀ h₀' → Below A₀ base outer h₀' → (hd.heap_1 w.params).In h₀' → Top vw lsw mean mg mb h₀' → KtsDicts (outer.filterMap (·.frame)) h₀' → Fr h₀' L h' m → News h₀' L h' news' → Post r news news' → Q r { s with heap := h', toks := tk' }) :
    wpAny (model PySem.Challenge.rw_ke0002_01.row.prog w) (ktrTop dp un gd cn ⟨.function, nms, ig, ic, mo⟩ L a ccd cl outer) t Q E { s with heap := hs, toks := ks } :=
  S mean mg mb dp un gd cn nms ig ic mo a ccd cl outer A₀ base g₀ h₀ L m news { s with heap := hs, toks := ks } Q E XB TB ⟨T0, B, X, T, D⟩ F N hdd hu pre fun r news' h₀' h' tk' G F' N' p => k r news' h₀' h' tk' G.T G.B G.X G.P G.D F' N' p
theorem TreeSpec.turn {w : World} {t : Sem Value} {cost : Nat} {Pre : Led → Prop} {Post : Value → Led → Led → Prop} (S : TreeSpec w t cost Pre Post) : TurnSpec w t cost Pre (fun r news news' => ∃ tl, news' = tl ++ news ∧ Apart tl news ∧ Post r news tl) :=
  fun mean mg mb dp un gd cn nms ig ic mo a ccd cl outer A₀ base g₀ h₀ L m news s Q E _ _ G F N hdd hu pre k =>
    S mean mg mb dp un gd cn nms ig ic mo a ccd cl outer A₀ base h₀ L m news s Q E G.B F G.X N G.P hdd hu pre fun r tl h' tk' F' N' ap p => k r _ h₀ h' tk' G F' N' ⟨tl, rfl, ap, p⟩
theorem MutSpec.turn {w : World} {t : Sem Value} {cost : Nat} {Pre : Led → Prop} {Post : Value → Led → Led → Prop} (S : MutSpec w t cost Pre Post) : TurnSpec w t cost Pre Post :=
  fun mean mg mb dp un gd cn nms ig ic mo a ccd cl outer A₀ base g₀ h₀ L m news s Q E _ _ G F N hdd hu pre k =>
    S mean mg mb dp un gd cn nms ig ic mo a ccd cl outer A₀ base h₀ L m news s Q E G.B F G.X N G.P hdd hu pre fun r news' h' tk' F' N' p => k r _ h₀ h' tk' G F' N' p
end Mine
end

section
open PySem PySem.W PyProof.Rows
/-- between two texts: the walk forgets the lines of the text before, as a fresh process has none -/
theorem Mine.calm154 : ∀ (prog : Program) (w : World) (A : Around) (env : Env) (E : Value → Shared → Prop) (s : Shared) (Q : Flow → Shared → Prop), Q .next s → wpAny (model prog w) A (execs [] env) Q E s := by
  w_top off
  intro prog w A env E s Q h
  walk1
  exact h
end

section
open PySem PySem.W PyProof.Rows PySem.Calls
set_option Elab.async false
set_option linter.unusedSimpArgs false
set_option maxRecDepth 100000
set_option maxHeartbeats 4000000
namespace Mine
--
local macro_rules | `(tactic| walk_at "call ref") => `(tactic| refine' Held.out ?_)
local macro_rules | `(tactic| walk_at "call type:bytes") => `(tactic| refine' Held.out ?_)
theorem no_more {l : List Int} {n : Nat} (h : l.length + 1 = n) : ¬ ((l ++ [0]).length + 1 = n) := by
  rw [List.length_append, List.length_singleton, h]
  exact Nat.succ_ne_self n
theorem no_less {l : List Int} {n : Nat} (h : l.length + 1 = n) (h0 : 0 < l.length) : ¬ ((l.take (l.length - 1)).length + 1 = n) := by
  rw [List.length_take, ← h, Nat.min_eq_left (Nat.sub_le _ _)]
  exact fun e => Nat.ne_of_lt (Nat.sub_lt h0 (Nat.succ_pos 0)) (Nat.succ.inj e)
theorem take_cons1 {k : Int} {l : List Int} (h : 0 < l.length) : List.take ((k :: l).length - 1) (k :: l) = k :: l.take (l.length - 1) := by
  cases l with
  | nil => exact absurd h (Nat.lt_irrefl 0)
  | cons a r => rfl
theorem lawrefused (w : World) (x D : Addr) (c : Cf) (pn on kn vn : Nat) (n : Nat) (k0 : Int) (l : List Int) (hc : Cf1 c pn on kn vn) (hin : KBa.In (k0 :: l)) (hz : n ≤ 900) (hno : ¬ ((1 ≤ k0 ∧ k0 ≤ 4) ∧ l.length + 1 = pn)) :
    TurnSpec w (call (.ref 740) [.ref x, .ref D]) 88 (fun news => confIs x c.vals news ∧ serIs c.ser news ∧ LI news D (k0 :: l) n) (fun r news news' => r = Value.bool true ∧ news' = news) := by
  unfold TurnSpec
  k_fill
  intro mean mg mb dp un gd cn nms ig ic mo a ccd cl outer A₀ base g₀ h₀ L m news s Q E XB TB gr0 F N hdp hun pre0 post
  obtain ⟨T0, B, X, T, D9⟩ := gr0
  obtain ⟨hcf, hs, hD⟩ := pre0
  refine wpAny_call ?_
  k_dflt (refine' code_turn ?k1 ?k2 ?k3 ?k4 ?k5 ?XB ?TB ?D ?T0 ?kA ?kF ?kK ?k6 ?k7 ?k8 ?k9 ?kB ?_ ?c5 ?c2 ?c3 ?c4; (case kA => exact rfl); (case kF => exact rfl); (case kK => exact rfl); (case k2 => k_asm); (case k1 => k_asm); (case XB => assumption); (case TB => assumption); (case D => assumption); (case T0 => first | assumption | exact KtsTurn.refl); (case k3 => k_asm); (case k4 => k_asm); (case k5 => k_asm); (case k6 => k_is); (case k7 => k_is); (case k8 => k_room); (case k9 => first | exact binds_K (by k_in) rfl (by k_is) rfl rfl rfl | exact BindsTo.of_eq rfl); (case kB => exact locs rfl); (case c5 => decide); (case c2 => exact rfl); (case c3 => exact rfl); (case c4 => exact rfl); k_whole; intro g' L' h' FG' F' N' B' X' T' D' Qb hQ; (try dsimp only); (try k_lift B'); (try k_fold))
  refine letA ?_
  intro A1
  refine letE ?_
  intro e1
  refine wpAny_execs_cons (wpAny_Try_except ?_)
  k_steps
  refine ⟨?_⟩
  rename News _ _ _ _ => N7
  refine make_L (by assumption) N7 rfl (hD.up fun q hq => .tail _ hq) hin (Nat.le_trans hz (by decide)) ?_
  intro b h8 t8 k8 hb F8 N8
  have z : b.size = l.length + 1 := bInts_size hb
  dsimp only
  k_steps
  refine ⟨?_⟩
  refine call_meth N8 (.head _) ?_
  refine' CodeSpecX.use (from_page_no w x c pn on kn vn k0 _ _ _ l hc (hin _ (.head _)).1 (hin _ (.head _)).2 (by rw [z]; exact Nat.le_trans hD.len (Nat.le_trans hz (by decide))) hb (by rw [z]; exact hno)) ?hh ?hA ?hf ?hke ?mB ?mF ?mX ?mN ?mT ?mhd ?mhu ?mp ?_ ?_
  (case hA => exact Around.frames_deeper (Below.stack (by assumption))); (case hf => exact rfl); (case hke => exact rfl); (case hh => first | exact hh | exact rfl); (case mB => assumption); (case mF => assumption); (case mX => assumption); (case mN => assumption); (case mT => assumption); (case mhd => first | exact room2 (by assumption) (by rfl) | exact room1 (by assumption) (by rfl) | exact room3 (by assumption) (by rfl) | exact room4 (by assumption) (by rfl)); (case mhu => first | exact room2 (by assumption) (by rfl) | exact room1 (by assumption) (by rfl) | exact room3 (by assumption) (by rfl) | exact room4 (by assumption) (by rfl))
  case mp => exact ⟨hcf.sub fun q hq => .tail _ hq, hs.sub fun q hq => .tail _ hq⟩
  · intro r2 nw2 h2 tk2 hok
    exact hok.elim
  · intro g3 e3 led3 h3 tk3 hno3 F3 R3 U3 hl3
    refine caught_SN0 (T' := "AssertionError") R3 F3 B' U3 XB TB D' KtsTurn.refl (by k_is) PyProof.Rows.Boot.«AssertionError» (by decide) PySem.F.isExc_AssertionError PySem.F.notTuple_AssertionError (by rw [isSubtype_type]; kernel_rfl) ?_
    intro h7 g7 T7 F7 N10 B7 X7 P7 D7
    replace N10 : News g7 L' h7 news := news_sub N10 fun q hq => hl3 q (.tail _ hq)
    k_steps
    refine hQ _ _ ?_
    k_steps
    refine' post _ news _ _ _ ⟨?zt, ?zb, ?zx, ?zp, ?zd⟩ ?zf ?zn ⟨rfl, rfl⟩
    (case zf => assumption); (case zn => assumption); (case zb => assumption); (case zt => first | assumption | exact KtsTurn.refl); (case zx => assumption); (case zp => assumption); (case zd => assumption)
end Mine
end

section
open PySem PySem.W PyProof.Rows
/-- between two texts: the walk forgets the lines of the text before, as a fresh process has none -/
theorem Mine.calm156 : ∀ (prog : Program) (w : World) (A : Around) (env : Env) (E : Value → Shared → Prop) (s : Shared) (Q : Flow → Shared → Prop), Q .next s → wpAny (model prog w) A (execs [] env) Q E s := by
  w_top off
  intro prog w A env E s Q h
  walk1
  exact h
end

section
open PySem PySem.W PyProof.Rows PySem.Calls
set_option Elab.async false
set_option linter.unusedSimpArgs false
set_option maxRecDepth 100000
set_option maxHeartbeats 4000000
namespace Mine
local macro_rules | `(tactic| walk_at "MINE spec") => `(tactic| ((case mB | mF | mX | mN | mT => k_asm); (case mhd | mhu => k_units)))
local macro_rules | `(tactic| walk_at "getAttr ref") => `(tactic| (k_here; k_dflt (refine' (conf_one ?h).use0 ?mB ?mF ?mX ?mN ?mT ?mhd ?mhu ?mp ?_; (case h => with_reducible constructor); (walk_at "MINE spec"); (case mp => exact ⟨_, by k_mem, by k_mem⟩); intro h' tk' F' N'; (try k_sweep))))
local macro_rules | `(tactic| k_is) => `(tactic| (rename OneOf _ _ => q9; first | (clear q9; k_is) | (with_reducible first | apply q9.find4 | apply q9.over4 | apply q9.taker4 | apply q9.dict4 | apply q9.plain4 | apply q9.find2 | apply q9.over2 | apply q9.taker2 | apply q9.dict2 | apply q9.plain2 | apply q9.mro2) <;> k_is))
local macro_rules | `(tactic| k_all) => `(tactic| with_reducible assumption)
local macro_rules | `(tactic| walk_at "call ref") => `(tactic| refine' Held.out ?_)
local macro_rules | `(tactic| walk_at "binaryOp Mod int int") => `(tactic| refine' Held.out ?_)
local macro_rules | `(tactic| walk_at "binaryOp FloorDiv int int") => `(tactic| refine' Held.out ?_)
local macro_rules | `(tactic| walk_at "binaryOp Mult ref int") => `(tactic| refine' Held.out ?_)
local macro_rules | `(tactic| walk_at "binaryOp Add ref ref") => `(tactic| refine' Held.out ?_)
local macro_rules | `(tactic| walk_at "call builtin:len") => `(tactic| refine' Held.out ?_)
local macro_rules | `(tactic| walk_at "call type:bytes") => `(tactic| refine' Held.out ?_)
local macro_rules | `(tactic| walk_at "last subscriptTail") => `(tactic| refine' Held.out ?_)
/-- TurnSpec over calm stacks -/
def STurnSpec (w : World) (t : Sem Value) (cost : Nat) (Pre : Led → Prop) (Post : Value → Led → Led → Prop) : Prop :=
  ∀ (mean : ExcName → Option Value) (mg mb : Str → Option Value) (dp un : Nat) (gd : Option (List Code)) (cn : Str) (nms : List (Str × NameKind)) (ig ic : Bool) (mo : List (Str × Const)) (a : Addr) (ccd : Value) (cl : List (Str × Addr)) (outer : List Env) (A₀ : Around) (base g₀ h₀ : Heap) (L : Addr)
    (m : Str → Option Value) (news : Led) (s : Shared) (Q E : Value → Shared → Prop),
    (hd.heap_1 w.params).In base → Top vw lsw mean mg mb base → Gr w mean mg mb outer A₀ base g₀ h₀ → Fr h₀ L s.heap m → News h₀ L s.heap news → dp + cost < 400 → un + 8 * cost < 5000 → Pre news →
    (∀ r news' h₀' h' tk', Gr w mean mg mb outer A₀ base g₀ h₀' → Fr h₀' L h' m → News h₀' L h' news' → Post r news news' → Q r { s with heap := h', toks := tk' }) →
    wpS (model PySem.Challenge.rw_ke0002_01.row.prog w) (ktrTop dp un gd cn ⟨.function, nms, ig, ic, mo⟩ L a ccd cl outer) t Q E s
theorem SSpec.use {w : World} {t : Sem Value} {cost : Nat} {Pre : Led → Prop} {Ok : Prop} {Post : Value → Led → Led → Prop} (S : SSpec w t cost Pre Ok Post)
    {mean : ExcName → Option Value} {mg mb : Str → Option Value} {dp un : Nat} {gd : Option (List Code)} {cn : Str} {nms : List (Str × NameKind)} {ig ic : Bool} {mo : List (Str × Const)} {a : Addr} {ccd : Value} {cl : List (Str × Addr)} {outer : List Env} {A₀ : Around} {base h₀ : Heap} {L : Addr}
    {m : Str → Option Value} {news : Led} {s : Shared} {hs : Heap} {ks : Nat} {Q E : Value → Shared → Prop}
    (B : Below A₀ base outer h₀) (F : Fr h₀ L hs m) (X : (hd.heap_1 w.params).In h₀) (N : News h₀ L hs news) (T : Top vw lsw mean mg mb h₀) (hd : dp + cost < 400) (hu : un + 8 * cost < 5000) (pre : Pre news)
    (k : ∀ r news' h' tk', Ok → Fr h₀ L h' m → News h₀ L h' news' → Post r news news' → Q r { s with heap := h', toks := tk' })
    (k2 : ∀ g e led h' tk', ¬ Ok → Fr h₀ L g m → RaisedSN base g (envX cn ⟨.function, nms, ig, ic, mo⟩ L a ccd cl :: outer) e (.type "AssertionError") led h' → g.UpToSlots h' → (∀ q ∈ news, q ∈ led) → E (.ref e) { s with heap := h', toks := tk' }) :
    wpS (model PySem.Challenge.rw_ke0002_01.row.prog w) (ktrTop dp un gd cn ⟨.function, nms, ig, ic, mo⟩ L a ccd cl outer) t Q E { s with heap := hs, toks := ks } :=
  S mean mg mb dp un gd cn nms ig ic mo a ccd cl outer A₀ base h₀ L m news { s with heap := hs, toks := ks } Q E B F X N T hd hu pre k k2
theorem bneL_no {l : List UInt8} {G : Prop} (h : (l != l) = true) : G := by simp at h
theorem RowIs.fresh {D D' : Addr} {a b : Led} {v : Value} {r : Row} (h : RowIs D a v r) (s : ∀ q ∈ a, q ∈ b) (f : ∀ q ∈ a, q.1 ≠ D') : RowIs D' b v r := by
  cases h with
  | rf h => exact .rf (s _ h)
  | rc h hl hv hD => exact .rc (s _ h) (s _ hl) hv (f _ hl)
theorem octs_len (kd : Int) (kn vn : Nat) (rows : List Row) (av : Int) : (octsOf kd kn vn rows av).length = 8 + (bodyOcts kn vn rows).length := by
  unfold octsOf
  simp only [List.length_append, low_len, List.length_singleton]
theorem kind_all (c : Cf) {kd : Int} (h0 : 1 ≤ kd) (h1 : kd ≤ 4) : ∃ rec C mn mx, KindB rec kd ∧ KindOf c kd C (ecOf rec) mn mx := by
  rcases four h0 h1 with rfl | rfl | rfl | rfl
  · exact ⟨true, _, _, _, .k1, .k1⟩
  · exact ⟨false, _, _, _, .k2, .k2⟩
  · exact ⟨false, _, _, _, .k3, .k3⟩
  · exact ⟨true, _, _, _, .k4, .k4⟩
theorem RowIs.keep {D : Addr} {a b : Led} {v : Value} {r : Row} (h : RowIs D a v r) (s : ∀ q ∈ a, (q.1 ≠ D ∨ ∀ l n, q.2 ≠ lst l n) → q ∈ b) : RowIs D b v r := by
  have tl : ∀ (l : List Value) (vs : List Value) (n : Nat), tup l ≠ lst vs n := fun l vs n e => absurd (congrArg Obj.cls e) (show ¬Value.type "tuple" = Value.type "list" by decide)
  cases h with
  | rf h => exact .rf (s _ h (.inr fun l n => tl _ _ _))
  | rc h hl hv hD => exact .rc (s _ h (.inr fun l n => tl _ _ _)) (s _ hl (.inl hD)) hv hD
theorem lawone (w : World) (x : Addr) (c : Cf) (pn on kn vn : Nat) (n : Int) (t : Tok) (hc : Cf1 c pn on kn vn) :
    STurnSpec w (call (.ref 747) [.ref x, .int n t]) 94 (fun news => confIs x c.vals news ∧ serIs c.ser news) (fun r news news' => r = Value.bool true ∧ ∀ q ∈ news, q ∈ news') := by
  unfold STurnSpec
  k_fill
  intro mean mg mb dp un gd cn nms ig ic mo a ccd cl outer A₀ base g₀ h₀ L m news s Q E XB TB gr0 F N hdp hun pre0 post
  obtain ⟨T0, B, X, T, D9⟩ := gr0
  obtain ⟨⟨dc, hc1, hc2⟩, hser⟩ := pre0
  refine wpS_call ?_
  k_dflt (refine' codeS_turn ?k1 ?k2 ?k3 ?k4 ?k5 ?XB ?TB ?D ?T0 ?kA ?kF ?kK ?k6 ?k7 ?k8 ?k9 ?kB ?_ ?c5 ?c2 ?c3 ?c4; (case kA => exact rfl); (case kF => exact rfl); (case kK => exact rfl); (case k2 => k_asm); (case k1 => k_asm); (case XB => assumption); (case TB => assumption); (case D => assumption); (case T0 => first | assumption | exact KtsTurn.refl); (case k3 => k_asm); (case k4 => k_asm); (case k5 => k_asm); (case k6 => k_is); (case k7 => k_is); (case k8 => k_room); (case k9 => first | exact binds_K (by k_in) rfl (by k_is) rfl rfl rfl | exact BindsTo.of_eq rfl); (case kB => exact locs rfl); (case c5 => decide); (case c2 => exact rfl); (case c3 => exact rfl); (case c4 => exact rfl); k_whole; intro g' L' h' FG' F' N' B' X' T' D' Qb hQ; (try dsimp only))
  refine letSA ?_
  intro A1
  refine letSE ?_
  intro e1
  have hod := hc.od
  have ho1 := hc.o1
  have ho2 := hc.o2
  obtain ⟨kd, hkd⟩ : ∃ kd : Int, kd = 1 + n.fmod 4 := ⟨_, rfl⟩
  obtain ⟨m0, hm0⟩ : ∃ m0 : Int, m0 = n.fdiv 4 := ⟨_, rfl⟩
  have f0 := Int.fmod_nonneg_of_pos n (b := 4) (by decide)
  have f1 := Int.fmod_lt_of_pos n (b := 4) (by decide)
  have hkd1 : 1 ≤ kd := hkd ▸ Int.le_add_of_nonneg_right f0
  have hkd4 : kd ≤ 4 := by rw [hkd, Int.add_comm]; exact f1
  have hkdb : 0 ≤ kd ∧ kd < 256 := ⟨Int.le_trans (by decide) hkd1, Int.lt_of_le_of_lt hkd4 (by decide)⟩
  have hkl : KTBy.little 1 kd = [kd] := by show [kd % 256] = [kd]; rw [Int.emod_eq_of_lt hkdb.1 hkdb.2]
  obtain ⟨rec, C, mn, mx, hkB, hK⟩ := kind_all c hkd1 hkd4
  have g0 := Int.fmod_nonneg_of_pos m0 (b := c.od - 1 + 1) (by omega)
  have g1 := Int.fmod_lt_of_pos m0 (b := c.od - 1 + 1) (by omega)
  obtain ⟨k, hk⟩ : ∃ k : Nat, m0.fmod (c.od - 1 + 1) = (k : Nat) := ⟨_, (Int.toNat_of_nonneg g0).symm⟩
  have hk8 : k ≤ 8 := by omega
  have hfit := rows_fit (rec := rec) (m := m0) (kn := kn) (vn := vn) (k := k) hk8 hc.k1 hc.v2
  have hrl := rows_len rec m0 vn k
  generalize hrows : rowsOf rec m0 vn k = rows at *
  refine cutSn (fun X => ∀ h tk m nw D us nu s1 s2, (Fr g' L' h m) → (News g' L' h nw) → (∀ q ∈ news, q ∈ nw) → ((D, lst us nu) ∈ nw) → (All2 (RowIs D nw) us rows) → (m "conf" = some (.ref x)) → (m "kind" = some (.int kd s1)) → (m "m" = some (.int m0 s2)) → (m "rows" = some (.ref D)) → X h tk) (l1 := [_, _, _, _]) (l2 := _) rfl ?rows ?rest1
  case rows =>
    subst hkd hm0
    intro Qb hQ
    k_steps
    refine ⟨?_⟩
    refine mod_int (by decide) ?_
    dsimp only
    k_steps
    refine ⟨?_⟩
    refine floordiv_int (by decide) ?_
    dsimp only
    k_steps
    refine ⟨?_⟩
    refine mod_int (by omega) ?_
    dsimp only
    rw [hk]
    k_steps
    refine ⟨?_⟩
    refine' MutSpec.use (lawrows w x c pn on kn vn rec _ _ k _ _ _ hc hk8 hkB) ?mB ?mF ?mX ?mN ?mT ?mhd ?mhu ?mp ?_
    (case mB => k_asm); (case mF => k_asm); (case mX => k_asm); (case mN => k_asm); (case mT => k_asm); (case mhd => first | exact room2 (by assumption) (by rfl) | exact room1 (by assumption) (by rfl) | exact room3 (by assumption) (by rfl) | exact room4 (by assumption) (by rfl) | decide); (case mhu => first | exact room2 (by assumption) (by rfl) | exact room1 (by assumption) (by rfl) | exact room3 (by assumption) (by rfl) | exact room4 (by assumption) (by rfl) | decide)
    case mp => exact ⟨dc, hc1, hc2⟩
    intro r1 nw1 h1 tk1 F1 N1 hp1
    obtain ⟨D, us, nu, rfl, hD, hrw, kp, hnD⟩ := hp1
    rw [hrows] at hrw
    k_steps
    exact hQ _ _ _ _ D us nu _ _ (by assumption) (by assumption) kp hD hrw rfl rfl rfl rfl
  case rest1 =>
    clear F' N'
    intro h tk m1 nw1 D us nu s1 s2 F1 N1 kp1 hD hrw b1 b2 b3 b4
    obtain ⟨page, hpage⟩ : ∃ page : Int, page = (m0.fdiv 3).fmod 1000 := ⟨_, rfl⟩
    obtain ⟨av, hav⟩ : ∃ av : Int, av = if kd = 4 then (m0.fdiv 7).fmod 5 * 70000 else 0 := ⟨_, rfl⟩
    have a0 := Int.fmod_nonneg_of_pos (m0.fdiv 7) (b := 5) (by decide)
    have a1 := Int.fmod_lt_of_pos (m0.fdiv 7) (b := 5) (by decide)
    have hav0 : 0 ≤ av ∧ av < 256 ^ 4 := by
      rw [hav]
      split
      · exact ⟨Int.mul_nonneg a0 (by decide), Int.lt_of_le_of_lt (Int.mul_le_mul_of_nonneg_right (Int.le_of_lt a1) (by decide)) (by decide)⟩
      · decide
    have hav4 : kd ≠ 4 → av = 0 := fun e => by rw [hav, if_neg e]
    have hc1' := kp1 _ hc1
    have hc2' := kp1 _ hc2
    refine cutSn (fun X => ∀ h tk m s3 s4, (Fr g' L' h m) → (News g' L' h nw1) → (m "conf" = some (.ref x)) → (m "kind" = some (.int kd s1)) → (m "m" = some (.int m0 s2)) → (m "rows" = some (.ref D)) → (m "page" = some (.int page s3)) → (m "ahead" = some (.int av s4)) → X h tk) (l1 := [_, _]) (l2 := _) rfl ?page ?rest2
    case page =>
      subst hpage
      intro Qb hQ
      k_steps
      refine ⟨?_⟩
      refine floordiv_int (by decide) ?_
      dsimp only
      k_steps
      refine ⟨?_⟩
      refine mod_int (by decide) ?_
      dsimp only
      k_steps
      · refine ⟨?_⟩
        refine floordiv_int (by decide) ?_
        dsimp only
        k_steps
        refine ⟨?_⟩
        refine mod_int (by decide) ?_
        dsimp only
        rw [if_pos (by assumption)] at hav
        subst hav
        k_steps
        exact hQ _ _ _ _ _ (by assumption) (by assumption) (by exact b1) (by exact b2) (by exact b3) (by exact b4) rfl rfl
      · rw [if_neg (by assumption)] at hav
        subst hav
        exact hQ _ _ _ _ _ (by assumption) (by assumption) (by exact b1) (by exact b2) (by exact b3) (by exact b4) rfl rfl
    case rest2 =>
      clear F1 N1
      intro h tk m2 s3 s4 F2 N2 d1 d2 d3 d4 d5 d6
      clear hav a0 a1 b1 b2 b3 b4
      refine cutSn (fun X => ∀ h tk m nw2 y le n0 k1 k2 k3 nx, (Fr g' L' h m) → (News g' L' h nw2) → (∀ q ∈ nw1, q ∈ nw2) → ((av = 0 ∧ nx = .none) ∨ (av ≠ 0 ∧ ∃ t, nx = .int av t)) → (nodeIs w C y le x (.int kd k1) (.int mn k2) (.int mx k3) (ecOf rec) (.int page s3) .none nx nw2) → ((le, lst [] n0) ∈ nw2) → (∀ q ∈ nw1, q.1 ≠ le) → (m "conf" = some (.ref x)) → (m "kind" = some (.int kd s1)) → (m "m" = some (.int m0 s2)) → (m "rows" = some (.ref D)) → (m "page" = some (.int page s3)) → (m "ahead" = some (.int av s4)) → (m "node" = some (.ref y)) → X h tk) (l1 := [_]) (l2 := _) rfl ?node ?rest3
      case node =>
        intro Qb hQ
        have fin : ∀ (nx : Value), ((av = 0 ∧ nx = .none) ∨ (av ≠ 0 ∧ ∃ t, nx = .int av t)) → ∀ (r : Value) (nw : Led) (h : Heap) (tk : Nat) (m : Str → Option Value), MadeX w C x (ecOf rec) kn vn (.int page s3) [] (· = nx) kd mn mx r nw1 nw → Fr g' L' h (fun z => if z = "node" then some r else m2 z) → News g' L' h nw → Qb .next { s with heap := h, toks := tk } := by
          intro nx hnx r nw h tk m hp F N
          cases hp with
          | mk y dy le z1 z2 z3 nx' u1 u2 u3 u4 u5 u6 u7 u8 u9 n9 vs nn e h1 h2 h3 hv hl hd hk =>
          obtain rfl := e
          cases vs with
          | cons v vs => exact hv.elim
          | nil => exact hQ _ _ _ _ y le nn z1 z2 z3 _ F N hk hnx ⟨dy, u1, u2, u3, u4, u5, u6, u7, u8, u9, n9, h1, h2⟩ h3 hl (by exact d1) (by exact d2) (by exact d3) (by exact d4) (by exact d5) (by exact d6) rfl
        k_steps
        · refine ⟨?_⟩
          refine' MutSpec.use (law_node w x C (ecOf rec) c pn on kn vn kd mn mx page _ _ (.int av s4) hc hK (fun e => absurd (hav4 e) (by assumption))) ?mB ?mF ?mX ?mN ?mT ?mhd ?mhu ?mp ?_
          (case mB => k_asm); (case mF => k_asm); (case mX => k_asm); (case mN => k_asm); (case mT => k_asm); (case mhd => first | exact room2 (by assumption) (by rfl) | exact room1 (by assumption) (by rfl) | exact room3 (by assumption) (by rfl) | exact room4 (by assumption) (by rfl) | decide); (case mhu => first | exact room2 (by assumption) (by rfl) | exact room1 (by assumption) (by rfl) | exact room3 (by assumption) (by rfl) | exact room4 (by assumption) (by rfl) | decide)
          case mp => exact ⟨⟨dc, hc1', hc2'⟩, hser.sub kp1⟩
          intro r1 nw2 h1 tk1 F1 N1 hp1
          k_steps
          rename News _ _ _ _ => N7
          exact fin _ (.inr ⟨by assumption, _, rfl⟩) _ _ _ _ m2 hp1 (by assumption) N7
        · refine ⟨?_⟩
          refine' MutSpec.use (law_node w x C (ecOf rec) c pn on kn vn kd mn mx page _ _ .none hc hK (fun _ => rfl)) ?mB ?mF ?mX ?mN ?mT ?mhd ?mhu ?mp ?_
          (case mB => k_asm); (case mF => k_asm); (case mX => k_asm); (case mN => k_asm); (case mT => k_asm); (case mhd => first | exact room2 (by assumption) (by rfl) | exact room1 (by assumption) (by rfl) | exact room3 (by assumption) (by rfl) | exact room4 (by assumption) (by rfl) | decide); (case mhu => first | exact room2 (by assumption) (by rfl) | exact room1 (by assumption) (by rfl) | exact room3 (by assumption) (by rfl) | exact room4 (by assumption) (by rfl) | decide)
          case mp => exact ⟨⟨dc, hc1', hc2'⟩, hser.sub kp1⟩
          intro r1 nw2 h1 tk1 F1 N1 hp1
          k_steps
          rename News _ _ _ _ => N7
          exact fin _ (.inl ⟨by assumption, rfl⟩) _ _ _ _ m2 hp1 (by assumption) N7
      case rest3 =>
        clear F2 N2 d1 d2 d3 d4 d5 d6
        intro h tk m3 nw2 y le n0 k1 k2 k3 nx F3 N3 kp2 hnx hnode hle hfr d1 d2 d3 d4 d5 d6 d7
        have hC := (hK.cls hkB).any
        have hz8 : rows.length ≤ 8 := Nat.le_trans (Nat.le_of_eq hrl) hk8
        have hDle : D ≠ le := hfr _ hD
        have hrw2 : All2 (RowIs le nw2) us rows := hrw.imp fun _ _ h => by
          cases h with
          | rf h => exact .rf (kp2 _ h)
          | rc h hl hv hD => exact .rc (kp2 _ h) (kp2 _ hl) hv (hfr _ hl)
        have hc1'' := kp2 _ hc1'
        have hc2'' := kp2 _ hc2'
        refine cutSn (fun X => ∀ h tk m nw3 vs nn O, (Fr g' L' h m) → (News g' L' h nw3) → (∀ q ∈ nw2, q.1 ≠ le → q ∈ nw3) → (nodeIs w C y le x (.int kd k1) (.int mn k2) (.int mx k3) (ecOf rec) (.int page s3) .none nx nw3) → ((le, lst vs nn) ∈ nw3) → (EntRs w x nw3 vs rows) → (LI nw3 O (octsOf kd kn vn rows av) 168) → (m "conf" = some (.ref x)) → (m "kind" = some (.int kd s1)) → (m "m" = some (.int m0 s2)) → (m "rows" = some (.ref D)) → (m "page" = some (.int page s3)) → (m "ahead" = some (.int av s4)) → (m "node" = some (.ref y)) → (m "octets" = some (.ref O)) → X h tk) (l1 := [_, _, _]) (l2 := _) rfl ?fill ?rest4
        case fill =>
          intro Qb hQ
          k_steps
          refine ⟨?_⟩
          refine' MutSpec.use (lawfill w x y D le C c pn on kn vn rec kd _ us nu n0 rows (.int kd k1) (.int mn k2) (.int mx k3) (ecOf rec) (.int page s3) .none nx hc hkB hfit hz8 hC hDle) ?mB ?mF ?mX ?mN ?mT ?mhd ?mhu ?mp ?_
          (case mB => k_asm); (case mF => k_asm); (case mX => k_asm); (case mN => k_asm); (case mT => k_asm); (case mhd => first | exact room2 (by assumption) (by rfl) | exact room1 (by assumption) (by rfl) | exact room3 (by assumption) (by rfl) | exact room4 (by assumption) (by rfl) | decide); (case mhu => first | exact room2 (by assumption) (by rfl) | exact room1 (by assumption) (by rfl) | exact room3 (by assumption) (by rfl) | exact room4 (by assumption) (by rfl) | decide)
          case mp => exact ⟨⟨dc, hc1'', hc2''⟩, hnode, hle, kp2 _ hD, hrw2⟩
          intro r1 nw5 h1 tk1 F4 N4 hp1
          obtain ⟨rfl, vs, nn, hle5, hents5, k5⟩ := hp1
          have hcf5 : confIs x c.vals nw5 := ⟨dc, k5 _ hc1'' (news_ne N3 hc1'' hle fun e => by simp at e), k5 _ hc2'' (news_ne N3 hc2'' hle fun e => by simp [emptyDict] at e)⟩
          have hnode5 : nodeIs w C y le x (.int kd k1) (.int mn k2) (.int mx k3) (ecOf rec) (.int page s3) .none nx nw5 := by
            obtain ⟨dy, u1, u2, u3, u4, u5, u6, u7, u8, u9, n9, q1, q2⟩ := hnode
            exact ⟨dy, u1, u2, u3, u4, u5, u6, u7, u8, u9, n9, k5 _ q1 (news_ne N3 q1 hle fun e => nomatch congrArg Obj.cls e), k5 _ q2 (news_ne N3 q2 hle fun e => absurd (congrArg Obj.cls e) (show ¬Value.type "dict" = Value.type "list" by decide))⟩
          have hrw5 : All2 (RowIs le nw5) us rows := hrw2.imp fun _ _ h => h.keep fun q hq hn => k5 q hq (hn.elim id fun e => news_ne N3 hq hle (e _ _))
          have hD5 := k5 _ (kp2 _ hD) hDle
          k_steps
          refine ⟨?_⟩
          refine' MutSpec.use (lawsame w C y le x D c pn on kn vn rec kd mn mx page av _ _ _ (ecOf rec) us nu rows hc hK hkB hfit hz8) ?mB ?mF ?mX ?mN ?mT ?mhd ?mhu ?mp ?_
          (case mB => k_asm); (case mF => k_asm); (case mX => k_asm); (case mN => k_asm); (case mT => k_asm); (case mhd => first | exact room2 (by assumption) (by rfl) | exact room1 (by assumption) (by rfl) | exact room3 (by assumption) (by rfl) | exact room4 (by assumption) (by rfl) | decide); (case mhu => first | exact room2 (by assumption) (by rfl) | exact room1 (by assumption) (by rfl) | exact room3 (by assumption) (by rfl) | exact room4 (by assumption) (by rfl) | decide)
          case mp => exact ⟨hcf5, ⟨⟨k1, k2, k3, s3, .none, nx, hnx, hnode5⟩, vs, nn, hle5, hents5⟩, hD5, hrw5⟩
          intro r2 nw6 h2 tk2 F5 N5 hp2
          obtain ⟨rfl, k6⟩ := hp2
          k_steps
          refine ⟨?_⟩
          refine' MutSpec.use (lawoctets w x D c pn on kn vn rec kd av _ _ us nu rows hc hkB (fun r hr => fit_ok (hfit r hr)) hz8) ?mB ?mF ?mX ?mN ?mT ?mhd ?mhu ?mp ?_
          (case mB => k_asm); (case mF => k_asm); (case mX => k_asm); (case mN => k_asm); (case mT => k_asm); (case mhd => first | exact room2 (by assumption) (by rfl) | exact room1 (by assumption) (by rfl) | exact room3 (by assumption) (by rfl) | exact room4 (by assumption) (by rfl) | decide); (case mhu => first | exact room2 (by assumption) (by rfl) | exact room1 (by assumption) (by rfl) | exact room3 (by assumption) (by rfl) | exact room4 (by assumption) (by rfl) | decide)
          case mp => exact ⟨hcf5.sub k6, k6 _ hD5, hrw.imp fun _ _ h => h.sub fun q hq => k6 _ (k5 _ (kp2 _ hq) (hfr q hq))⟩
          intro r3 nw7 h3 tk3 F6 N6 hp3
          cases hp3 with
          | mk O hL k7 _ =>
          k_steps
          rename News _ _ _ _ => N7
          exact hQ _ _ _ _ vs nn O (by assumption) N7 (fun q hq hn => k7 _ (k6 _ (k5 q hq hn))) (hnode5.sub9 fun q hq => k7 _ (k6 _ hq)) (k7 _ (k6 _ hle5)) (hents5.imp fun _ _ ⟨a, e, h⟩ => ⟨a, e, h.sub fun q hq _ => k7 _ (k6 _ hq)⟩) hL (by exact d1) (by exact d2) (by exact d3) (by exact d4) (by exact d5) (by exact d6) (by exact d7) rfl
        case rest4 =>
          clear F3 N3 d1 d2 d3 d4 d5 d6 d7
          intro h tk m4 nw3 vs nn O F4 N4 kp3 hnode3 hle3 hents LO d1 d2 d3 d4 d5 d6 d7 d8
          have up1 : ∀ q ∈ nw1, q ∈ nw3 := fun q hq => kp3 _ (kp2 _ hq) (hfr q hq)
          have hcf3 : confIs x c.vals nw3 := ⟨dc, up1 _ hc1', up1 _ hc2'⟩
          have hser3 : serIs c.ser nw3 := hser.sub fun q hq => up1 _ (kp1 _ hq)
          have hD3 := up1 _ hD
          have hrw3 : All2 (RowIs D nw3) us rows := hrw.imp fun _ _ h => h.sub up1
          clear hnode hle hrw2 hc1'' hc2'' hc1' hc2' hD hrw kp2 hfr
          obtain ⟨body, hbody⟩ : ∃ b, bodyOcts kn vn rows = b := ⟨_, rfl⟩
          have holen : (octsOf kd kn vn rows av).length = body.length + 8 := by rw [octs_len, hbody, Nat.add_comm]
          refine nodeIs.elim hnode3 ?_
          intro dy u1 u2 u3 u4 u5 u6 u7 u8 u9 n9 hm hm'
          refine wpS_execs_cons (wpS_Try_except ?_)
          refine wpS_execs_cons (wpS_Assign_Name (wpS_Call_Name ?_))
          k_steps
          refine callWithS_type rfl (evalArgsS1 ?_)
          show wpS _ _ (eval _ _) _ _ _
          refine wpS_Call_attr rfl rfl rfl ?_
          k_steps
          refine callWithS_K0 (K := hd.heap_1 w.params) (by k_in) (by k_is) ?_
          show wpS _ _ (call (.ref 332) [.ref y]) _ _ _
          refine' SSpec.use (node_dump w C y le x c pn on kn vn kd k1 (.int mn k2) (.int mx k3) (ecOf rec) (ecOf rec) (.int page s3) .none nx av vs (rows.map (rowOcts kn vn)) nn hC hc hkdb ?hnx hav0 (by rw [hents.len]; exact hz8) ?hol) ?mB ?mF ?mX ?mN ?mT ?mhd ?mhu ?mp ?_ ?_
          case hnx => exact hnx.elim (fun q => .inl ⟨q.2, q.1⟩) fun q => .inr q.2
          case hol =>
            intro o ho
            obtain ⟨r, hr, rfl⟩ := List.mem_map.mp ho
            exact rowOcts_len hc.k2 hc.v2 (fit_ok (hfit r hr))
          (case mB => k_asm); (case mF => k_asm); (case mX => k_asm); (case mN => k_asm); (case mT => k_asm); (case mhd => first | exact room2 (by assumption) (by rfl) | exact room1 (by assumption) (by rfl) | exact room3 (by assumption) (by rfl) | exact room4 (by assumption) (by rfl) | decide); (case mhu => first | exact room2 (by assumption) (by rfl) | exact room1 (by assumption) (by rfl) | exact room3 (by assumption) (by rfl) | exact room4 (by assumption) (by rfl) | decide)
          case mp => exact ⟨hnode3, hle3, hcf3, hser3, ents_are hents hfit⟩
          · intro r5 nw5 h5 tk5 hok F5 N5 hp5
            obtain ⟨ba, b, rfl, hba, hb, kp5⟩ := hp5
            replace hok : body.length + 8 ≤ pn := hbody ▸ hok
            replace hb : KBw.bInts b = octsOf kd kn vn rows av ++ List.replicate (pn - (body.length + 8)) 0 := by
              rw [hb]
              show KTBy.little 1 kd ++ KTBy.little 3 ((bodyOcts kn vn rows).length + 4) ++ KTBy.little 4 av ++ bodyOcts kn vn rows ++ List.replicate (pn - ((bodyOcts kn vn rows).length + 8)) 0 = _
              unfold octsOf
              rw [hbody, hkl, little_low, little_low]
            have zpn : b.size = pn := (bInts_size hb).trans (by rw [List.length_append, List.length_replicate, holen]; exact Nat.add_sub_cancel' hok)
            refine wpS_of ?_
            show wpAny _ _ (call (.type "bytes") [.ref ba]) _ _ _
            have hp1000 : b.size ≤ 1000 := by rw [zpn]; exact Nat.le_of_lt (Nat.lt_trans hc.p2 (by decide))
            refine ba_bytes (N5 _ hba).1 hp1000 ?_
            intro bt bk
            dsimp only
            k_steps
            show wpS _ _ (execs [] e1) _ _ _
            refine wpS_of (wpAny_execs_nil ?_)
            show wpAny _ _ (execs [] e1) _ _ _
            refine wpAny_execs_nil ?_
            show wpS _ _ (execs _ e1) _ _ _
            refine wpS_of ?_
            rename Fr _ _ _ _ => F6
            rename News _ _ _ _ => N6
            have hcf5 := hcf3.sub kp5
            have LO5 := LO.up kp5
            obtain ⟨dc5, hc15, hc25⟩ := id hcf5
            refine cutn (fun X => ∀ h tk m nw6 O2, (Fr g' L' h m) → (News g' L' h nw6) → (∀ q ∈ nw5, q ∈ nw6) → (LI nw6 O2 (octsOf kd kn vn rows av ++ List.replicate (pn - (body.length + 8)) 0) 256) → (m "conf" = some (.ref x)) → (m "kind" = some (.int kd s1)) → (m "m" = some (.int m0 s2)) → (m "rows" = some (.ref D)) → (m "page" = some (.int page s3)) → (m "ahead" = some (.int av s4)) → (m "told" = some (.bytes b bt)) → (m "octets" = some (.ref O2)) → X h tk) (l1 := [_, _]) (l2 := _) rfl ?pad ?rest5
            case pad =>
              intro Qb hQ
              k_steps
              refine ⟨?_⟩
              rename News _ _ _ _ => N7
              refine len_S N7 (LO5.up fun q hq => .tail _ hq) (by decide) ?_
              intro t7 k7
              k_steps
              refine ⟨?_⟩
              rename Fr _ _ _ _ => F8
              rename News _ _ _ _ => N8
              refine zeros_L (j := pn - (body.length + 8)) (J := 88) F8 N8 (.head _) (by rw [hc.ps, holen]; exact (Int.ofNat_sub hok).symm) (Nat.le_trans (Nat.sub_le _ _) (Nat.le_of_lt hc.p2)) (by decide) ?_
              intro D9 h9 nw9 F9 N9 L9 k9 _
              k_steps
              refine ⟨?_⟩
              refine cat_S F9 N9 (LO5.up fun q hq => k9 _ (.tail _ hq)) L9 (by decide) ?_
              intro D10 h10 nw10 F10 N10 L10 k10 _
              k_steps
              refine ⟨?_⟩
              rename Fr _ _ _ _ => F11
              rename News _ _ _ _ => N11
              refine make_S F11 N11 rfl L10 hb (by decide) ?_
              intro h12 t12 k12 F12 N12
              k_steps
              · exact bneL_no (by assumption)
              · exact hQ _ _ _ _ D10 (by assumption) N12 (fun q hq => k10 _ (k9 _ (.tail _ hq))) L10 (by exact d1) (by exact d2) (by exact d3) (by exact d4) (by exact d5) (by exact d6) (by exact rfl) (by exact rfl)
            case rest5 =>
              clear F6 N6 d1 d2 d3 d4 d5 d6 d7 d8
              intro h tk m6 nw6 O2 F6 N6 kp6 LO2 d1 d2 d3 d4 d5 d6 d7 d8
              have up6 : ∀ q ∈ nw3, q ∈ nw6 := fun q hq => kp6 _ (kp5 _ hq)
              have hcf6 := hcf3.sub up6
              have hser6 := hser3.sub up6
              obtain ⟨dc6, hc16, hc26⟩ := id hcf6
              obtain ⟨el, hel⟩ := ents_of (kn := kn) (vn := vn) hfit
              have hnet : (octsOf kd kn vn rows av ++ List.replicate (pn - (body.length + 8)) 0) = kd :: ((low (body.length + 4) 3 ++ low av 4 ++ body) ++ List.replicate (pn - (body.length + 8)) 0) := by
                unfold octsOf
                rw [hbody]
                simp only [List.singleton_append, List.cons_append, List.nil_append, List.append_assoc]
              refine cutn (fun X => ∀ h tk m nw7, (Fr g' L' h m) → (News g' L' h nw7) → (∀ q ∈ nw6, q ∈ nw7) → (m "conf" = some (.ref x)) → (m "m" = some (.int m0 s2)) → (m "octets" = some (.ref O2)) → X h tk) (l1 := [_]) (l2 := _) rfl ?again ?rest6
              case again =>
                intro Qb hQ
                k_steps
                refine ⟨?_⟩
                rename News _ _ _ _ => N7
                have hb' := hb
                rw [hnet] at hb'
                have hoct : OctN pn kd av (rows.map (rowOcts kn vn)).flatten (List.replicate (pn - (body.length + 8)) 0) (KBw.bInts b) := by
                  refine ⟨?_, by rw [KBw.ints_length]; exact zpn, hav0.1, hav0.2⟩
                  rw [hb', show (rows.map (rowOcts kn vn)).flatten = body from hbody, hkl]
                  simp only [little_low, List.singleton_append, List.cons_append, List.nil_append, List.append_assoc]
                refine call_meth N7 (.head _) ?_
                refine' CodeSpecX.use (from_page w x C (ecOf rec) c pn on kn vn kd mn mx _ (rows.map (rowOcts kn vn)) _ _ b bt _ hc hkdb.1 hkdb.2 hp1000 (fun _ => hK) (fun _ => .oct (kd := kd) (nxt := av) (pad := List.replicate (pn - (body.length + 8)) 0) (by rw [zpn]; exact Nat.ne_of_gt (Nat.lt_of_lt_of_le (by decide) hc.p1)) hp1000 (fun _ => hoct) hel) hb') ?hh ?hA ?hf ?hke ?mB ?mF ?mX ?mN ?mT ?mhd ?mhu ?mp ?_ ?_
                (case hA => exact Around.frames_deeper (Below.stack (by assumption))); (case hf => exact rfl); (case hke => exact rfl); (case hh => first | exact hh | exact rfl); (case mB => assumption); (case mF => assumption); (case mX => assumption); (case mN => assumption); (case mT => assumption); (case mhd => first | exact room2 (by assumption) (by rfl) | exact room1 (by assumption) (by rfl) | exact room3 (by assumption) (by rfl) | exact room4 (by assumption) (by rfl)); (case mhu => first | exact room2 (by assumption) (by rfl) | exact room1 (by assumption) (by rfl) | exact room3 (by assumption) (by rfl) | exact room4 (by assumption) (by rfl))
                case mp => exact ⟨hcf6.sub fun q hq => .tail _ hq, hser6.sub fun q hq => .tail _ hq⟩
                · intro r8 nw8 h8 tk8 hok8 F8 N8 hp8
                  cases hp8 with
                  | mk y2 dy2 le2 z1 z2 z3 nx2 v1 v2 v3 v4 v5 v6 v7 v8 v9 n2 vs2 nn2 hnx2 q1 q2 q3 hv2 hl2 hd2 hk2 =>
                  have hents2 := lds_rows rfl hc.v2 hv2 hfit
                  have up8 : ∀ q ∈ nw6, q ∈ nw8 := fun q hq => hk2 _ (.tail _ hq)
                  k_steps
                  refine ⟨?_⟩
                  refine' MutSpec.use (lawsame w C y2 le2 x D c pn on kn vn rec kd mn mx page av _ _ _ (ecOf rec) us nu rows hc hK hkB hfit hz8) ?mB ?mF ?mX ?mN ?mT ?mhd ?mhu ?mp ?_
                  (case mB => k_asm); (case mF => k_asm); (case mX => k_asm); (case mN => k_asm); (case mT => k_asm); (case mhd => first | exact room2 (by assumption) (by rfl) | exact room1 (by assumption) (by rfl) | exact room3 (by assumption) (by rfl) | exact room4 (by assumption) (by rfl) | decide); (case mhu => first | exact room2 (by assumption) (by rfl) | exact room1 (by assumption) (by rfl) | exact room3 (by assumption) (by rfl) | exact room4 (by assumption) (by rfl) | decide)
                  case mp => exact ⟨hcf6.sub up8, ⟨⟨z1, z2, z3, s3, .none, nx2, hnx2, ⟨dy2, v1, v2, v3, v4, v5, v6, v7, v8, v9, n2, q1, q2⟩⟩, vs2, nn2, q3, hents2⟩, up8 _ (up6 _ hD3), hrw3.imp fun _ _ h => h.fresh (fun q hq => up8 _ (up6 _ hq)) fun q hq => hl2 q (.tail _ (up6 _ hq))⟩
                  intro r9 nw9 h9 tk9 F9 N9 hp9
                  obtain ⟨rfl, k9⟩ := hp9
                  k_steps
                  exact hQ _ _ _ _ (by assumption) (by assumption) (fun q hq => k9 _ (up8 _ hq)) (by exact d1) (by exact d3) (by exact d8)
                · intro g3 e3 led3 h3 tk3 hno3
                  exact absurd ⟨⟨hkd1, hkd4⟩, zpn⟩ hno3
              case rest6 =>
                clear F6 N6 d2 d4 d5 d6 d7
                intro h tk m7 nw7 F7 N7 kp7 d1 d3 d8
                have hnb := hb
                rw [hnet] at LO2 hnb
                obtain ⟨Tl, hTl⟩ : ∃ l, (low (body.length + 4) 3 ++ low av 4 ++ body) ++ List.replicate (pn - (body.length + 8)) 0 = l := ⟨_, rfl⟩
                rw [hTl] at LO2 hnb
                have zT : Tl.length + 1 = pn := (bInts_size hnb).symm.trans zpn
                have hT47 : 47 ≤ Tl.length := Nat.le_of_succ_le_succ (Nat.le_trans hc.p1 (Nat.le_of_eq zT.symm))
                have hT88 : Tl.length ≤ 88 := Nat.le_of_lt (Nat.lt_of_succ_lt (Nat.lt_of_le_of_lt (Nat.le_of_eq zT) hc.p2))
                have hin : KBa.In (kd :: Tl) := fun e he => KBw.ints_in (b := b) (by rw [hnb]; exact he)
                have LO7 := LO2.up kp7
                have hcf7 := hcf6.sub kp7
                have hser7 := hser6.sub kp7
                cases id LO7 with
                | mk uo7 no7 hO7 hi7 hl7 =>
                cases hi7 with
                | cons ko to ho3 =>
                rename_i uo3
                refine cutn (fun X => ∀ h tk m nw8 P, (Fr g' L' h m) → (News g' L' h nw8) → (∀ q ∈ nw7, q ∈ nw8) → (LI nw8 P ((5 + m0.fmod 252).fmod 256 :: Tl) 89) → (m "conf" = some (.ref x)) → (m "octets" = some (.ref O2)) → (m "other" = some (.ref P)) → X h tk) (l1 := [_]) (l2 := _) rfl ?other ?rest7
                case other =>
                  intro Qb hQ
                  k_steps
                  refine ⟨?_⟩
                  refine mod_int (by decide) ?_
                  dsimp only
                  k_steps
                  refine ⟨?_⟩
                  refine mod_int (by decide) ?_
                  dsimp only
                  k_steps
                  refine ⟨?_⟩
                  rename IntsAre _ _ => iI
                  rename Fr _ _ _ _ => F8
                  rename News _ _ _ _ => N8
                  refine cat_S F8 N8 (.mk _ _ (.tail _ (.head _)) (.cons _ _ .nil) (Nat.le_refl 1)) (.mk _ _ (.head _) iI (by rw [List.drop_one]; exact hT88)) (by decide) ?_
                  intro D9 h9 nw9 F9 N9 L9 k9 _
                  k_steps
                  exact hQ _ _ _ nw9 D9 (by assumption) (by assumption) (fun q hq => k9 _ (.tail _ (.tail _ hq))) L9 (by exact d1) (by exact d8) rfl
                case rest7 =>
                  clear F7 N7 d1 d3 d8
                  intro h tk m8 nw8 P F8 N8 kp8 LP d1 d8 d9
                  have f0' := Int.fmod_nonneg_of_pos m0 (b := 252) (by decide)
                  have f1' := Int.fmod_lt_of_pos m0 (b := 252) (by decide)
                  have e0 := Int.fmod_nonneg_of_pos (5 + m0.fmod 252) (b := 256) (by decide)
                  have e1' := Int.fmod_lt_of_pos (5 + m0.fmod 252) (b := 256) (by decide)
                  have hk4 : ¬ (1 ≤ (5 + m0.fmod 252).fmod 256 ∧ (5 + m0.fmod 252).fmod 256 ≤ 4) := by
                    rw [Int.fmod_eq_emod_of_nonneg _ (by decide)]
                    omega
                  k_steps
                  refine ⟨?_⟩
                  refine' TurnSpec.use (g₀ := g') (lawrefused w x P c pn on kn vn 89 _ Tl hc (fun e he => (List.mem_cons.mp he).elim (fun q => q ▸ ⟨e0, e1'⟩) fun q => hin e (.tail _ q)) (by decide) (fun q => hk4 q.1)) ?mXB ?mTB ?mT0 ?mD ?mB ?mF ?mX ?mN ?mT ?mhd ?mhu ?mp ?_
                  (case mB => k_asm); (case mF => k_asm); (case mX => k_asm); (case mN => k_asm); (case mT => k_asm); (case mhd => first | exact room2 (by assumption) (by rfl) | exact room1 (by assumption) (by rfl) | exact room3 (by assumption) (by rfl) | exact room4 (by assumption) (by rfl) | decide); (case mhu => first | exact room2 (by assumption) (by rfl) | exact room1 (by assumption) (by rfl) | exact room3 (by assumption) (by rfl) | exact room4 (by assumption) (by rfl) | decide)
                  (case mXB => assumption); (case mTB => assumption); (case mT0 => first | assumption | exact KtsTurn.refl); (case mD => assumption)
                  case mp => exact ⟨hcf7.sub kp8, hser7.sub kp8, LP⟩
                  intro r1 nw9 g2 h9 tk9 T9 B9 X9 P9 D8 F9 N9 hp9
                  obtain ⟨rfl, rfl⟩ := hp9
                  k_steps
                  refine ⟨?_⟩
                  rename Fr _ _ _ _ => F10
                  rename News _ _ _ _ => N10
                  refine cat_S F10 N10 (LO7.up fun q hq => .tail _ (kp8 _ hq)) (.mk _ _ (.head _) (.cons 0 _ .nil) (Nat.le_refl 1)) (by decide) ?_
                  intro D11 h11 nw11 F11 N11 L11 k11 _
                  have hO11 := k11 _ (.tail _ (kp8 _ hO7))
                  k_steps
                  refine ⟨?_⟩
                  rename Fr _ _ _ _ => F12
                  rename News _ _ _ _ => N12
                  have hin0 : KBa.In (kd :: (Tl ++ [0])) := fun e he => by
                    rcases List.mem_cons.mp he with rfl | he
                    · exact hin _ (.head _)
                    rcases List.mem_append.mp he with he | he
                    · exact hin e (.tail _ he)
                    · rw [List.mem_singleton.mp he]
                      decide
                  refine' TurnSpec.use (g₀ := g') (lawrefused w x D11 c pn on kn vn (256 + 1) kd (Tl ++ [0]) hc hin0 (by decide) (fun q => no_more zT q.2)) ?mXB ?mTB ?mT0 ?mD ?mB ?mF ?mX ?mN ?mT ?mhd ?mhu ?mp ?_
                  (case mB => k_asm); (case mF => k_asm); (case mX => k_asm); (case mN => k_asm); (case mT => k_asm); (case mhd => first | exact room2 (by assumption) (by rfl) | exact room1 (by assumption) (by rfl) | exact room3 (by assumption) (by rfl) | exact room4 (by assumption) (by rfl) | decide); (case mhu => first | exact room2 (by assumption) (by rfl) | exact room1 (by assumption) (by rfl) | exact room3 (by assumption) (by rfl) | exact room4 (by assumption) (by rfl) | decide)
                  (case mXB => assumption); (case mTB => assumption); (case mT0 => first | assumption | exact KtsTurn.refl); (case mD => assumption)
                  case mp => exact ⟨hcf7.sub fun q hq => k11 _ (.tail _ (kp8 _ hq)), hser7.sub fun q hq => k11 _ (.tail _ (kp8 _ hq)), L11⟩
                  intro r2 nw10 g3 h13 tk13 T13 B13 X13 P13 D13 F13 N13 hp13
                  obtain ⟨rfl, rfl⟩ := hp13
                  k_steps
                  refine ⟨?_⟩
                  rename_i D14 ws14 h14 F14 N14 iI c14 c15 l14
                  have hT0 := Nat.lt_of_lt_of_le (Nat.succ_pos 46) hT47
                  rw [take_cons1 hT0] at iI
                  refine' TurnSpec.use (g₀ := g') (lawrefused w x D14 c pn on kn vn 89 kd (Tl.take (Tl.length - 1)) hc (fun e he => hin e ((List.mem_cons.mp he).elim (fun q => q ▸ .head _) fun q => .tail _ (List.mem_of_mem_take q))) (by decide) (fun q => no_less zT hT0 q.2)) ?mXB ?mTB ?mT0 ?mD ?mB ?mF ?mX ?mN ?mT ?mhd ?mhu ?mp ?_
                  (case mB => k_asm); (case mF => k_asm); (case mX => k_asm); (case mN => k_asm); (case mT => k_asm); (case mhd => first | exact room2 (by assumption) (by rfl) | exact room1 (by assumption) (by rfl) | exact room3 (by assumption) (by rfl) | exact room4 (by assumption) (by rfl) | decide); (case mhu => first | exact room2 (by assumption) (by rfl) | exact room1 (by assumption) (by rfl) | exact room3 (by assumption) (by rfl) | exact room4 (by assumption) (by rfl) | decide)
                  (case mXB => assumption); (case mTB => assumption); (case mT0 => first | assumption | exact KtsTurn.refl); (case mD => assumption)
                  case mp => exact ⟨hcf7.sub fun q hq => .tail _ (k11 _ (.tail _ (kp8 _ hq))), hser7.sub fun q hq => .tail _ (k11 _ (.tail _ (kp8 _ hq))), .mk _ _ (.head _) iI (Nat.succ_le_succ (Nat.le_trans (List.length_take_le' _ _) hT88))⟩
                  intro r3 nw11 g4 h15 tk15 T15 B15 X15 P15 D15 F15 N15 hp15
                  obtain ⟨rfl, rfl⟩ := hp15
                  refine hQ _ _ ?_
                  k_steps
                  refine' post _ _ _ _ _ ⟨?zt, ?zb, ?zx, ?zp, ?zd⟩ ?zf ?zn ⟨rfl, ?zk⟩
                  (case zf => assumption); (case zn => assumption); (case zb => assumption); (case zt => first | assumption | exact KtsTurn.refl); (case zx => assumption); (case zp => assumption); (case zd => assumption)
                  case zk => exact fun q hq => .tail _ (k11 _ (.tail _ (kp8 _ (kp7 _ (up6 _ (up1 _ (kp1 _ hq)))))))
          · intro g6 e6 led6 h6 tk6 hno F6 R6 U6 hl6
            refine caught_SN0 (T' := "AssertionError") R6 F6 B' U6 XB TB D' KtsTurn.refl (by k_is) PyProof.Rows.Boot.«AssertionError» (by decide) PySem.F.isExc_AssertionError PySem.F.notTuple_AssertionError (by rw [isSubtype_type]; kernel_rfl) ?_
            intro h7 g7 T7 F7 N7 B7 X7 P7 D7
            replace N7 : News g7 L' h7 nw3 := news_sub N7 hl6
            replace hno : ¬ (body.length + 8 ≤ pn) := hbody ▸ hno
            k_steps
            refine ⟨?_⟩
            refine len_S N7 LO (by decide) ?_
            intro t7 k7
            k_steps
            refine' TreeSpecM.use (conf_oneM (w := w) (x := x) (c := c) CfA.ps) ?mB ?mF ?mX ?mN ?mT ?mhd ?mhu ?mp ?_
            (case mB => k_asm); (case mF => k_asm); (case mX => k_asm); (case mN => k_asm); (case mT => k_asm); (case mhd => first | exact room2 (by assumption) (by rfl) | exact room1 (by assumption) (by rfl) | exact room3 (by assumption) (by rfl) | exact room4 (by assumption) (by rfl) | decide); (case mhu => first | exact room2 (by assumption) (by rfl) | exact room1 (by assumption) (by rfl) | exact room3 (by assumption) (by rfl) | exact room4 (by assumption) (by rfl) | decide)
            case mp => exact hcf3
            intro r8 h8 tk8 F8 N8 e8
            subst e8
            k_steps
            rw [show decide (c.ps < ((octsOf kd kn vn rows av).length : Int)) = true by rw [decide_eq_true_eq, holen, hc.ps]; exact Int.ofNat_lt.mpr (Nat.lt_of_not_le hno)]
            refine hQ _ _ ?_
            k_steps
            refine' post _ nw3 _ _ _ ⟨?zt, ?zb, ?zx, ?zp, ?zd⟩ ?zf ?zn ⟨rfl, fun q hq => up1 _ (kp1 _ hq)⟩
            (case zf => assumption); (case zn => assumption); (case zb => assumption); (case zt => first | assumption | exact KtsTurn.refl); (case zx => assumption); (case zp => assumption); (case zd => assumption)
end Mine
end

section
open PySem PySem.W PyProof.Rows
/-- between two texts: the walk forgets the lines of the text before, as a fresh process has none -/
theorem Mine.calm158 : ∀ (prog : Program) (w : World) (A : Around) (env : Env) (E : Value → Shared → Prop) (s : Shared) (Q : Flow → Shared → Prop), Q .next s → wpAny (model prog w) A (execs [] env) Q E s := by
  w_top off
  intro prog w A env E s Q h
  walk1
  exact h
end

section
open PySem PySem.W PyProof.Rows PySem.Calls
set_option Elab.async false
set_option linter.unusedSimpArgs false
set_option maxRecDepth 100000
set_option maxHeartbeats 1000000
namespace Mine
--
local macro_rules | `(tactic| walk_at "call ref") => `(tactic| refine' Held.out ?_)
local macro_rules | `(tactic| k_qdec) => `(tactic| kernel_rfl)
theorem toNat_lo {x : Int} {c : Nat} (h : 0 ≤ x) : c ≤ ((c : Int) + x).toNat := by omega
theorem toNat_hi {x : Int} {c d : Nat} (h : 0 ≤ x) (h1 : x < d) : ((c : Int) + x).toNat < c + d := by omega
theorem ints_at : ∀ {xs : List Value} {ks : List Int} {i : Nat} {v : Value}, IntsAre xs ks → xs[i]? = some v → ∃ k t, v = .int k t
  | _, _, 0, _, .cons k t _, e => by cases e; exact ⟨k, t, rfl⟩
  | _, _, i + 1, _, .cons k t h, e => ints_at h (by simpa using e)
/-- the law's loop -/
inductive LawAt (x : Addr) (c : Cf) (D : Addr) (ws : List Value) (i : Nat) (m : Str → Option Value) (nw : Led) : Prop
  | mk (h1 : m "conf" = some (.ref x)) (hD : (D, lst ws 0) ∈ nw) (hc : confIs x c.vals nw) (hs : serIs c.ser nw) : LawAt x c D ws i m nw
theorem STurnSpec.use {w : World} {t : Sem Value} {cost : Nat} {Pre : Led → Prop} {Post : Value → Led → Led → Prop} (S : STurnSpec w t cost Pre Post)
    {mean : ExcName → Option Value} {mg mb : Str → Option Value} {dp un : Nat} {gd : Option (List Code)} {cn : Str} {nms : List (Str × NameKind)} {ig ic : Bool} {mo : List (Str × Const)} {a : Addr} {ccd : Value} {cl : List (Str × Addr)} {outer : List Env} {A₀ : Around} {base g₀ h₀ : Heap} {L : Addr}
    {m : Str → Option Value} {news : Led} {s : Shared} {hs : Heap} {ks : Nat} {Q E : Value → Shared → Prop}
    (XB : (hd.heap_1 w.params).In base) (TB : Top vw lsw mean mg mb base) (G : Gr w mean mg mb outer A₀ base g₀ h₀) (F : Fr h₀ L hs m) (N : News h₀ L hs news) (hdd : dp + cost < 400) (hu : un + 8 * cost < 5000) (pre : Pre news)
    (k : ∀ r news' h₀' h' tk', Gr w mean mg mb outer A₀ base g₀ h₀' → Fr h₀' L h' m → News h₀' L h' news' → Post r news news' → Q r { s with heap := h', toks := tk' }) :
    wpS (model PySem.Challenge.rw_ke0002_01.row.prog w) (ktrTop dp un gd cn ⟨.function, nms, ig, ic, mo⟩ L a ccd cl outer) t Q E { s with heap := hs, toks := ks } :=
  S mean mg mb dp un gd cn nms ig ic mo a ccd cl outer A₀ base g₀ h₀ L m news { s with heap := hs, toks := ks } Q E XB TB G F N hdd hu pre k
theorem law_holds : PySem.Challenge.rw_ke0002_01.Holds := by
  refine hd ?_
  k_fill
  intro w s₀ s₁ mg mb G Y fa o pm cd doc dV kV ho hd hcd hD hmg hg args vals as hpre hlay hrd hwl hlo
  have KX := kIn_of Y
  have X := (Ground.X G).1
  have V := (Ground.X G).2
  refine Ground.open G ?_
  intro T B D TE TW
  try (refine guard_noD D (by decide +kernel) ?_; clear D)
  obtain ⟨_, _, M⟩ := bmod_of_top T
  have TA := at_of_top T
  try (obtain ⟨_, _, he, B0⟩ := based_of_top T rfl hmg ho hd; have he' : cd = _ := he; subst he'; clear he)
  clear hmg
  wrow_args hpre hlay hrd hwl hlo
  refine enter_callS ?_
  w_top on
  have K0 := below_caller (Top.heap T)
  have he := Dflts.none hD rfl
  subst he
  rename IntsAre _ _ => hI
  rename Heap.IsList _ _ _ => hL
  rename List Int => ns
  rename Addr => fa9
  refine call_topS (by decide) ho hd (Top.nolimit T) hcd (BindsTo.of_eq rfl) (locs rfl) (fun h₁ F => ?_) (by decide)
  have N0 : News s₁.heap s₁.heap.objs.size h₁ [] := fun q hq => nomatch hq
  have TB : Top vw lsw _ _ _ s₁.heap := lsw_eq ▸ T
  clear hd TA
  rename List Value => vs
  rename ¬ (_ < _) => hc63
  try dsimp only
  refine letSA ?_
  intro A1
  refine letSE ?_
  intro e1
  refine cutSn (fun X => ∀ h tk m1 a t, (Fr s₁.heap s₁.heap.objs.size h m1) → (m1 "script" = some (.ref fa9)) → (m1 "a" = some (.int a t)) → X h tk) (l1 := [_]) (l2 := _) rfl ?fst ?rest1
  case fst =>
    intro Qb hQ
    k_steps
    all_goals exact hQ _ _ _ _ _ (by assumption) rfl rfl
  case rest1 =>
    intro h tk m1 a t F1 hs ha
    clear F
    replace N0 : News s₁.heap s₁.heap.objs.size h [] := fun q hq => nomatch hq
    have a0 := Int.fmod_nonneg_of_pos (a.fdiv 6) (b := 40) (by decide)
    have a1 := Int.fmod_lt_of_pos (a.fdiv 6) (b := 40) (by decide)
    have a2 := Int.fmod_nonneg_of_pos a (b := 6) (by decide)
    have a3 := Int.fmod_lt_of_pos a (b := 6) (by decide)
    have a4 := Int.fmod_nonneg_of_pos (a.fdiv 7) (b := 3) (by decide)
    have a5 := Int.fmod_lt_of_pos (a.fdiv 7) (b := 3) (by decide)
    have a6 := Int.fmod_nonneg_of_pos (a.fdiv 5) (b := 4) (by decide)
    have a7 := Int.fmod_lt_of_pos (a.fdiv 5) (b := 4) (by decide)
    have p0 : 0 ≤ 48 + (a.fdiv 6).fmod 40 := Int.add_nonneg (by decide) a0
    have p1 : 0 ≤ 3 + a.fmod 6 := Int.add_nonneg (by decide) a2
    have p2 : 0 ≤ 1 + (a.fdiv 7).fmod 3 := Int.add_nonneg (by decide) a4
    refine cutSn (fun X => ∀ h tk m nw x c pn on kn vn, (Fr s₁.heap s₁.heap.objs.size h m) → (News s₁.heap s₁.heap.objs.size h nw) → (confIs x c.vals nw) → (serIs c.ser nw) → (Cf1 c pn on kn vn) → (m "script" = some (.ref fa9)) → (m "a" = some (.int a t)) → (m "conf" = some (.ref x)) → X h tk) (l1 := [_]) (l2 := _) rfl ?conf ?rest2
    case conf =>
      intro Qb hQ
      k_steps
      refine ⟨?_⟩
      refine' TreeSpec.use (mk_ser1 w) ?mB ?mF ?mX ?mN ?mT ?mhd ?mhu ?mp ?_
      (case mB => k_asm); (case mF => k_asm); (case mX => k_asm); (case mN => k_asm); (case mT => k_asm); (case mhd => first | exact room2 (by assumption) (by rfl) | exact room1 (by assumption) (by rfl) | exact room3 (by assumption) (by rfl) | exact room4 (by assumption) (by rfl) | decide); (case mhu => first | exact room2 (by assumption) (by rfl) | exact room1 (by assumption) (by rfl) | exact room3 (by assumption) (by rfl) | exact room4 (by assumption) (by rfl) | decide)
      case mp => trivial
      intro r1 tl1 h1 tk1 F2 N2 ap1 hp1
      obtain ⟨y, rfl, hy⟩ := hp1
      k_steps
      refine ⟨?_⟩
      refine' TreeSpec.use (conf_make w ⟨48 + (a.fdiv 6).fmod 40, 3 + a.fmod 6, 1 + (a.fdiv 7).fmod 3, (a.fdiv 5).fmod 4, _, _, _, _, y⟩) ?mB ?mF ?mX ?mN ?mT ?mhd ?mhu ?mp ?_
      (case mB => k_asm); (case mF => k_asm); (case mX => k_asm); (case mN => k_asm); (case mT => k_asm); (case mhd => first | exact room2 (by assumption) (by rfl) | exact room1 (by assumption) (by rfl) | exact room3 (by assumption) (by rfl) | exact room4 (by assumption) (by rfl) | decide); (case mhu => first | exact room2 (by assumption) (by rfl) | exact room1 (by assumption) (by rfl) | exact room3 (by assumption) (by rfl) | exact room4 (by assumption) (by rfl) | decide)
      case mp => trivial
      intro r2 tl2 h2 tk2 F3 N3 ap2 hp2
      obtain ⟨x, dx, rfl, rfl⟩ := hp2
      k_steps
      rename News _ _ _ _ => N4
      exact hQ _ _ _ _ x ⟨48 + (a.fdiv 6).fmod 40, 3 + a.fmod 6, 1 + (a.fdiv 7).fmod 3, (a.fdiv 5).fmod 4, _, _, _, _, y⟩ (48 + (a.fdiv 6).fmod 40).toNat (3 + a.fmod 6).toNat (1 + (a.fdiv 7).fmod 3).toNat ((a.fdiv 5).fmod 4).toNat (by assumption) N4 ⟨dx, .head _, .tail _ (.head _)⟩ (serIs.sub hy fun q hq => .tail _ (.tail _ (show q ∈ tl1 ++ [] from List.mem_append_left [] hq)))
        ⟨(Int.toNat_of_nonneg p0).symm, (Int.toNat_of_nonneg p1).symm, (Int.toNat_of_nonneg p2).symm, (Int.toNat_of_nonneg a6).symm, toNat_lo (c := 48) a0, toNat_hi (c := 48) (d := 40) a0 a1, toNat_lo (c := 3) a2, Nat.le_of_lt_succ (toNat_hi (c := 3) (d := 6) a2 a3), toNat_lo (c := 1) a4, Nat.le_of_lt_succ (toNat_hi (c := 1) (d := 3) a4 a5), Nat.le_of_lt_succ ((Int.toNat_lt a6).mpr a7)⟩ (by exact hs) (by exact ha) rfl
    case rest2 =>
      intro h tk m2 nw x c pn on kn vn F2 N2 hcf hser hc b1 b2 b3
      clear F1 N0
      refine wpS_execs_cons (For_S rfl rfl (cutG (fun Z9 => ∀ h tk D9 ws9 ks9, (Fr s₁.heap s₁.heap.objs.size h m2) → (News s₁.heap s₁.heap.objs.size h ((D9, lst ws9 0) :: nw)) → (IntsAre ws9 ks9) → Z9 (.ref D9) h tk) ?zi ?zl))
      case zi =>
        intro Qb hQ
        k_steps
        rename_i D9 ws9 h9 F9 N9 hI9 l9
        exact hQ _ _ D9 ws9 _ F9 (news_sub N9 fun q hq => (List.mem_cons.mp hq).elim (fun e => e ▸ .head _) fun h => .tail _ (.tail _ (.tail _ h))) hI9
      case zl =>
      clear F2 N2 b1 b2
      intro h tk D9 ws9 ks9 F9 N9 hI9
      refine LoopS.mk D9 ws9 0 (fun g => Gr w _ mg mb [] callerA s₁.heap s₁.heap g) s₁.heap m2 _ (LawAt x c D9 ws9) rfl ⟨KtsTurn.refl, below_caller _, KX, TB, ktsDicts_nil⟩ F9 N9 (fun i m nw q => by cases q; assumption) (LawAt.mk b3 (.head _) (hcf.sub fun q hq => .tail _ hq) (hser.sub fun q hq => .tail _ hq)) ?turn ?done
      case turn =>
        intro i v m3 nw3 h₀3 h3 tk3 I oI hoI hv C3 q off F3 N3 Qt hT
        obtain ⟨k9, _, hk9⟩ : ∃ k t, v = .int k t := by
          exact ints_at hI9 hv
        subst hk9
        cases q with
        | mk q1 q2 q3 q4 =>
        refine wpS_execs_cons (wpS_If (wpS_isTrue_Not (wpS_isTrue_Call (wpS_Call_Name ?_))))
        have CT := C3.T
        have CB := C3.B
        have CX := C3.X
        have CP := C3.P
        k_steps
        refine callWithS_K (K := hd.heap_1 w.params) (by k_is) ?_
        k_steps
        refine' STurnSpec.use (lawone w x c pn on kn vn k9 _ hc) KX TB C3 F3 N3 (by decide) (by decide) ⟨q3.sub fun q hq => .tail _ hq, q4.sub fun q hq => .tail _ hq⟩ ?_
        intro r4 nw4 h₀4 h4 tk4 C4 F4 N4 hp4
        obtain ⟨rfl, k4⟩ := hp4
        refine wpAny_truthy_bool ?_
        refine (if_neg (show ¬ ((!true) = true) by decide)).mpr ?_
        refine wpS_of (wpAny_execs_nil ?_)
        dsimp only
        refine wpS_of (wpAny_execs_nil ?_)
        refine hT .next _ _ h₀4 _ (rest I nw4) (.inl rfl) C4 F4 (news_sub N4 fun q hq => (List.mem_cons.mp hq).elim (fun e => e ▸ k4 _ (.head _)) fun h => (List.mem_filter.mp h).1) rest_ne (LawAt.mk (by exact q1) (mem_rest (k4 _ (.tail _ q2)) (off _ q2)) (q3.sub fun q hq => mem_rest (k4 _ (.tail _ hq)) (off _ hq)) (q4.sub fun q hq => mem_rest (k4 _ (.tail _ hq)) (off _ hq)))
      case done =>
        intro m3 nw3 h₀3 h3 tk3 C3 q F3 N3
        have CT := C3.T
        have CB := C3.B
        have CX := C3.X
        have CP := C3.P
        show wpS _ _ (execs _ _) _ _ _
        refine wpS_of ?_
        refine wpAny_execs_cons ?_
        k_steps
        have F5 : Fr s₁.heap s₁.heap.objs.size h3 _ := ⟨F3.ns, fun b o e => F3.keep b o (CT.other b o e fun q => nomatch q), Nat.le_refl _⟩
        clear F3
        refine GoodW.toG ?_
        wrow_close
end Mine
end

section
open PySem PySem.W PyProof.Rows
/-- between two texts: the walk forgets the lines of the text before, as a fresh process has none -/
theorem Mine.calm160 : ∀ (prog : Program) (w : World) (A : Around) (env : Env) (E : Value → Shared → Prop) (s : Shared) (Q : Flow → Shared → Prop), Q .next s → wpAny (model prog w) A (execs [] env) Q E s := by
  w_top off
  intro prog w A env E s Q h
  walk1
  exact h
end

end
theorem PySem.Challenge.cw_ke0002_01_holds : PySem.Challenge.rw_ke0002_01.Holds :=
  Mine.law_holds
