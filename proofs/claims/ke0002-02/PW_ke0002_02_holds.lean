import PyProof.Rows.All
import Wide.All
import OpenK.AllK
import Wide.FinOn
import Lean
import PySem.Challenge.RW_ke0002_02
set_option compiler.extract_closed false
section
open PySem PySem.W PyProof.Rows
set_option Elab.async false
namespace Mine

/-- a tree of objects, laid one behind the other; `none` where a place falls -/
def toTree : List Obj → BT → Nat → Option BT
  | [], t, _ => some t
  | o :: r, t, n => match ((t.ins n o).get n).isSome with
    | true => toTree r (t.ins n o) (n + 1)
    | false => none

theorem toTree_abs {life : Life} : ∀ (l : List Obj) (t : BT) (n : Nat) (t' : BT), toTree l t n = some t' →
    absHeap t' (n + l.length) life = ⟨(absHeap t n life).objs ++ l.toArray, life⟩
  | [], t, n, t', h => by
    cases h
    simp only [List.length_nil, Nat.add_zero]
    show Heap.mk _ _ = Heap.mk _ _
    congr 1
  | o :: r, t, n, t', h => by
    unfold toTree at h
    cases g : ((t.ins n o).get n).isSome with
    | false => rw [g] at h; cases h
    | true =>
      rw [g] at h
      have e := toTree_abs (life := life) r (t.ins n o) (n + 1) t' h
      rw [absHeap_ins g] at e
      rw [show n + (o :: r).length = n + 1 + r.length by simp [List.length_cons]; omega, e]
      show Heap.mk _ _ = Heap.mk _ _
      congr 1
      show ((absHeap t n life).objs.push o) ++ r.toArray = _
      apply Array.ext'
      simp

def toT (s : Shared) : Option SharedT := (toTree s.heap.objs.toList .nil 0).map fun t => ⟨t, s.heap.objs.toList.length, s.heap.life, s.gens, s.drawn, s.toks, s.os⟩

theorem toT_abs {s : Shared} {t : SharedT} (h : toT s = some t) : t.abs = s := by
  obtain ⟨⟨objs, life⟩, gens, drawn, toks, os⟩ := s
  obtain ⟨t', e, rfl⟩ := Option.map_eq_some_iff.mp h
  have a := toTree_abs (life := life) _ _ _ _ e
  unfold SharedT.abs
  simp only [Nat.zero_add] at a
  simp only [a]
  congr 2
  apply Array.ext'
  simp [absHeap, BT.list]

theorem topRun_of_seg {tb : String → Option Builtin} {p : Program} {w : World} {n₀ : Nat} {ann : Option Value} : ∀ {n : Nat} {s s' : Shared} {t : Thread} {f : Flow} {c : Code} {q : Pos},
    segRun tb p w n₀ ann 0 n s t = some (f, s', c, q) → topRun tb p w n₀ ann n s t = some s'
  | 0, _, _, _, _, _, _, h => by cases h
  | n + 1, s, s', t, f, c, q, h => by
    unfold segRun at h
    unfold topRun
    cases he : endAt 0 t with
    | some x =>
      rw [he] at h
      cases h
      have : through t = true := by
        unfold endAt at he
        unfold through
        split at he
        · rename_i a b
          have : t.stack = [] := List.length_eq_zero_iff.mp (by simpa using a)
          rw [this, b]; rfl
        · cases he
      rw [this]
    | none =>
      rw [he] at h
      have : through t = false := by
        cases ht : through t with
        | false => rfl
        | true =>
          exfalso
          unfold through at ht
          simp only [Bool.and_eq_true] at ht
          obtain ⟨a, b⟩ := ht
          have a' : t.stack = [] := List.isEmpty_iff.mp a
          split at b
          · rename_i x hx
            unfold endAt at he
            rw [a', hx] at he
            cases he
          · cases b
      rw [this]
      cases hk : stepOk n₀ ann t with
      | false => rw [hk] at h; cases h
      | true =>
        rw [hk] at h
        cases hs : step (denote tb) p w s t with
        | halt o s₂ => rw [hs] at h; cases h
        | go s₂ t₂ => rw [hs] at h; exact topRun_of_seg h

/-- what `topFrom` says, the run over a tree -/
def topFromT (tb : String → Option Builtin) (p : Program) (w : World) (N : Nat) (s₀ : Shared) : Option Shared :=
  match s₀.heap.isNs mainGlobals && s₀.gens.size == 0 with
  | true => (toT s₀).bind fun t₀ => (segRunT tb p w s₀.heap.objs.size (s₀.heap.nsMap mainGlobals "__annotations__") 0 N t₀ (topStub p)).bind fun r =>
      match staticsOk (importedModules p.main.body) s₀.heap r.2.1.abs.heap && namesBound p r.2.1.abs.heap && gensDone r.2.1.abs && laidKept s₀.heap r.2.1.abs.heap with
      | true => some r.2.1.abs
      | false => none
  | false => none

theorem topFrom_of {tb : String → Option Builtin} {p : Program} {w : World} {N : Nat} {s₀ s : Shared} (h : topFromT tb p w N s₀ = some s) : topFrom tb p w N s₀ = some s := by
  unfold topFromT at h
  unfold topFrom
  split at h
  · rename_i e
    rw [e]
    obtain ⟨t₀, e₀, h⟩ := Option.bind_eq_some_iff.mp h
    obtain ⟨⟨f, s', c, q⟩, e₁, h⟩ := Option.bind_eq_some_iff.mp h
    have e₂ := topRun_of_seg (segRun_of e₁)
    rw [toT_abs e₀] at e₂
    split at h
    · rename_i e₃
      cases h
      dsimp only
      rw [e₂]
      dsimp only [Option.bind]
      rw [e₃]
    · cases h
  · cases h

theorem left_of {p q : Program} {loose : List Str} {Xt : Shared → Bool} {α : Type} {Yf : Shared → α} {Ya : World → α} {N : Nat} {g0 : Bool}
    (h : ∀ w : World, ((fencedOpening treeTable p w N).bind (topFromT treeTable p w N)).map (fun s => (openSeen q loose (importedModules p.main.body) Xt g0 s, Yf s)) = some (openGood q loose, Ya w)) :
    LeftO p q loose Xt Yf Ya N g0 := fun w => by
  obtain ⟨s, a, b⟩ := Option.map_eq_some_iff.mp (h w)
  obtain ⟨s₀, a₀, a₁⟩ := Option.bind_eq_some_iff.mp a
  unfold openEnds
  rw [a₀]
  dsimp only [Option.bind]
  rw [topFrom_of a₁]
  exact congrArg some b

theorem left_of2 {p q : Program} {loose : List Str} {Xt : Shared → Bool} {α : Type} {Yf : Shared → α} {Ya : World → α} {N : Nat} {g0 : Bool}
    (h : ∀ w : World, ((fencedOpening treeTable p w N).bind (topFromT treeTable p w N)).map (fun s => openSeen q loose (importedModules p.main.body) Xt g0 s) = some (openGood q loose))
    (h' : ∀ w : World, ((fencedOpening treeTable p w N).bind (topFromT treeTable p w N)).map Yf = some (Ya w)) :
    LeftO p q loose Xt Yf Ya N g0 := left_of fun w => by
  obtain ⟨s, a, b⟩ := Option.map_eq_some_iff.mp (h w)
  have c := h' w
  rw [a] at c ⊢
  exact congrArg some (Prod.ext b (Option.some.inj c))
end Mine
end

section
open PySem PySem.W PyProof.Rows
/-- between two texts: the walk forgets the lines of the text before, as a fresh process has none -/
theorem Mine.calm1 : ∀ (prog : Program) (w : World) (A : Around) (env : Env) (E : Value → Shared → Prop) (s : Shared) (Q : Flow → Shared → Prop), Q .next s → wpAny (model prog w) A (execs [] env) Q E s := by
  w_top off
  intro prog w A env E s Q h
  walk1
  exact h
end

section
open PySem PySem.W PyProof.Rows PySem.Calls
set_option Elab.async false
set_option maxRecDepth 100000
set_option maxHeartbeats 1000000
namespace Mine
abbrev FinPost (prog : Program) (w : World) (A : Around) (Q : Value → Shared → Prop) (E : Value → Shared → Prop) (fin : Fin) (s' : Shared) : Prop :=
  match fin with
  | .done f => (match (Except.ok f : Result) with | .ok (.ret v) => Q v s' | .ok _ => False | .error e => E e s')
  | .again c' => c'.quiet = true ∧ codeAny (model prog w) A c' (fun r s' => match r with | .ok (.ret v) => Q v s' | .ok _ => False | .error e => E e s') s'
/-- one object was changed, the rest stands -/
def Chg (a : Addr) (o : Obj) (news news' : List (Addr × Obj)) : Prop := (a, o) ∈ news' ∧ ∀ q ∈ news, q.1 ≠ a → q ∈ news'
def rest (a : Addr) (news : List (Addr × Obj)) : List (Addr × Obj) := news.filter fun q => q.1 != a
theorem rest_ne {a : Addr} {news : List (Addr × Obj)} : ∀ q ∈ rest a news, q.1 ≠ a := fun q hq => by
  have h := (List.mem_filter.mp hq).2
  simpa using h
theorem mem_rest {a : Addr} {news : List (Addr × Obj)} {q : Addr × Obj} (h : q ∈ news) (n : q.1 ≠ a) : q ∈ rest a news := List.mem_filter.mpr ⟨h, by simpa using n⟩
theorem news_rest {h₀ h : Heap} {L a : Addr} {o : Obj} {news : List (Addr × Obj)} (N : News h₀ L h news) (hm : (a, o) ∈ news) : News h₀ L h ((a, o) :: rest a news) := fun q hq => by
  rcases List.mem_cons.mp hq with rfl | hq
  · exact N _ hm
  · exact N _ (List.mem_filter.mp hq).1
theorem upd_rest {a : Addr} {o o' : Obj} {news : List (Addr × Obj)} : Upd a o o' ((a, o) :: rest a news) ((a, o') :: rest a news) := .head rest_ne
theorem chg_rest {a : Addr} {o' : Obj} {news : List (Addr × Obj)} : Chg a o' news ((a, o') :: rest a news) := ⟨.head _, fun _ hq n => .tail _ (mem_rest hq n)⟩
/-- two entries of one ledger at one address are one -/
theorem news_eq {h₀ h : Heap} {L a : Addr} {o o' : Obj} {news : List (Addr × Obj)} (N : News h₀ L h news) (x : (a, o) ∈ news) (y : (a, o') ∈ news) : o = o' := Option.some.inj ((N _ x).1.symm.trans (N _ y).1)
theorem news_ne {h₀ h : Heap} {L a b : Addr} {o o' : Obj} {news : List (Addr × Obj)} (N : News h₀ L h news) (x : (a, o) ∈ news) (y : (b, o') ∈ news) (n : o ≠ o') : a ≠ b := fun e => n (news_eq N x (e ▸ y))
section
variable {prog : Program} {w : World} {A : Around} {E : Value → Shared → Prop} {s : Shared} {h₀ : Heap} {L D : Addr} {m : Str → Option Value} {news : List (Addr × Obj)}
theorem call_function_codes {id : String} {b : Builtin} {args : List Value} {Q : Value → Shared → Prop} (hk : builtinKind id = none) (hp : plainId id = true)
    (hb : entryFor table id = some b) (ha : argsOk id ⟨args, []⟩)
    (hc : wpAny (model prog w) A.in1 (b ⟨args, []⟩) (FinPost prog w A Q E) E s) : wpAny (model prog w) A (call (.builtin id) args) Q E s := by
  refine wpAny_call (codeAny_call_builtin hp hb ?_)
  simp only [checkBuiltinCall, hk]
  cases hsig : Manifest.signature? id with
  | none => exact wpAny_pure hc
  | some sig =>
    simp only [argsOk, hsig] at ha
    have h2 : Bind.checkArgs id sig ⟨args, []⟩ = pure () := ha
    show wpAny _ A.in1 (Bind.checkArgs id sig ⟨args, []⟩) _ _ s
    rw [h2]; exact wpAny_pure hc
theorem plain_bisloop : plainId "_bisect.bisect_right.loop" = true := by decide +kernel
theorem entry_bisloop : entryFor table "_bisect.bisect_right.loop" = some Builtin.«_bisect.bisect_right.loop» := entryFor_of_fast (by kernel_rfl)
theorem special_item' {l : Addr} {items : Array Value} {k : Int} {t : Tok} {x : Value} {Q : Option Value → Shared → Prop} (hl : s.heap.IsList l items) (h0 : 0 ≤ k) (hf : Builtin.List.listFitsIndex k = true) (hx : items[k.toNat]? = some x) (h : Q (some x) s) :
    wpAny (model prog w) A (callSpecial? (.ref l) (Str.ofString "__getitem__") [.int k t]) Q E s := by
  obtain ⟨o, ho, hc, ne, hd⟩ := id hl
  refine wpAny_callSpecial?_slot (name := Str.ofString "__getitem__") hl.typeIs slot_list_getitem
    (wpAny_call_entry slot_list_getitem hl.typeIs entry_list_getitem ?_ (args_list_getitem _ _))
  show wpAny _ _ (Builtin.List.listSubscript? (.int k t) >>= _) _ _ s
  refine wpAny_bind (wpAny_listSubscript_int hf ?_)
  clear hf
  obtain ⟨j, rfl⟩ := Int.eq_ofNat_of_zero_le h0
  have hx' : items[j]? = some x := hx
  show wpAny _ _ ((seqItemAt l j >>= fun r => pure (r.map (j, ·))) >>= _) _ _ s
  refine wpAny_bind (wpAny_bind (wpAny_seqItemAt ho hd (wpAny_pure ?_)))
  rw [hx']
  first | exact wpAny_bind (wpAny_pure (wpAny_pure ⟨x, rfl, h⟩)) | exact wpAny_pure ⟨x, rfl, h⟩
theorem special_item {l : Addr} {items : Array Value} {k : Nat} {t : Tok} {x : Value} {Q : Option Value → Shared → Prop} (hl : s.heap.IsList l items) (hfit : k < 2 ^ 63) (hx : items[k]? = some x) (h : Q (some x) s) :
    wpAny (model prog w) A (callSpecial? (.ref l) (Str.ofString "__getitem__") [.int k t]) Q E s :=
  special_item' hl (by omega) (fitsIndex_of (by omega) (by omega)) (by simpa using hx) h
/-- the answer of the own comparison -/
def Answers (prog : Program) (w : World) (A : Around) (h₀ : Heap) (L : Addr) (m : Str → Option Value) (news : List (Addr × Obj)) (l r : Value) (b : Bool) : Prop :=
  ∀ (Q : Option Value → Shared → Prop) (E : Value → Shared → Prop) (s : Shared), Fr h₀ L s.heap m → News h₀ L s.heap news → (∀ h' tk', Fr h₀ L h' m → News h₀ L h' news → Q (some (.bool b)) { s with heap := h', toks := tk' }) →
    wpAny (model prog w) A (callSpecialIfBound? l "__lt__" [r]) Q E s
theorem bis_loop {vs : List Value} {n p : Nat} {x ins T : Value} {right : Bool} {Q : Value → Shared → Prop} (hu : A.units + 1 < cLine) (hm : (D, listOf vs.toArray n) ∈ news) (hz : vs.length < 1000) (hp : p ≤ vs.length) (hT : (T == T) = true) (hTx : ∀ h', News h₀ L h' news → Looks (model prog w) h' (typeOf x) T) (hTv : ∀ h' v, v ∈ vs → News h₀ L h' news → Looks (model prog w) h' (typeOf v) T)
    (ask : ∀ i v, vs[i]? = some v → Answers prog w A.in1 h₀ L m news (if right then x else v) (if right then v else x) (if right then decide (p ≤ i) else decide (i < p)))
    (fin : ∀ h' tk', Fr h₀ L h' m → News h₀ L h' news → codeAny (model prog w) A (.builtin "_bisect.bisect_right.loop" ⟨[.ref D, x, rawInt p, rawInt p, .none, .bool right, .bool true, ins], []⟩) (fun r s' => match r with | .ok (.ret v) => Q v s' | .ok _ => False | .error e => E e s') { s with heap := h', toks := tk' })
    (k : Nat) : ∀ (lo hi : Nat) (h' : Heap) (tk' : Nat), hi - lo = k → lo ≤ p → p ≤ hi → hi ≤ vs.length → Fr h₀ L h' m → News h₀ L h' news →
    codeAny (model prog w) A (.builtin "_bisect.bisect_right.loop" ⟨[.ref D, x, rawInt lo, rawInt hi, .none, .bool right, .bool true, ins], []⟩) (fun r s' => match r with | .ok (.ret v) => Q v s' | .ok _ => False | .error e => E e s') { s with heap := h', toks := tk' } := by
  induction k using Nat.strongRecOn with
  | ind k ih =>
    intro lo hi h' tk' hk hlo hhi hle F N
    by_cases hlt : lo < hi
    · have hls : h'.IsList D vs.toArray := PySem.IsL.isList (n := n) (N _ hm).1
      refine codeAny_builtin entry_bisloop ?_
      rw [Around.under_plainId plain_bisloop _]
      unfold Builtin.«_bisect.bisect_right.loop» 
      dsimp only [rawInt]
      have hlt' : (lo : Int) < (hi : Int) := by omega
      rw [if_pos hlt']
      obtain ⟨v, hv⟩ : ∃ v, vs[(lo + hi) / 2]? = some v := ⟨vs[(lo + hi) / 2]'(by omega), by simp⟩
      have hA := ask _ _ hv
      refine wpAny_bind (wpAny_mkInt ?_)
      dsimp only
      refine wpAny_bind (special_item (k := (lo + hi) / 2) (x := v) hls (by omega) (by simpa using hv) ?_)
      dsimp only
      rw [if_pos (show (Value.none == Value.none) = true from rfl)]
      refine wpAny_bind (wpAny_pure (wpAny_holding ?_))
      rw [if_pos (show true = true from rfl)]
      refine wpAny_bind ((hTv _ v (List.mem_of_getElem? hv) N).here ?_)
      refine wpAny_bind ((hTx _ N).here ?_)
      rw [if_pos hT]
      refine wpAny_bind (wpAny_cRoomFor hu ?_)
      have step : ∀ (b : Bool) (h2 : Heap) (tk2 : Nat), b = (if right then decide (p ≤ (lo + hi) / 2) else decide ((lo + hi) / 2 < p)) → Fr h₀ L h2 m → News h₀ L h2 news →
          FinPost prog w A Q E (.again (.builtin "_bisect.bisect_right.loop" ⟨[.ref D, x, rawInt (if b == right then lo else (((lo + hi) / 2 + 1 : Nat) : Int)), rawInt (if b == right then (((lo + hi) / 2 : Nat) : Int) else hi), .none, .bool right, .bool true, ins], []⟩)) { s with heap := h2, toks := tk2 } := by
        intro b h2 tk2 hb F2 N2
        refine ⟨plainId_quiet plain_bisloop _, ?_⟩
        by_cases hq : (b == right) = true
        · rw [if_pos hq, if_pos hq]
          have hb' : p ≤ (lo + hi) / 2 := by
            cases right <;> simp at hb hq <;> subst hb <;> simp at hq <;> omega
          exact ih ((lo + hi) / 2 - lo) (by omega) lo ((lo + hi) / 2) h2 tk2 rfl hlo hb' (by omega) F2 N2
        · rw [if_neg hq, if_neg hq]
          have hb' : (lo + hi) / 2 < p := by
            cases right <;> simp at hb hq <;> subst hb <;> simp at hq <;> omega
          exact ih (hi - ((lo + hi) / 2 + 1)) (by omega) ((lo + hi) / 2 + 1) hi h2 tk2 rfl hb' hhi hle F2 N2
      have em : ((lo : Int) + hi) / 2 = (((lo + hi) / 2 : Nat) : Int) := by omega
      have em1 : ((lo : Int) + hi) / 2 + 1 = (((lo + hi) / 2 + 1 : Nat) : Int) := by omega
      rw [em1, em]
      clear em em1
      generalize (lo + hi) / 2 = mid at *
      obtain ⟨b, hb⟩ : ∃ b, b = (if right then decide (p ≤ mid) else decide (mid < p)) := ⟨_, rfl⟩
      rw [← hb] at hA
      have st := fun h2 tk2 => step b h2 tk2 hb
      clear step hb ih
      cases right
      all_goals
        refine wpAny_bind (hA _ _ _ F N fun h2 tk2 F2 N2 => ?_)
        have st := st h2 tk2 F2 N2
        show wpAny _ _ (truthOfDropped (.bool b) >>= _) _ _ _
        refine wpAny_bind (wpAny_truthy_bool (wpAny_bind (wpAny_pure ?_)))
        cases b <;> exact wpAny_pure st
    · have e1 : lo = p := by omega
      have e2 : hi = p := by omega
      subst e1; subst e2
      exact fin h' tk' F N
theorem cut_list {M : Model} {items : Array Value} {Q : String → Shared → Prop} (hl : s.heap.IsList D items) (h : Q "list" s) : wpAny M A (typeNameOfCut 200 (.ref D)) Q E s := by
  unfold typeNameOfCut shownTypeOf
  refine wpAny_bind (wpAny_bind (wpAny_typeOf hl.typeIs ?_))
  simp only [show (Value.type "list" == Value.type "builtin_function_or_method") = false by decide, Bool.false_eq_true, if_false]
  exact wpAny_pure (wpAny_pure h)
theorem mro_list_l : mroOf (.type "list") = pure [.type "list", .type "object"] := by rw [mroOf_type]; kernel_rfl
theorem wpAny_ite_neg {α : Type} {M : Model} {b : Bool} {x y : Sem α} {Q : α → Shared → Prop} (hb : b = false) (h : wpAny M A y Q E s) : wpAny M A (if b = true then x else y) Q E s := by
  subst hb; exact h
theorem ins_list {x : Value} : ∀ {vs : List Value} {p : Nat}, p ≤ vs.length → vs.insertIdx p x = vs.take p ++ x :: vs.drop p
  | vs, 0, _ => by simp
  | v :: vs, p + 1, h => by
    rw [List.insertIdx_succ_cons, ins_list (vs := vs) (by simpa using h)]
    rfl
theorem ins_at {vs : List Value} {p : Nat} {x : Value} (hp : p ≤ vs.length) : vs.toArray.insertIdxIfInBounds (min (p : Int).toNat vs.toArray.size) x = (vs.take p ++ x :: vs.drop p).toArray := by
  have e : min (p : Int).toNat vs.toArray.size = p := by simp; omega
  rw [e]
  have hb : p ≤ vs.toArray.size := by simp; omega
  unfold Array.insertIdxIfInBounds
  rw [dif_pos hb]
  apply Array.toList_inj.mp
  rw [Array.toList_insertIdx]
  exact ins_list hp
theorem kind_bisl : builtinKind "_bisect.bisect_left" = none := by decide +kernel
theorem plain_bisl : plainId "_bisect.bisect_left" = true := by decide +kernel
theorem entry_bisl : entryFor table "_bisect.bisect_left" = some Builtin.«_bisect.bisect_left» := entryFor_of_fast (by kernel_rfl)
theorem args_bisl (a b : Value) : argsOk "_bisect.bisect_left" ⟨[a, b], []⟩ := by unfold argsOk; kernel_rfl
theorem kind_insr : builtinKind "_bisect.insort_right" = none := by decide +kernel
theorem plain_insr : plainId "_bisect.insort_right" = true := by decide +kernel
theorem entry_insr : entryFor table "_bisect.insort_right" = some Builtin.«_bisect.insort_right» := entryFor_of_fast (by kernel_rfl)
theorem args_insr (a b : Value) : argsOk "_bisect.insort_right" ⟨[a, b], []⟩ := by unfold argsOk; kernel_rfl
theorem bis_left {vs : List Value} {n p : Nat} {x T : Value} {Q : Value → Shared → Prop} (F : Fr h₀ L s.heap m) (N : News h₀ L s.heap news) (hu : A.units + 2 < cLine) (hm : (D, W.listOf vs.toArray n) ∈ news) (hz : vs.length < 1000) (hp : p ≤ vs.length) (hT : (T == T) = true) (hTx : ∀ h', News h₀ L h' news → Looks (model prog w) h' (typeOf x) T) (hTv : ∀ h' v, v ∈ vs → News h₀ L h' news → Looks (model prog w) h' (typeOf v) T)
    (ask : ∀ i v, vs[i]? = some v → Answers prog w A.in1 h₀ L m news v x (decide (i < p)))
    (h : ∀ h' tk' t, Fr h₀ L h' m → News h₀ L h' news → Q (.int p t) { s with heap := h', toks := tk' }) :
    wpAny (model prog w) A (call (.builtin "_bisect.bisect_left") [.ref D, x]) Q E s := by
  refine call_function_codes kind_bisl plain_bisl entry_bisl (args_bisl _ _) ?_
  refine wpAny_bind (wpAny_of_eq (a := (.ref D, x, none, none, none)) rfl ?_)
  dsimp only
  refine wpAny_bind (wpAny_pure ?_)
  refine wpAny_bind (wpAny_pure ?_)
  rw [if_neg (show ¬((false && (none : Option Value).getD Value.none != Value.none) = true) by decide)]
  refine wpAny_bind (wpAny_pure (wpAny_holding ?_))
  rw [if_neg (show ¬((0 : Int) < 0) by decide), if_neg (show ¬(((-1 : Int) != -1) = true) by decide)]
  have hls : s.heap.IsList D vs.toArray := PySem.IsL.isList (n := n) (N _ hm).1
  refine wpAny_bind ?_
  refine wpAny_bind (wpAny_typeOf hls.typeIs ?_)
  refine wpAny_bind (cut_list hls ?_)
  refine wpAny_bind (wpAny_of_eq mro_list_l ?_)
  dsimp only
  rw [if_neg (show ¬((Value.type "list" == Value.type "dict") = true) by decide)]
  first | rw [if_pos (show true = true from rfl)] | rw [if_neg (show ¬(false = true) by decide)]
  refine wpAny_bind (wpAny_of_eq slot_list_len.lookup ?_)
  rw [if_neg (show ¬((some (Value.builtin _)).isNone = true) by decide)]
  refine wpAny_ite_neg (by decide) (wpAny_pure ?_)
  refine wpAny_bind (wpAny_runValue (codeAny_builtin entry_len ?_))
  rw [Around.under_plainId plain_len _]
  refine wpAny_mono (wpAny_len_body_list (Q := fun r s' => r = .int vs.toArray.size (s.toks + 1) ∧ s' = { s with toks := s.toks + 1 + 1 }) hls (by simp; omega) ⟨rfl, rfl⟩) (fun fin s' h' => ?_) fun _ _ e => e
  obtain ⟨r, rfl, rfl, rfl⟩ := h'
  refine wpAny_bind (wpAny_pure ?_)
  replace hls : ({ s with toks := s.toks + 1 + 1 } : Shared).heap.IsList D vs.toArray := hls
  refine wpAny_bind ?_
  refine wpAny_bind (wpAny_typeOf hls.typeIs ?_)
  refine wpAny_bind (cut_list hls ?_)
  refine wpAny_bind (wpAny_of_eq mro_list_l ?_)
  dsimp only
  rw [if_neg (show ¬((Value.type "list" == Value.type "dict") = true) by decide)]
  first | rw [if_pos (show true = true from rfl)] | rw [if_neg (show ¬(false = true) by decide)]
  refine wpAny_bind (wpAny_of_eq slot_list_getitem.lookup ?_)
  rw [if_neg (show ¬((some (Value.builtin _)).isNone = true) by decide)]
  refine wpAny_ite_neg (by decide) (wpAny_pure ?_)
  refine wpAny_pure ⟨plainId_quiet plain_bisloop _, ?_⟩
  have e0 : rawInt 0 = rawInt ((0 : Nat) : Int) := rfl
  rw [List.size_toArray]
  refine bis_loop (s := s) (D := D) (right := false) (p := p) (x := x) (T := T) (vs := vs) (n := n) (by omega) hm hz hp hT hTx hTv ask ?fin vs.length 0 vs.length s.heap _ (by omega) (by omega) hp (Nat.le_refl _) F N
  case fin =>
    intro h' tk' F' N'
    refine codeAny_builtin entry_bisloop ?_
    rw [Around.under_plainId plain_bisloop _]
    unfold Builtin.«_bisect.bisect_right.loop»
    dsimp only [rawInt]
    rw [if_neg (by omega)]
    show wpAny _ _ (retInt p) _ _ _
    exact wpAny_bind (wpAny_mkInt (wpAny_pure (h _ _ _ F' N')))
theorem bis_insort {vs : List Value} {n p : Nat} {z : Addr} {T : Value} {Q : Value → Shared → Prop} (F : Fr h₀ L s.heap m) (N : News h₀ L s.heap news) (hu : A.units + 2 < cLine) (hm : (D, W.listOf vs.toArray n) ∈ news) (hz : vs.length < 1000) (hp : p ≤ vs.length) (hT : (T == T) = true) (hTx : ∀ h', News h₀ L h' news → Looks (model prog w) h' (typeOf (.ref z)) T) (hTv : ∀ h' v, v ∈ vs → News h₀ L h' news → Looks (model prog w) h' (typeOf v) T)
    (ask : ∀ i v, vs[i]? = some v → Answers prog w A.in1 h₀ L m news (.ref z) v (decide (p ≤ i)))
    (h : ∀ h' tk', Fr h₀ L h' m → News h₀ L h' ((D, listOf (vs.take p ++ .ref z :: vs.drop p).toArray (n + 1)) :: rest D news) → Q .none { s with heap := h', toks := tk' }) :
    wpAny (model prog w) A (call (.builtin "_bisect.insort_right") [.ref D, .ref z]) Q E s := by
  refine call_function_codes kind_insr plain_insr entry_insr (args_insr _ _) ?_
  refine wpAny_bind (wpAny_of_eq (a := (.ref D, .ref z, none, none, none)) rfl ?_)
  dsimp only
  refine wpAny_bind (wpAny_pure ?_)
  refine wpAny_bind (wpAny_pure ?_)
  rw [if_neg (show ¬((true && (none : Option Value).getD Value.none != Value.none) = true) by decide)]
  refine wpAny_bind (wpAny_pure (wpAny_holding ?_))
  rw [if_neg (show ¬((0 : Int) < 0) by decide), if_neg (show ¬(((-1 : Int) != -1) = true) by decide)]
  have hls : s.heap.IsList D vs.toArray := PySem.IsL.isList (n := n) (N _ hm).1
  refine wpAny_bind ?_
  refine wpAny_bind (wpAny_typeOf hls.typeIs ?_)
  refine wpAny_bind (cut_list hls ?_)
  refine wpAny_bind (wpAny_of_eq mro_list_l ?_)
  dsimp only
  rw [if_neg (show ¬((Value.type "list" == Value.type "dict") = true) by decide)]
  first | rw [if_pos (show true = true from rfl)] | rw [if_neg (show ¬(false = true) by decide)]
  refine wpAny_bind (wpAny_of_eq slot_list_len.lookup ?_)
  rw [if_neg (show ¬((some (Value.builtin _)).isNone = true) by decide)]
  refine wpAny_ite_neg (by decide) (wpAny_pure ?_)
  refine wpAny_bind (wpAny_runValue (codeAny_builtin entry_len ?_))
  rw [Around.under_plainId plain_len _]
  refine wpAny_mono (wpAny_len_body_list (Q := fun r s' => r = .int vs.toArray.size (s.toks + 1) ∧ s' = { s with toks := s.toks + 1 + 1 }) hls (by simp; omega) ⟨rfl, rfl⟩) (fun fin s' h' => ?_) fun _ _ e => e
  obtain ⟨r, rfl, rfl, rfl⟩ := h'
  refine wpAny_bind (wpAny_pure ?_)
  replace hls : ({ s with toks := s.toks + 1 + 1 } : Shared).heap.IsList D vs.toArray := hls
  refine wpAny_bind ?_
  refine wpAny_bind (wpAny_typeOf hls.typeIs ?_)
  refine wpAny_bind (cut_list hls ?_)
  refine wpAny_bind (wpAny_of_eq mro_list_l ?_)
  dsimp only
  rw [if_neg (show ¬((Value.type "list" == Value.type "dict") = true) by decide)]
  first | rw [if_pos (show true = true from rfl)] | rw [if_neg (show ¬(false = true) by decide)]
  refine wpAny_bind (wpAny_of_eq slot_list_getitem.lookup ?_)
  rw [if_neg (show ¬((some (Value.builtin _)).isNone = true) by decide)]
  refine wpAny_ite_neg (by decide) (wpAny_pure ?_)
  refine wpAny_pure ⟨plainId_quiet plain_bisloop _, ?_⟩
  have e0 : rawInt 0 = rawInt ((0 : Nat) : Int) := rfl
  rw [List.size_toArray]
  refine bis_loop (s := s) (D := D) (right := true) (p := p) (x := (.ref z)) (T := T) (vs := vs) (n := n) (by omega) hm hz hp hT hTx hTv ask ?fin vs.length 0 vs.length s.heap _ (by omega) (by omega) hp (Nat.le_refl _) F N
  case fin =>
    intro h' tk' F' N'
    refine codeAny_builtin entry_bisloop ?_
    rw [Around.under_plainId plain_bisloop _]
    unfold Builtin.«_bisect.bisect_right.loop»
    dsimp only [rawInt]
    rw [if_neg (by omega)]
    have N'' := news_rest N' hm
    have hz' := N' _ hm
    have hls' : h'.IsList D vs.toArray := PySem.IsL.isList (n := n) hz'.1
    show wpAny _ _ (typeOf (.ref D) >>= _) _ _ _
    refine wpAny_bind (wpAny_typeOf hls'.typeIs ?_)
    rw [if_pos (show (Value.type "list" == Value.type "list") = true by decide)]
    refine wpAny_bind (wpAny_rule ?_)
    refine wpAny_bind (wpAny_updateSeq hz'.1 rfl ?_ ?_ ?_)
    · refine wpAny_pure (show Q Value.none _ from h _ _ (F'.change (Heap.SameBut.update ..) hz'.2.1 hz'.2.2) ?_)
      refine kl_turn (pre := []) _ N'' (fun _ h => nomatch h) rest_ne ?_ ?_
      · exact ins_at hp
      · simp; omega
    · rw [List.size_toArray, sizeLine_eq]; omega
    · rw [ins_at hp, sizeLine_eq]; simp; omega
end
end Mine
end

section
open PySem PySem.W PyProof.Rows
/-- between two texts: the walk forgets the lines of the text before, as a fresh process has none -/
theorem Mine.calm3 : ∀ (prog : Program) (w : World) (A : Around) (env : Env) (E : Value → Shared → Prop) (s : Shared) (Q : Flow → Shared → Prop), Q .next s → wpAny (model prog w) A (execs [] env) Q E s := by
  w_top off
  intro prog w A env E s Q h
  walk1
  exact h
end

section
open PySem PySem.W PyProof.Rows PySem.Calls
set_option Elab.async false
set_option maxRecDepth 100000
set_option maxHeartbeats 1000000
namespace Mine
section
variable {prog : Program} {w : World} {A : Around} {E : Value → Shared → Prop} {s : Shared} {h₀ : Heap} {L D : Addr} {m : Str → Option Value} {news : List (Addr × Obj)}
theorem call_slot_codes {T : String} {name : Str} {id : String} {b : Builtin} {self : Value} {rest : List Value} {Q : Value → Shared → Prop} (h : Slot T name id) (hT : s.TypeIs self T)
    (hb : entryFor table id = some b) (ha : argsOk id ⟨self :: rest, []⟩)
    (hc : wpAny (model prog w) A.in1 (b ⟨self :: rest, []⟩) (FinPost prog w A Q E) E s) : wpAny (model prog w) A (call (.builtin id) (self :: rest)) Q E s :=
  wpAny_call (codeAny_call_builtin h.plain hb (h.check _ _ _ _ _ _ _ _ hT ha hc))
def EqAnswers (prog : Program) (w : World) (A : Around) (h₀ : Heap) (L : Addr) (m : Str → Option Value) (news : List (Addr × Obj)) (l r : Value) (b : Bool) : Prop :=
  ∀ (Q : Bool → Shared → Prop) (E : Value → Shared → Prop) (s : Shared), Fr h₀ L s.heap m → News h₀ L s.heap news → (∀ h' tk', Fr h₀ L h' m → News h₀ L h' news → Q b { s with heap := h', toks := tk' }) →
    wpAny (model prog w) A (eqBool l r) Q E s
theorem idx_loop {vs : List Value} {n p : Nat} {x : Value} {upto : Int} {Q : Value → Shared → Prop} (hm : (D, W.listOf vs.toArray n) ∈ news) (hp : p < vs.length) (hz : (p : Int) < upto)
    (ask : ∀ i v, vs[i]? = some v → i ≤ p → EqAnswers prog w A.in1 h₀ L m news v x (decide (i = p)))
    (h : ∀ h' tk' t, Fr h₀ L h' m → News h₀ L h' news → Q (.int p t) { s with heap := h', toks := tk' })
    (k : Nat) : ∀ (i : Nat) (h' : Heap) (tk' : Nat), p - i = k → i ≤ p → Fr h₀ L h' m → News h₀ L h' news →
    codeAny (model prog w) A (.builtin "list.index.loop" ⟨[.ref D, x, rawInt i, rawInt upto], []⟩) (fun r s' => match r with | .ok (.ret v) => Q v s' | .ok _ => False | .error e => E e s') { s with heap := h', toks := tk' } := by
  induction k with
  | zero =>
    intro i h' tk' hk hi F N
    have e : i = p := by omega
    subst e
    refine codeAny_builtin MeetsSeq.entry_index_loop ?_
    rw [Around.under_plainId MeetsSeq.plain_index_loop _]
    have hls := (N _ hm).1
    unfold Builtin.«list.index.loop»
    dsimp only [rawInt]
    refine wpAny_bind (listItems_at hls rfl ?_)
    rw [if_pos hz]
    have hv : vs.toArray[(i : Int).toNat]? = some vs[i] := by simp
    rw [hv]
    refine wpAny_bind (ask i vs[i] (by simp) (Nat.le_refl _) _ _ _ F N fun h2 tk2 F2 N2 => ?_)
    rw [show decide (i = i) = true from decide_eq_true rfl]
    rw [if_pos rfl]
    exact wpAny_bind (wpAny_mkInt (wpAny_pure (h _ _ _ F2 N2)))
  | succ k ih =>
    intro i h' tk' hk hi F N
    have hlt : i < p := by omega
    refine codeAny_builtin MeetsSeq.entry_index_loop ?_
    rw [Around.under_plainId MeetsSeq.plain_index_loop _]
    have hls := (N _ hm).1
    unfold Builtin.«list.index.loop»
    dsimp only [rawInt]
    refine wpAny_bind (listItems_at hls rfl ?_)
    rw [if_pos (by omega)]
    have hv : vs.toArray[(i : Int).toNat]? = some vs[i] := by simp
    rw [hv]
    refine wpAny_bind (ask i vs[i] (by simp) (Nat.le_of_lt hlt) _ _ _ F N fun h2 tk2 F2 N2 => ?_)
    rw [show decide (i = p) = false from decide_eq_false (by omega)]
    rw [if_neg (by decide)]
    rw [show (i : Int) + 1 = ((i + 1 : Nat) : Int) by omega]
    exact wpAny_pure ⟨plainId_quiet MeetsSeq.plain_index_loop _, ih (i + 1) h2 tk2 (by omega) (by omega) F2 N2⟩
theorem idx_list {vs : List Value} {n p : Nat} {x : Value} {Q : Value → Shared → Prop} (F : Fr h₀ L s.heap m) (N : News h₀ L s.heap news) (hm : (D, W.listOf vs.toArray n) ∈ news) (hp : p < vs.length) (hz : vs.length < 1000)
    (ask : ∀ i v, vs[i]? = some v → i ≤ p → EqAnswers prog w A.in1 h₀ L m news v x (decide (i = p)))
    (h : ∀ h' tk' t, Fr h₀ L h' m → News h₀ L h' news → Q (.int p t) { s with heap := h', toks := tk' }) :
    wpAny (model prog w) A (call (.builtin "list.index") [.ref D, x]) Q E s := by
  refine call_slot_codes PySem.F.slot_list_index ⟨_, (N _ hm).1, rfl⟩ PySem.F.entry_list_index (PySem.F.args_list_index_2 _ _) ?_
  refine wpAny_bind (wpAny_of_eq (a := (.ref D, [x])) rfl ?_)
  dsimp only
  refine wpAny_bind (wpAny_pure ?_)
  refine wpAny_bind (wpAny_pure ?_)
  refine wpAny_bind (listItems_at (N _ hm).1 rfl ?_)
  refine wpAny_pure ⟨plainId_quiet MeetsSeq.plain_index_loop _, ?_⟩
  exact idx_loop (s := s) (upto := 2 ^ 63 - 1) hm hp (by omega) ask h p 0 s.heap s.toks (by omega) (by omega) F N
end
end Mine
end

section
open PySem PySem.W PyProof.Rows
/-- between two texts: the walk forgets the lines of the text before, as a fresh process has none -/
theorem Mine.calm5 : ∀ (prog : Program) (w : World) (A : Around) (env : Env) (E : Value → Shared → Prop) (s : Shared) (Q : Flow → Shared → Prop), Q .next s → wpAny (model prog w) A (execs [] env) Q E s := by
  w_top off
  intro prog w A env E s Q h
  walk1
  exact h
end

section
open PySem PySem.W PyProof.Rows PySem.Calls
set_option Elab.async false
set_option maxRecDepth 100000
set_option maxHeartbeats 1000000
namespace Mine
section
variable {prog : Program} {w : World} {A : Around} {E : Value → Shared → Prop} {s : Shared} {h₀ : Heap} {L D : Addr} {m : Str → Option Value} {news : List (Addr × Obj)}
theorem cut_at (y : Value) (q : List Value) : ∀ pre : List Value, kl_cut (pre ++ y :: q) pre.length = some (pre, y, q)
  | [] => rfl
  | v :: pre => by
    show kl_cut (v :: (pre ++ y :: q)) (pre.length + 1) = _
    unfold kl_cut
    rw [cut_at y q pre]
theorem pop_at {pre q : List Value} {y : Value} {i : Int} {u : Tok} {n : Nat} {Q : Value → Shared → Prop} (F : Fr h₀ L s.heap m) (N : News h₀ L s.heap news) (hm : (D, W.listOf (pre ++ y :: q).toArray n) ∈ news) (hi : i = pre.length) (hz : (pre ++ y :: q).length < 1000)
    (h : ∀ h', Fr h₀ L h' m → News h₀ L h' ((D, W.listOf (pre ++ q).toArray (n + 1)) :: rest D news) → Q y { s with heap := h' }) :
    wpAny (model prog w) A (call (.builtin "list.pop") [.ref D, .int i u]) Q E s := by
  subst hi
  have hl : pre.length + (q.length + 1) < 1000 := by simpa using hz
  refine kl_popAt (k := pre.length) (p := pre) (q := q) (y := y) (its := (pre ++ y :: q).toArray) F (news_rest N hm) (fitsIndex_of (by omega) (by omega)) ?_ (by simpa using cut_at y q pre) upd_rest ?_ h
  · unfold seqIndex?
    simp
    omega
  · rw [sizeLine_eq]; simp; omega
theorem item_at {value slice : PySem.Expr} {vs : List Value} {n p : Nat} {t : Tok} {v : Value} {Q : Value → Shared → Prop} (N : News h₀ L s.heap news) (hm : (D, W.listOf vs.toArray n) ∈ news) (hv : vs[p]? = some v) (hz : vs.length < 1000) (h : Q v s)
    (hs : subscripted slice false (.ref D) (.int p t) = operate [.ref D, .int p t] (getItem (.ref D) (.int p t)) := by with_unfolding_all rfl) (hg : ∀ r, letTemporaryGo value (.ref D) r = pure () := by intro _; with_unfolding_all rfl) :
    wpAny (model prog w) A (subscriptTail value slice (.ref D) (.int p t)) Q E s := by
  have hl : s.heap.IsList D vs.toArray := PySem.IsL.isList (n := n) (N _ hm).1
  have hp : p < vs.length := (List.getElem?_eq_some_iff.mp hv).1
  exact subscriptTail_builtin hl.typeIs slot_list_getitem.lookup (wpAny_getItem_list hl (by omega) (by omega) (by simpa using hv) h) hs hg
theorem tail_slice {value slice : PySem.Expr} {o i : Value} {T id : String} {Q : Value → Shared → Prop} (hT : s.TypeIs o T) (hl : typeLookup (.type T) "__getitem__" = pure (some (.builtin id))) (h : wpAny (model prog w) A (getItem o i) Q E s)
    (hs : subscripted slice false o i = operate [i, o] (getItem o i)) (ht : ∀ r, letTemporaryGo value o r = pure ()) : wpAny (model prog w) A (subscriptTail value slice o i) Q E s := by
  have fin : wpAny (model prog w) A (subscripted slice false o i) (fun r s₃ => wpAny (model prog w) A (letTemporaryGo value o r >>= fun _ => pure r) Q E s₃) E s := by
    rw [hs]
    exact wpAny_operating (wpAny_mono h (fun r s₃ h₃ => wpAny_bind (wpAny_of_eq (ht r) (wpAny_pure h₃))) fun _ _ x => x)
  unfold subscriptTail
  refine wpAny_bind ?_
  rw [getitemInPython_of_ne hT.not_modules]
  refine wpAny_bind (wpAny_specialOf hT hl ?_)
  first
    | exact wpAny_pure (wpAny_bind fin)
    | exact wpAny_bind (wpAny_pure (wpAny_bind fin))
    | exact wpAny_bind fin
theorem slice_from {value slice : PySem.Expr} {h : Heap} {vs : List Value} {n a : Nat} {t : Tok} {Q : Value → Shared → Prop} (F : Fr h₀ L h m) (N : News h₀ L h news) (hm : (D, W.listOf vs.toArray n) ∈ news) (ha : a ≤ vs.length) (hz : vs.length < 1000)
    (hs0 : s.heap = h.push { cls := .type "slice", data := .fields #[.int a t, .none, .none] })
    (k : ∀ B h', Fr h₀ L h' m → News h₀ L h' ((B, W.listOf (vs.drop a).toArray 0) :: news) → (∀ q ∈ news, q.1 < B) → Q (.ref B) { s with heap := h' })
    (hs : subscripted slice false (.ref D) (.ref h.objs.size) = operate [.ref h.objs.size, .ref D] (getItem (.ref D) (.ref h.objs.size)) := by with_unfolding_all rfl) (hg : ∀ r, letTemporaryGo value (.ref D) r = pure () := by intro _; with_unfolding_all rfl) :
    wpAny (model prog w) A (subscriptTail value slice (.ref D) (.ref h.objs.size)) Q E s := by
  obtain ⟨hp, g', d, tk, os⟩ := s
  dsimp only at hs0 k
  subst hs0
  have F1 := F.push ({ cls := .type "slice", data := .fields #[.int a t, .none, .none] } : Obj)
  have N1 : News h₀ L _ news := fun p hp => (N.push F ({ cls := .type "slice", data := .fields #[.int a t, .none, .none] } : Obj)) p (.tail _ hp)
  have hl : (h.push { cls := .type "slice", data := .fields #[.int a t, .none, .none] }).IsList D vs.toArray := PySem.IsL.isList (n := n) (N1 _ hm).1
  refine tail_slice hl.typeIs slot_list_getitem.lookup (wpAny_getItem_list_slice hl (Heap.IsSliceOf.new ..) (.int a t) .none .none (by simp) ?_ (by rw [sizeLine_eq]; simp; omega)) hs hg
  rw [slicePick_from _ _ (by simpa using ha)]
  exact k _ _ (F1.push _) (N1.push F1 _) fun q hq => Heap.lt_size (N1 q hq).1
theorem slice_upto {value slice : PySem.Expr} {h : Heap} {vs : List Value} {n a : Nat} {t : Tok} {Q : Value → Shared → Prop} (F : Fr h₀ L h m) (N : News h₀ L h news) (hm : (D, W.listOf vs.toArray n) ∈ news) (ha : a ≤ vs.length) (hz : vs.length < 1000)
    (hs0 : s.heap = h.push { cls := .type "slice", data := .fields #[.none, .int a t, .none] })
    (k : ∀ B h', Fr h₀ L h' m → News h₀ L h' ((B, W.listOf (vs.take a).toArray 0) :: news) → (∀ q ∈ news, q.1 < B) → Q (.ref B) { s with heap := h' })
    (hs : subscripted slice false (.ref D) (.ref h.objs.size) = operate [.ref h.objs.size, .ref D] (getItem (.ref D) (.ref h.objs.size)) := by with_unfolding_all rfl) (hg : ∀ r, letTemporaryGo value (.ref D) r = pure () := by intro _; with_unfolding_all rfl) :
    wpAny (model prog w) A (subscriptTail value slice (.ref D) (.ref h.objs.size)) Q E s := by
  obtain ⟨hp, g', d, tk, os⟩ := s
  dsimp only at hs0 k
  subst hs0
  have F1 := F.push ({ cls := .type "slice", data := .fields #[.none, .int a t, .none] } : Obj)
  have N1 : News h₀ L _ news := fun p hp => (N.push F ({ cls := .type "slice", data := .fields #[.none, .int a t, .none] } : Obj)) p (.tail _ hp)
  have hl : (h.push { cls := .type "slice", data := .fields #[.none, .int a t, .none] }).IsList D vs.toArray := PySem.IsL.isList (n := n) (N1 _ hm).1
  refine tail_slice hl.typeIs slot_list_getitem.lookup (wpAny_getItem_list_slice hl (Heap.IsSliceOf.new ..) .none (.int a t) .none (by simp) ?_ (by rw [sizeLine_eq]; simp; omega)) hs hg
  rw [slicePick_upto _ _ (by simpa using ha)]
  exact k _ _ (F1.push _) (N1.push F1 _) fun q hq => Heap.lt_size (N1 q hq).1
theorem method_val {K : Frag} {x C : Addr} {ox : Obj} {od : Option Obj} {name : Str} {pl : Sem Bool} {Q : Value × List Value → Shared → Prop} (F : Fr h₀ L s.heap m) (X₀ : K.In h₀) (I : InstAt s.heap x ox C od) (hg : plainGet K C name = true)
    (hf : findIn K (.ref C) name = some (some .none)) (h : wpAny (model prog w) A (getAttr (.ref x) name) (fun v => Q (v, [])) E s) : wpAny (model prog w) A (getMethod (.ref x) name pl) Q E s := by
  have X := X₀.keeps F.keep
  unfold getMethod
  refine wpAny_bind (wpAny_bind (I.type.here ((looks_findIn X (plainGet_of hg).1).here ?_)))
  dsimp only
  rw [if_neg (by decide)]
  refine wpAny_bind (wpAny_bind (I.type.here ((looks_findIn X (plainGet_of hg).2).here ?_)))
  rw [if_neg (by decide)]
  refine wpAny_bind (wpAny_bind (I.type.here ((looks_findIn X hf).here ?_)))
  dsimp only
  refine wpAny_bind (wpAny_of_eq (a := Value.type "NoneType") rfl ?_)
  rw [if_pos (by decide)]
  exact wpAny_bind (wpAny_mono h (fun v s' q => wpAny_pure q) fun _ _ e => e)
end
end Mine
end

section
open PySem PySem.W PyProof.Rows
/-- between two texts: the walk forgets the lines of the text before, as a fresh process has none -/
theorem Mine.calm7 : ∀ (prog : Program) (w : World) (A : Around) (env : Env) (E : Value → Shared → Prop) (s : Shared) (Q : Flow → Shared → Prop), Q .next s → wpAny (model prog w) A (execs [] env) Q E s := by
  w_top off
  intro prog w A env E s Q h
  walk1
  exact h
end

section
open PySem PySem.W PyProof.Rows PySem.Calls
set_option Elab.async false
set_option maxRecDepth 100000
set_option maxHeartbeats 1000000
namespace Mine
def OneOf (l : List Addr) (C : Addr) : Prop := C ∈ l
theorem OneOf.two {a b C : Addr} {P : Addr → Prop} (h : OneOf [a, b] C) (x : P a) (y : P b) : P C := by
  rcases List.mem_cons.mp h with rfl | h
  · exact x
  · rw [List.mem_singleton.mp h]; exact y
theorem OneOf.four {a b c d C : Addr} {P : Addr → Prop} (h : OneOf [a, b, c, d] C) (x : P a) (y : P b) (z : P c) (u : P d) : P C := by
  simp only [OneOf, List.mem_cons, List.not_mem_nil, or_false] at h
  rcases h with rfl | rfl | rfl | rfl <;> assumption
theorem OneOf.find2 {a b C : Addr} {K : Frag} {name : Str} {v : Option Value} (h : OneOf [a, b] C) (x : findIn K (.ref a) name = some v) (y : findIn K (.ref b) name = some v) : findIn K (.ref C) name = some v :=
  OneOf.two (P := fun C => findIn K (.ref C) name = some v) h x y
theorem OneOf.find4 {a b c d C : Addr} {K : Frag} {name : Str} {v : Option Value} (h : OneOf [a, b, c, d] C) (x : findIn K (.ref a) name = some v) (y : findIn K (.ref b) name = some v) (z : findIn K (.ref c) name = some v) (u : findIn K (.ref d) name = some v) : findIn K (.ref C) name = some v :=
  OneOf.four (P := fun C => findIn K (.ref C) name = some v) h x y z u
theorem OneOf.dict2 {a b C : Addr} {K : Frag} {v : Bool} (h : OneOf [a, b] C) (x : hasDictIn K a = v) (y : hasDictIn K b = v) : hasDictIn K C = v :=
  OneOf.two (P := fun C => hasDictIn K C = v) h x y
theorem OneOf.dict4 {a b c d C : Addr} {K : Frag} {v : Bool} (h : OneOf [a, b, c, d] C) (x : hasDictIn K a = v) (y : hasDictIn K b = v) (z : hasDictIn K c = v) (u : hasDictIn K d = v) : hasDictIn K C = v :=
  OneOf.four (P := fun C => hasDictIn K C = v) h x y z u
theorem OneOf.plain2 {a b C : Addr} {K : Frag} {name : Str} {v : Bool} (h : OneOf [a, b] C) (x : plainGet K a name = v) (y : plainGet K b name = v) : plainGet K C name = v :=
  OneOf.two (P := fun C => plainGet K C name = v) h x y
theorem OneOf.plain4 {a b c d C : Addr} {K : Frag} {name : Str} {v : Bool} (h : OneOf [a, b, c, d] C) (x : plainGet K a name = v) (y : plainGet K b name = v) (z : plainGet K c name = v) (u : plainGet K d name = v) : plainGet K C name = v :=
  OneOf.four (P := fun C => plainGet K C name = v) h x y z u
theorem OneOf.seq2 {a b C : Addr} {K : Frag} {v : Bool} (h : OneOf [a, b] C) (x : noSeq K a = v) (y : noSeq K b = v) : noSeq K C = v :=
  OneOf.two (P := fun C => noSeq K C = v) h x y
theorem OneOf.seq4 {a b c d C : Addr} {K : Frag} {v : Bool} (h : OneOf [a, b, c, d] C) (x : noSeq K a = v) (y : noSeq K b = v) (z : noSeq K c = v) (u : noSeq K d = v) : noSeq K C = v :=
  OneOf.four (P := fun C => noSeq K C = v) h x y z u
theorem OneOf.mro2 {a b C : Addr} {K : Frag} {u : Value} {v : Option Bool} (h : OneOf [a, b] C) (x : mroIn K a u = v) (y : mroIn K b u = v) : mroIn K C u = v :=
  OneOf.two (P := fun C => mroIn K C u = v) h x y
theorem OneOf.mro4 {a b c d C : Addr} {K : Frag} {u : Value} {v : Option Bool} (h : OneOf [a, b, c, d] C) (x : mroIn K a u = v) (y : mroIn K b u = v) (z : mroIn K c u = v) (u' : mroIn K d u = v) : mroIn K C u = v :=
  OneOf.four (P := fun C => mroIn K C u = v) h x y z u'
theorem OneOf.sub2 {a b C : Addr} {K : Frag} {u : Value} {v : Option Bool} (h : OneOf [a, b] C) (x : subIn K (.ref a) u = v) (y : subIn K (.ref b) u = v) : subIn K (.ref C) u = v :=
  OneOf.two (P := fun C => subIn K (.ref C) u = v) h x y
theorem OneOf.sub4 {a b c d C : Addr} {K : Frag} {u : Value} {v : Option Bool} (h : OneOf [a, b, c, d] C) (x : subIn K (.ref a) u = v) (y : subIn K (.ref b) u = v) (z : subIn K (.ref c) u = v) (u' : subIn K (.ref d) u = v) : subIn K (.ref C) u = v :=
  OneOf.four (P := fun C => subIn K (.ref C) u = v) h x y z u'
theorem OneOf.inst2 {a b C : Addr} {K : Frag} {u : Value} {v : Option Bool} (h : OneOf [a, b] C) (x : instIn K (.ref a) u = v) (y : instIn K (.ref b) u = v) : instIn K (.ref C) u = v :=
  OneOf.two (P := fun C => instIn K (.ref C) u = v) h x y
theorem OneOf.inst4 {a b c d C : Addr} {K : Frag} {u : Value} {v : Option Bool} (h : OneOf [a, b, c, d] C) (x : instIn K (.ref a) u = v) (y : instIn K (.ref b) u = v) (z : instIn K (.ref c) u = v) (u' : instIn K (.ref d) u = v) : instIn K (.ref C) u = v :=
  OneOf.four (P := fun C => instIn K (.ref C) u = v) h x y z u'
theorem OneOf.over2 {a b C : Addr} {K : Frag} {v : Bool} (h : OneOf [a, b] C) (x : plainOver K a = v) (y : plainOver K b = v) : plainOver K C = v :=
  OneOf.two (P := fun C => plainOver K C = v) h x y
theorem OneOf.over4 {a b c d C : Addr} {K : Frag} {v : Bool} (h : OneOf [a, b, c, d] C) (x : plainOver K a = v) (y : plainOver K b = v) (z : plainOver K c = v) (u : plainOver K d = v) : plainOver K C = v :=
  OneOf.four (P := fun C => plainOver K C = v) h x y z u
theorem OneOf.taker2 {a b C : Addr} {K : Frag} {name : Str} {v : Option (Option Value)} (h : OneOf [a, b] C) (x : takerIn K a name = v) (y : takerIn K b name = v) : takerIn K C name = v :=
  OneOf.two (P := fun C => takerIn K C name = v) h x y
theorem OneOf.taker4 {a b c d C : Addr} {K : Frag} {name : Str} {v : Option (Option Value)} (h : OneOf [a, b, c, d] C) (x : takerIn K a name = v) (y : takerIn K b name = v) (z : takerIn K c name = v) (u : takerIn K d name = v) : takerIn K C name = v :=
  OneOf.four (P := fun C => takerIn K C name = v) h x y z u
/-- the walk stops at a method's look-up -/
structure HoldM : Prop where
end Mine
end

section
open PySem PySem.W PyProof.Rows
/-- between two texts: the walk forgets the lines of the text before, as a fresh process has none -/
theorem Mine.calm9 : ∀ (prog : Program) (w : World) (A : Around) (env : Env) (E : Value → Shared → Prop) (s : Shared) (Q : Flow → Shared → Prop), Q .next s → wpAny (model prog w) A (execs [] env) Q E s := by
  w_top off
  intro prog w A env E s Q h
  walk1
  exact h
end

section
open PySem PySem.W PyProof.Rows PySem.Calls
set_option Elab.async false
set_option maxRecDepth 100000
set_option maxHeartbeats 1000000
namespace Mine
section
variable {M : Model} {A : Around} {env : Env} {E : Value → Shared → Prop} {s : Shared} {h0 : Heap} {k0 : Nat}
/-- a statement that ends by going on, as R tells: its walk ends at a post that is open -/
theorem cut (R : (Heap → Nat → Prop) → Prop) {st : Stmt} {rest : List Stmt} {Q : Flow → Shared → Prop}
    (h1 : ∀ Qb : Flow → Shared → Prop, R (fun h tk => Qb .next { s with heap := h, toks := tk }) → wpAny M A (exec st env) Qb (fun _ _ => False) { s with heap := h0, toks := k0 })
    (h2 : R (fun h tk => wpAny M A (execs rest env) Q E { s with heap := h, toks := tk })) : wpAny M A (execs (st :: rest) env) Q E { s with heap := h0, toks := k0 } :=
  wpAny_execs_cons (wpAny_mono (h1 (fun f s' => match f with | .next => wpAny M A (execs rest env) Q E s' | f => Q f s') h2) (fun _ _ h => h) fun _ _ h => h.elim)
/-- the same of any tree: R tells the value too -/
theorem cutG {α : Type} {t : Sem α} (R : (α → Heap → Nat → Prop) → Prop) {Q : α → Shared → Prop}
    (h1 : ∀ Qb : α → Shared → Prop, R (fun a h tk => Qb a { s with heap := h, toks := tk }) → wpAny M A t Qb (fun _ _ => False) { s with heap := h0, toks := k0 })
    (h2 : R (fun a h tk => Q a { s with heap := h, toks := tk })) : wpAny M A t Q E { s with heap := h0, toks := k0 } :=
  wpAny_mono (h1 Q h2) (fun _ _ h => h) fun _ _ h => h.elim
end
/-- the walk stops here -/
structure Held (P : Prop) : Prop where
  out : P
/-- the surroundings and the frame get names of their own, which the walk sees through -/
theorem letA {α : Type} {M : Model} {A : Around} {t : Sem α} {Q : α → Shared → Prop} {E : Value → Shared → Prop} {s : Shared} : (let A1 := A; wpAny M A1 t Q E s) → wpAny M A t Q E s := id
theorem letE {M : Model} {A : Around} {env : Env} {body : List Stmt} {Q : Flow → Shared → Prop} {E : Value → Shared → Prop} {s : Shared} : (let e1 := env; wpAny M A (execs body e1) Q E s) → wpAny M A (execs body env) Q E s := id
theorem letAt {α : Type} {M : Model} {A : Around} {c : Code} {t : Sem α} {Q : α → Shared → Prop} {E : Value → Shared → Prop} {s : Shared} : (let A1 := A; _root_.PySem.wpAt M A1 c t Q E s) → _root_.PySem.wpAt M A c t Q E s := id
theorem letEt {M : Model} {A : Around} {env : Env} {body : List Stmt} {Q : Flow → Shared → Prop} {E : Value → Shared → Prop} {s : Shared} : (let e1 := env; _root_.PySem.wpAt M A (.func body e1) (execs body e1) Q E s) → _root_.PySem.wpAt M A (.func body env) (execs body env) Q E s := id
theorem gen {G : Prop} (R : Prop → Prop) (h1 : ∀ X, R X → X) (h2 : R G) : G := h1 G h2
section
variable {G : Prop}
theorem ex2 {α β : Type} {p : α → β → Prop} (h : ∃ a b, p a b) (k : ∀ a b, p a b → G) : G := h.elim fun a h => h.elim fun b h => k a b h
theorem ex3 {α β γ : Type} {p : α → β → γ → Prop} (h : ∃ a b c, p a b c) (k : ∀ a b c, p a b c → G) : G := h.elim fun a h => ex2 h (k a)
end
section
variable {a b c d e k n N : Nat}
theorem room0 (h : a + c < n) (q : Nat.ble n N = true) : a < N := Nat.lt_of_le_of_lt (Nat.le_add_right a c) (Nat.lt_of_lt_of_le h (Nat.le_of_ble_eq_true q))
theorem room1 (h : a + c < n) (q : (Nat.ble k c && Nat.ble n N) = true) : a + k < N := by
  have := Nat.le_of_ble_eq_true (Bool.and_eq_true_iff.mp q).1
  have := Nat.le_of_ble_eq_true (Bool.and_eq_true_iff.mp q).2
  omega
theorem room2 (h : a + c < n) (q : (Nat.ble (k + b) c && Nat.ble n N) = true) : a + k + b < N := Nat.add_assoc a k b ▸ room1 h q
theorem room3 (h : a + c < n) (q : (Nat.ble (k + (b + d)) c && Nat.ble n N) = true) : a + k + b + d < N := by
  have := Nat.le_of_ble_eq_true (Bool.and_eq_true_iff.mp q).1
  have := Nat.le_of_ble_eq_true (Bool.and_eq_true_iff.mp q).2
  omega
theorem room4 (h : a + c < n) (q : (Nat.ble (k + (b + (d + e))) c && Nat.ble n N) = true) : a + k + b + d + e < N := by
  have := Nat.le_of_ble_eq_true (Bool.and_eq_true_iff.mp q).1
  have := Nat.le_of_ble_eq_true (Bool.and_eq_true_iff.mp q).2
  omega
end
end Mine
end

section
open PySem PySem.W PyProof.Rows
/-- between two texts: the walk forgets the lines of the text before, as a fresh process has none -/
theorem Mine.calm11 : ∀ (prog : Program) (w : World) (A : Around) (env : Env) (E : Value → Shared → Prop) (s : Shared) (Q : Flow → Shared → Prop), Q .next s → wpAny (model prog w) A (execs [] env) Q E s := by
  w_top off
  intro prog w A env E s Q h
  walk1
  exact h
end

section
open PySem PySem.W PyProof.Rows PySem.Calls
set_option Elab.async false
namespace Mine
section
variable {M : Model} {A : Around} {env : Env} {E : Value → Shared → Prop} {s : Shared}
/-- posts by name: a named post stores its arguments alone -/
abbrev ThenS (M : Model) (A : Around) (rest : List Stmt) (env : Env) (Q : Flow → Shared → Prop) (E : Value → Shared → Prop) : Flow → Shared → Prop :=
  fun f s' => match f with | .next => wpAny M A (execs rest env) Q E s' | f => Q f s'
theorem execs_consT {st : Stmt} {rest : List Stmt} {Q : Flow → Shared → Prop} (h : wpAny M A (exec st env) (ThenS M A rest env Q E) E s) : wpAny M A (execs (st :: rest) env) Q E s :=
  wpAny_execs_cons (wpAny_mono h (fun f s' h' => by cases f <;> exact h') fun _ _ e => e)
abbrev BinO (M : Model) (A : Around) (op : Operator) (a : Value) (Q : Value → Shared → Prop) (E : Value → Shared → Prop) : Value → Shared → Prop := fun b s₂ => wpAny M A (binaryOp op a b) Q E s₂
abbrev BinR (M : Model) (A : Around) (env : Env) (op : Operator) (r : Expr) (Q : Value → Shared → Prop) (E : Value → Shared → Prop) : Value → Shared → Prop := fun a s₁ => wpAny M A (eval r env) (BinO M A op a Q E) E s₁
theorem BinOpT {l : Expr} {op : Operator} {r : Expr} {pos : Pos} {Q : Value → Shared → Prop} (h : wpAny M A (eval l env) (BinR M A env op r Q E) E s) : wpAny M A (eval (.BinOp l op r pos) env) Q E s := wpAny_BinOp h
abbrev ArgC (v : Value) (Q : List Value → Shared → Prop) : List Value → Shared → Prop := fun vs s₂ => Q (v :: vs) s₂
abbrev ArgR (M : Model) (A : Around) (env : Env) (pos : Pos) (rest : List Expr) (Q : List Value → Shared → Prop) (E : Value → Shared → Prop) : Value → Shared → Prop := fun v s₁ => wpAny M A (spliced (backTo pos (starEach rest env))) (ArgC v Q) E s₁
theorem args_consT {e : Expr} {rest : List Expr} {pos : Pos} {Q : List Value → Shared → Prop} (h : wpAny M A (eval e env) (ArgR M A env pos rest Q E) E s)
    (he : starEach (e :: rest) env = (false, eval e env) :: starEach rest env := by rfl) : wpAny M A (spliced (backTo pos (starEach (e :: rest) env))) Q E s := args_cons h he
abbrev AttR (M : Model) (A : Around) (attr : Str) (Q : Value → Shared → Prop) (E : Value → Shared → Prop) : Value → Shared → Prop := fun o s₁ => wpAny M A (getAttr o attr true) Q E s₁
abbrev NxtR (Q : Flow → Shared → Prop) : Unit → Shared → Prop := fun _ => Q .next
abbrev AsgR (M : Model) (A : Around) (env : Env) (x : Str) (Q : Flow → Shared → Prop) (E : Value → Shared → Prop) : Value → Shared → Prop := fun v s₁ => wpAny M A (storeName env x v) (NxtR Q) E s₁
theorem AssignT {x : Str} {pos' : Pos} {value : Expr} {pos : Pos} {Q : Flow → Shared → Prop} (h : wpAny M A (eval value env) (AsgR M A env x Q E) E s)
    (hs : swapsWith value (some (.Name x pos')) pos.line env = pure false := by rfl) : wpAny M A (exec (.Assign [.Name x pos'] value pos) env) Q E s := wpAny_Assign_Name h hs
abbrev SlcC (l u : Value) (Q : Value → Shared → Prop) : Value → Shared → Prop := fun st s₃ => Q (.ref s₃.heap.objs.size) { s₃ with heap := s₃.heap.push { cls := .type "slice", data := .fields #[l, u, st] } }
abbrev SlcB (M : Model) (A : Around) (env : Env) (l : Value) (step : Option Expr) (Q : Value → Shared → Prop) (E : Value → Shared → Prop) : Value → Shared → Prop := fun u s₂ => wpAny M A (evalPart step env) (SlcC l u Q) E s₂
abbrev SlcA (M : Model) (A : Around) (env : Env) (upper step : Option Expr) (Q : Value → Shared → Prop) (E : Value → Shared → Prop) : Value → Shared → Prop := fun l s₁ => wpAny M A (evalPart upper env) (SlcB M A env l step Q E) E s₁
theorem SliceT {lower upper step : Option Expr} {p : Pos} {Q : Value → Shared → Prop} (h : wpAny M A (evalPart lower env) (SlcA M A env upper step Q E) E s) : wpAny M A (eval (.Slice lower upper step p) env) Q E s := wpAny_Slice h
/-- a local of a function's frame -/
def locOk (env : Env) (x : Str) : Bool := (match env.kindOf x with | some .local => true | _ => false) && (match env.scope.kind with | .function => true | _ => false) && !(x == ("__debug__" : Str))
end
section
variable {p : Program} {w : World} {A : Around} {env : Env} {E : Value → Shared → Prop} {s : Shared} {h₀ : Heap} {m : Str → Option Value} {x : Str} {v : Value}
theorem nameE {pos : Pos} {Q : Value → Shared → Prop} (c : locOk env x = true) (F : Fr h₀ env.locals s.heap m) (hv : m x = some v) (h : Q v s) : wpAny (model p w) A (eval (.Name x pos) env) Q E s := by
  unfold locOk at c
  have c1 := (Bool.and_eq_true_iff.mp (Bool.and_eq_true_iff.mp c).1).1
  have c2 := (Bool.and_eq_true_iff.mp (Bool.and_eq_true_iff.mp c).1).2
  have c3 := (Bool.and_eq_true_iff.mp c).2
  have e1 : env.kindOf x = some .local := by
    split at c1
    · assumption
    · cases c1
  have e2 : env.scope.kind = .function := by
    split at c2
    · assumption
    · cases c2
  have e3 : (x == ("__debug__" : Str)) = false := by
    cases h9 : (x == ("__debug__" : Str))
    · rfl
    · rw [h9] at c3; cases c3
  exact wpAny_Name (wpAny_loadName_local e2 e1 F.ns hv h) e3
theorem attrE {attr : Str} {xp pos : Pos} {Q : Value → Shared → Prop} (c : locOk env x = true) (F : Fr h₀ env.locals s.heap m) (hv : m x = some v) (h : wpAny (model p w) A (getAttr v attr true) Q E s) :
    wpAny (model p w) A (eval (.Attribute (.Name x xp) attr pos) env) Q E s := Attribute_Name_ (nameE c F hv h)
theorem argE {rest : List Expr} {xp pos : Pos} {Q : List Value → Shared → Prop} (c : locOk env x = true) (F : Fr h₀ env.locals s.heap m) (hv : m x = some v) (h : wpAny (model p w) A (spliced (backTo pos (starEach rest env))) (ArgC v Q) E s) :
    wpAny (model p w) A (spliced (backTo pos (starEach (.Name x xp :: rest) env))) Q E s := args_cons (nameE c F hv h)
theorem AttrT {value : Expr} {attr : Str} {pos : Pos} {Q : Value → Shared → Prop} (h : wpAny (model p w) A (eval value env) (AttR (model p w) A attr Q E) E s) (he : eval (.Attribute value attr pos) env = (do
      let o ← eval value env
      standAt pos.atName
      let r ← holding [o] (getAttr o attr true)
      letTemporaryGo value o r
      pure r) := by with_unfolding_all rfl) : wpAny (model p w) A (eval (.Attribute value attr pos) env) Q E s := Attribute_any_ h he
theorem storeE {news : List (Addr × Obj)} {Q : Unit → Shared → Prop} {hp : Heap} {gn : Array GenState} {dr : Drawn} {tk : Nat} {os : OsState} (c : locOk env x = true) (F : Fr h₀ env.locals hp m) (N : News h₀ env.locals hp news)
    (h : ∀ h', Fr h₀ env.locals h' (fun y => if y = x then some v else m y) → News h₀ env.locals h' news → Q () ⟨h', gn, dr, tk + 1, os⟩) : wpAny (model p w) A (storeName env x v) Q E ⟨hp, gn, dr, tk, os⟩ := by
  unfold locOk at c
  have c1 := (Bool.and_eq_true_iff.mp (Bool.and_eq_true_iff.mp c).1).1
  have c2 := (Bool.and_eq_true_iff.mp (Bool.and_eq_true_iff.mp c).1).2
  have e1 : env.kindOf x = some .local := by
    split at c1
    · assumption
    · cases c1
  have e2 : env.scope.kind = .function := by
    split at c2
    · assumption
    · cases c2
  exact wpAny_storeName_local e1 F.ns (fun h' hn hs => h h' (F.set hn hs) (N.set hs)) (by rw [e2]; rfl)
theorem skip_ne {x y : Str} {a b c : Option Value} (h : x ≠ y) (k : b = c) : (if x = y then a else b) = c := (if_neg h).trans k
end
section
variable {M : Model} {A : Around} {env : Env} {E : Value → Shared → Prop} {s : Shared} {K : Frag} {h₀ : Heap} {pos : Pos} {f : Value} {first : List Value} {Q : Value → Shared → Prop}
abbrev CallC (M : Model) (A : Around) (K : Frag) (f : Value) (first : List Value) (Q : Value → Shared → Prop) (E : Value → Shared → Prop) : List Value → Shared → Prop := fun vs s₁ => K.In s₁.heap ∧ wpAny M A (call f (first ++ vs)) Q E s₁
theorem callK {e : Expr} {rest : List Expr} {kw : List (Option Str × Sem Value)} (hw : kw = []) (X : K.In h₀) (hk : keepIn K f = true) (h : wpAny M A (spliced (backTo pos (starEach (e :: rest) env))) (CallC M A K f first Q E) E s)
    (he : starEach (e :: rest) env = (false, eval e env) :: starEach rest env) (hp : (backTo pos (starEach rest env)).any (·.1) = false) :
    wpAny M A (callWith pos f first (backTo pos (starEach (e :: rest) env)) kw) Q E s := by subst hw; exact callWith_K X hk h he hp
theorem callK0 {kw : List (Option Str × Sem Value)} (hw : kw = []) (X : K.In s.heap) (hk : keepIn K f = true) (h : wpAny M A (call f (first ++ [])) Q E s) : wpAny M A (callWith pos f first (backTo pos (starEach [] env)) kw) Q E s := by
  subst hw; exact callWith_K0 X hk h
theorem callM {L : Addr} {news : List (Addr × Obj)} {q g : Addr} {self : Value} {e : Expr} {rest : List Expr} {kw : List (Option Str × Sem Value)} (hw : kw = []) (X : K.In h₀) (N : News h₀ L s.heap news) (hq : (q, methodObj (.ref g) self) ∈ news) (hf : fnIn K g = true)
    (h : wpAny M A (spliced (backTo pos (starEach (e :: rest) env))) (fun vs s₁ => MethP K q g self s₁.heap ∧ wpAny M A (call (.ref q) (first ++ vs)) Q E s₁) E s)
    (he : starEach (e :: rest) env = (false, eval e env) :: starEach rest env) (hp : (backTo pos (starEach rest env)).any (·.1) = false) :
    wpAny M A (callWith pos (.ref q) first (backTo pos (starEach (e :: rest) env)) kw) Q E s := by subst hw; exact callWith_M X N hq hf h he hp
/-- a name that a function finds among the globals -/
def globOk (env : Env) (x : Str) : Bool := (match env.kindOf x with | some .globalImplicit => true | _ => false) && (match env.scope.kind with | .function => true | _ => false) && !(x == ("__debug__" : Str))
theorem globOk.all {x : Str} (c : globOk env x = true) : env.scope.kind = .function ∧ env.kindOf x = some .globalImplicit ∧ (x == ("__debug__" : Str)) = false := by
  unfold globOk at c
  have c1 := (Bool.and_eq_true_iff.mp (Bool.and_eq_true_iff.mp c).1).1
  have c2 := (Bool.and_eq_true_iff.mp (Bool.and_eq_true_iff.mp c).1).2
  have c3 := (Bool.and_eq_true_iff.mp c).2
  refine ⟨?_, ?_, ?_⟩
  · split at c2
    · assumption
    · cases c2
  · split at c1
    · assumption
    · cases c1
  · cases h9 : (x == ("__debug__" : Str))
    · rfl
    · rw [h9] at c3; cases c3
theorem nameG {L : Addr} {m mg mb : Str → Option Value} {p : Program} {loose : List Str} {x : Str} {v : Value} (c : globOk env x = true) (g : env.globals = mainGlobals) (F : Fr h₀ L s.heap m) (X : K.In h₀) (T : TopRead p loose mg mb h₀)
    (e : nsIn K mainGlobals x = some (some v)) (h : Q v s) : wpAny M A (eval (.Name x pos) env) Q E s :=
  Name_function_global (globOk.all c).1 (globOk.all c).2.1 (loadGlobal_global (by rw [g]; exact T.g.keeps F.keep) (mg_of X T.g e) h) (globOk.all c).2.2
theorem nameB {L : Addr} {m mg mb : Str → Option Value} {p : Program} {loose : List Str} {x : Str} {v : Value} (c : globOk env x = true) (g : env.globals = mainGlobals) (g' : env.builtins = builtinsNs) (F : Fr h₀ L s.heap m) (X : K.In h₀) (T : TopRead p loose mg mb h₀)
    (e : nsIn K mainGlobals x = some none) (hv : bootBuiltins x = some v) (hn : x ≠ "__name__") (h : Q v s) : wpAny M A (eval (.Name x pos) env) Q E s :=
  Name_function_global (globOk.all c).1 (globOk.all c).2.1 (loadGlobal_builtin (by rw [g]; exact T.g.keeps F.keep) (mg_none_of X T.g e) (by rw [g']; exact T.b.keeps F.keep) ((T.builtins x hn).trans hv) h) (globOk.all c).2.2
end
end Mine
end

section
open PySem PySem.W PyProof.Rows
/-- between two texts: the walk forgets the lines of the text before, as a fresh process has none -/
theorem Mine.calm13 : ∀ (prog : Program) (w : World) (A : Around) (env : Env) (E : Value → Shared → Prop) (s : Shared) (Q : Flow → Shared → Prop), Q .next s → wpAny (model prog w) A (execs [] env) Q E s := by
  w_top off
  intro prog w A env E s Q h
  walk1
  exact h
end

section
open PySem PySem.W PyProof.Rows PySem.Calls
set_option Elab.async false
set_option maxRecDepth 100000
set_option maxHeartbeats 1000000
namespace Mine
section
variable {prog : Program} {w : World} {A₀ A : Around} {s : Shared} {base h₀ g₀ : Heap} {outer : List Env} {L : Addr} {m : Str → Option Value} {env : Env} {news : List (Addr × Obj)} {K : Frag} {p : Program} {loose : List Str} {mean : ExcName → Option Value} {mg mb : Str → Option Value}
  {R : Result → Shared → Prop} {name qual : Str} {params : Arguments} {body : List Stmt} {scope : Scope} {dV kV doc pm cdv ct oc : Value} {an od : Option Addr} {osl : Array (Option Value)} {f : Addr} {args : Args} {binds : List (Str × Value)}
/-- a def without cells is called, and raises nothing: its body is walked to posts that are open -/
theorem code_own (B : Below A₀ base outer h₀) (F : Fr h₀ L s.heap m) (X₀ : K.In h₀) (N : News h₀ L s.heap news) (T : Top p loose mean mg mb h₀) (hA : A.frames = some (env :: outer)) (hf : env.frame = some L) (hke : env.scope.kind = .function)
    (ho : K.lookup f = some ⟨oc, od, .func (fnOf name qual params body scope dV kV doc pm an cdv ct), osl⟩) (hcd : codeIn K cdv qual = true) (hroom : A.depth < recursionLimit)
    (hbind : BindsTo s (fnOf name qual params body scope dV kV doc pm an cdv ct) args binds) (hloc : ∀ y ∈ binds, scope.names.lookup y.1 = some .local)
    (h : ∀ g L' h₁, Fr h₀ L g m → Fr g L' h₁ (fun y => binds.reverse.lookup y) → News g L' h₁ news → Below A base (env :: outer) g → K.In g → Top p loose mean mg mb g →
      ∀ Qb : Flow → Shared → Prop, (∀ fl s', LeaveK h₀ L m g R (match fl with | .ret v => v | _ => .none) s' → Qb fl s') →
      wpAny (model prog w) (A.deeper (envOf qual scope L' f cdv)) (execs body (envOf qual scope L' f cdv))
        Qb (fun _ _ => False)
        { s with heap := h₁, toks := s.toks + binds.length })
    (hcell : ∀ x ∈ scope.names, x.2 ≠ .cell) (hco : scope.isCoroutine = false) (hgen : scope.isGenerator = false) (hk : scope.kind = .function) : codeAny (model prog w) A (.call (.ref f) args) R s := by
  obtain ⟨FG, BG, st, lv⟩ := groundX (R := R) B F N hA hf hke
  have X := X₀.keeps F.keep
  refine codeAny_call_def (fd := fnOf name qual params body scope dV kV doc pm an cdv ct) (body := body) (binds := binds) hroom (X _ _ ho) rfl (T.nolimit.keeps F.keep) (codeRec_of X hcd) rfl hbind hcell hloc (fun h₁ hns hk₁ => ?_) hco hgen hk
  exact wpAny_mono (h _ s.heap.objs.size h₁ FG ⟨hns, fun b o e => hk₁ b o (of_hideAll _ e), Nat.le_of_eq (hideAll_size _ _)⟩
    (fun p hp => ⟨hk₁ _ _ (N p hp).1, Nat.ne_of_lt (Heap.lt_size (N p hp).1), hideAll_none _ (List.mem_map_of_mem hp)⟩) BG (X₀.keeps st) (T.keeps st) _ fun _ _ hl => hl) (fun fl s' hl => lv _ _ hl) fun _ _ y => y.elim
variable {cc : Addr}
/-- the same for a def with super() -/
theorem own_super (B : Below A₀ base outer h₀) (F : Fr h₀ L s.heap m) (X₀ : K.In h₀) (N : News h₀ L s.heap news) (T : Top p loose mean mg mb h₀) (hA : A.frames = some (env :: outer)) (hf : env.frame = some L) (hke : env.scope.kind = .function)
    (ho : K.lookup f = some ⟨oc, od, .func (ksFn name qual params body scope dV kV doc pm an cdv ct cc), osl⟩) (hcd : codeIn K cdv qual = true) (hroom : A.depth < recursionLimit)
    (hbind : BindsTo s (ksFn name qual params body scope dV kV doc pm an cdv ct cc) args binds) (hloc : ∀ y ∈ binds, scope.names.lookup y.1 = some .local)
    (h : ∀ g L' h₁, Fr h₀ L g m → Fr g L' h₁ (fun y => binds.reverse.lookup y) → News g L' h₁ news → Below A base (env :: outer) g → K.In g → Top p loose mean mg mb g → (∀ p ∈ news, p.1 < L') →
      ∀ Qb : Flow → Shared → Prop, (∀ fl s', LeaveK h₀ L m g R (match fl with | .ret v => v | _ => .none) s' → Qb fl s') →
      _root_.PySem.wpAt (model prog w) (A.deeper (ksEnv qual scope L' f cdv cc)) (.func body (ksEnv qual scope L' f cdv cc)) (execs body (ksEnv qual scope L' f cdv cc))
        Qb (fun _ _ => False)
        { s with heap := h₁, toks := s.toks + binds.length })
    (hcell : ∀ x ∈ scope.names, x.2 ≠ .cell) (hco : scope.isCoroutine = false) (hgen : scope.isGenerator = false) (hk : scope.kind = .function) : codeAny (model prog w) A (.call (.ref f) args) R s :=
  ks_code_super B F X₀ N T hA hf hke ho hcd hroom hbind hloc (fun g L' h₁ a b c d e t l => ks_wpAt_mono (h g L' h₁ a b c d e t l _ fun _ _ x => x) (fun _ _ x => x) fun _ _ y => y.elim) hcell hco hgen hk
end
end Mine
end

section
open PySem PySem.W PyProof.Rows
/-- between two texts: the walk forgets the lines of the text before, as a fresh process has none -/
theorem Mine.calm15 : ∀ (prog : Program) (w : World) (A : Around) (env : Env) (E : Value → Shared → Prop) (s : Shared) (Q : Flow → Shared → Prop), Q .next s → wpAny (model prog w) A (execs [] env) Q E s := by
  w_top off
  intro prog w A env E s Q h
  walk1
  exact h
end

section
open PySem PySem.W PyProof.Rows PySem.Calls PySem.SeqAt
set_option Elab.async false
set_option maxRecDepth 100000
set_option maxHeartbeats 1000000
namespace Mine
abbrev seqObj (T : String) (xs : List Value) (k : Nat) : Obj := { cls := .type T, data := .seq xs.toArray k }
/-- two values of one content, lists and tuples n deep -/
def Same0 (v u : Value) : Prop := v = u ∨ (∃ k t t', v = .int k t ∧ u = .int k t') ∨ (∃ b t t', v = .bytes b t ∧ u = .bytes b t')
def SameN (news : List (Addr × Obj)) : Nat → Value → Value → Prop
  | 0, v, u => Same0 v u
  | n + 1, v, u => Same0 v u ∨ ∃ a b xs ys ka kb T, v = .ref a ∧ u = .ref b ∧ (T = "tuple" ∨ T = "list") ∧ (a, seqObj T xs ka) ∈ news ∧ (b, seqObj T ys kb) ∈ news ∧ xs.length = ys.length ∧
      ∀ (i : Nat) x y, xs[i]? = some x → ys[i]? = some y → SameN news n x y
theorem SameN.sub {news news' : List (Addr × Obj)} (h : ∀ q ∈ news, q ∈ news') : ∀ {n : Nat} {v u : Value}, SameN news n v u → SameN news' n v u
  | 0, _, _, x => by
    unfold SameN at x ⊢
    exact x
  | n + 1, _, _, x => by
    unfold SameN at x ⊢
    rcases x with x | ⟨a, b, xs, ys, ka, kb, T, h1, h2, h3, h4, h5, h6, h7⟩
    · exact .inl x
    · exact .inr ⟨a, b, xs, ys, ka, kb, T, h1, h2, h3, h _ h4, h _ h5, h6, fun i x y e f => (h7 i x y e f).sub h⟩
theorem pair_same {news : List (Addr × Obj)} {k : Int} {t t' : Tok} {v : Value} {n : Nat} : ∀ (i : Nat) (x y : Value), ([.int k t, v] : List Value)[i]? = some x → ([.int k t', v] : List Value)[i]? = some y → SameN news n x y := by
  have h0 : ∀ {a b : Value}, Same0 a b → SameN news n a b := fun q => by
    cases n with
    | zero => unfold SameN; exact q
    | succ n => unfold SameN; exact .inl q
  intro i x y e f
  match i with
  | 0 => cases e; cases f; exact h0 (.inr (.inl ⟨k, t, t', rfl, rfl⟩))
  | 1 => cases e; cases f; exact h0 (.inl rfl)
  | i + 2 => simp at e
theorem all_range (n : Nat) : (List.range n).all (fun _ => true) = true := by simp
section
variable {prog : Program} {w : World} {A : Around} {E : Value → Shared → Prop} {s : Shared} {h₀ : Heap} {L : Addr} {m : Str → Option Value} {news : List (Addr × Obj)}
theorem eqAt_bytes (b : Array UInt8) (t t' : Tok) : EqAt A s (.bytes b t) (.bytes b t') true := fun prog w E Q h => by
  unfold eqBool
  refine wpAny_holding ?_
  refine wpAny_ite_split (fun _ => wpAny_bind (wpAny_rule (wpAny_pure h))) (fun _ => ?_)
  exact wpAny_bind (eq_bytes (by rw [beq_self_eq_true]; exact wpAny_truthy_bool h))
theorem Same0.at {v u : Value} {A : Around} (x : Same0 v u) : EqAt A s v u true := by
  rcases x with rfl | ⟨k, t, t', rfl, rfl⟩ | ⟨b, t, t', rfl, rfl⟩
  · exact .same _
  · have := EqAt.int_int (A := A) (s := s) k t k t'
    rwa [beq_self_eq_true] at this
  · exact eqAt_bytes b t t'
theorem units_lt {a n : Nat} (h : a + (n + 1) < cLine) : a < cLine := Nat.lt_of_le_of_lt (Nat.le_add_right _ _) h
theorem seqs_he {n : Nat} {xs ys : List Value} (ih : ∀ {v u : Value} {A : Around}, SameN news n v u → A.units + n < cLine → EqAt A s v u true) (h7 : ∀ (i : Nat) x y, xs[i]? = some x → ys[i]? = some y → SameN news n x y) (hu : A.units + (n + 1) < cLine) :
    ∀ j (h1 : j < xs.toArray.size) (h2 : j < ys.toArray.size), EqAt A.in1 s xs.toArray[j] ys.toArray[j] ((fun _ => true) j) := fun j h1 h2 =>
  ih (h7 j _ _ (by simp at h1 ⊢) (by simp at h2 ⊢)) (by show A.units + 1 + n < cLine; rw [Nat.add_assoc, Nat.add_comm 1]; exact hu)
theorem rc_seqs {T : String} {a b : Addr} {xs ys : List Value} {ka kb : Nat} (hT : T = "tuple" ∨ T = "list") (h4 : s.heap.get? a = some (seqObj T xs ka)) (h5 : s.heap.get? b = some (seqObj T ys kb)) (h6 : xs.length = ys.length) (hu : A.units < cLine)
    (he : ∀ j (h1 : j < xs.toArray.size) (h2 : j < ys.toArray.size), EqAt A.in1 s xs.toArray[j] ys.toArray[j] ((fun _ => true) j)) : RcAt A s (.ref a) (.ref b) true := by
  have hz : xs.toArray.size = ys.toArray.size := by simpa using h6
  rcases hT with rfl | rfl
  · have := RcAt.tuples (l := a) (b := b) ⟨_, h4, rfl, _, rfl⟩ ⟨_, h5, rfl, _, rfl⟩ hu he
    rw [hz, Nat.min_self, all_range, beq_self_eq_true] at this
    exact this
  · have := RcAt.lists (l := a) (b := b) ⟨_, h4, rfl, _, rfl⟩ ⟨_, h5, rfl, _, rfl⟩ hz hu he
    rwa [all_range] at this
theorem rcne_seqs {T : String} {a b : Addr} {xs ys : List Value} {ka kb : Nat} (hT : T = "tuple" ∨ T = "list") (h4 : s.heap.get? a = some (seqObj T xs ka)) (h5 : s.heap.get? b = some (seqObj T ys kb)) (h6 : xs.length = ys.length) (hu : A.units < cLine)
    (he : ∀ j (h1 : j < xs.toArray.size) (h2 : j < ys.toArray.size), EqAt A.in1 s xs.toArray[j] ys.toArray[j] ((fun _ => true) j)) : RcNeAt A s (.ref a) (.ref b) false := by
  have hz : xs.toArray.size = ys.toArray.size := by simpa using h6
  rcases hT with rfl | rfl
  · have := RcNeAt.tuples (l := a) (b := b) ⟨_, h4, rfl, _, rfl⟩ ⟨_, h5, rfl, _, rfl⟩ hu he
    rw [hz, Nat.min_self, all_range, beq_self_eq_true] at this
    exact this
  · have := RcNeAt.lists (l := a) (b := b) ⟨_, h4, rfl, _, rfl⟩ ⟨_, h5, rfl, _, rfl⟩ hz hu he
    rw [all_range] at this
    exact this
theorem SameN.at (N : News h₀ L s.heap news) {n : Nat} : ∀ {v u : Value} {A : Around}, SameN news n v u → A.units + n < cLine → EqAt A s v u true := by
  induction n with
  | zero => intro v u A x _; exact Same0.at x
  | succ n ih =>
    intro v u A x hu
    rcases x with x | ⟨a, b, xs, ys, ka, kb, T, rfl, rfl, hT, h4, h5, h6, h7⟩
    · exact x.at
    · by_cases e : a = b
      · subst e; exact .same _
      · exact .of_refs e (rc_seqs hT (N _ h4).1 (N _ h5).1 h6 (units_lt hu) (seqs_he ih h7 hu))
theorem eq_same {n : Nat} {T : String} {a b : Addr} {xs ys : List Value} {ka kb : Nat} {Q : Value → Shared → Prop} (N : News h₀ L s.heap news) (hT : T = "tuple" ∨ T = "list") (h4 : (a, seqObj T xs ka) ∈ news) (h5 : (b, seqObj T ys kb) ∈ news) (h6 : xs.length = ys.length)
    (h7 : ∀ (i : Nat) x y, xs[i]? = some x → ys[i]? = some y → SameN news n x y) (hu : A.units + (n + 1) < cLine) (h : Q (.bool true) s) : wpAny (model prog w) A (compareOp .Eq (.ref a) (.ref b)) Q E s :=
  EqBoolInt.of_rc (rc_seqs hT (N _ h4).1 (N _ h5).1 h6 (units_lt hu) (seqs_he (SameN.at N) h7 hu)) h
theorem ne_same {n : Nat} {T : String} {a b : Addr} {xs ys : List Value} {ka kb : Nat} {Q : Value → Shared → Prop} (N : News h₀ L s.heap news) (hT : T = "tuple" ∨ T = "list") (h4 : (a, seqObj T xs ka) ∈ news) (h5 : (b, seqObj T ys kb) ∈ news) (h6 : xs.length = ys.length)
    (h7 : ∀ (i : Nat) x y, xs[i]? = some x → ys[i]? = some y → SameN news n x y) (hu : A.units + (n + 1) < cLine) (h : Q (.bool false) s) : wpAny (model prog w) A (compareOp .NotEq (.ref a) (.ref b)) Q E s :=
  rcne_seqs hT (N _ h4).1 (N _ h5).1 h6 (units_lt hu) (seqs_he (SameN.at N) h7 hu) prog w E Q h
end
end Mine
end

section
open PySem PySem.W PyProof.Rows
/-- between two texts: the walk forgets the lines of the text before, as a fresh process has none -/
theorem Mine.calm17 : ∀ (prog : Program) (w : World) (A : Around) (env : Env) (E : Value → Shared → Prop) (s : Shared) (Q : Flow → Shared → Prop), Q .next s → wpAny (model prog w) A (execs [] env) Q E s := by
  w_top off
  intro prog w A env E s Q h
  walk1
  exact h
end

section
open PySem PySem.W PyProof.Rows PySem.Calls PySem.SeqAt
set_option Elab.async false
set_option maxRecDepth 100000
set_option maxHeartbeats 1000000
namespace Mine
section
variable {prog : Program} {w : World} {A : Around} {E : Value → Shared → Prop} {s : Shared} {h₀ : Heap} {L : Addr} {m : Str → Option Value} {env : Env}
open LCg in
/-- a comprehension by an invariant over what it has made -/
theorem comp_rest {elt : Expr} {x : Str} {scope : Scope} {cl : List (Str × Addr)} {S : List (Addr × Obj) → Prop} {P : Nat → Value → Prop} {Fin : List Value → List (Addr × Obj) → Prop} {n : Nat} (J : Nat → List Value → List (Addr × Obj) → Prop) {news : List (Addr × Obj)}
    (h0 : J 0 [] news)
    (turn : ∀ i v ys news I oI C oC D m₂ h tk (E' : Value → Shared → Prop), i < n → P i v → J i ys news → NsObj oC m₂ → m₂ x = some v → Fr h₀ L h m → News h₀ L h ((I, oI) :: (C, oC) :: (D, lst ys) :: news) → Off3 I C D news → (@Ne Nat I C) → (@Ne Nat I D) → (@Ne Nat C D) →
      wpAny (model prog w) A (eval elt (compEnvC scope cl C env)) (CompEnd h₀ L m { s with heap := h, toks := tk } I oI C oC D (lst ys) S (fun y news' => J (i + 1) (ys ++ [y]) news')) E' { s with heap := h, toks := tk })
    (fin : ∀ ys news, J n ys news → Fin ys news) : CompRest prog w A h₀ L m env elt x scope cl s S P Fin n 0 [] news := by
  have key : ∀ k i ys news, i + k = n → J i ys news → CompRest prog w A h₀ L m env elt x scope cl s S P Fin k i ys news := by
    intro k
    induction k with
    | zero =>
      intro i ys news hi hJ
      have : i = n := by omega
      subst this
      exact .zero (fin _ _ hJ)
    | succ k ih =>
      intro i ys news hi hJ
      refine .succ ?_
      intro v I oI C oC D m₂ h tk E' hP hC hx F N off ne
      refine wpAny_mono (turn i v ys news I oI C oC D m₂ h tk E' (by omega) hP hJ hC hx F N off ne.1 ne.2.1 ne.2.2) (fun y s' q => ?_) fun _ _ e => e
      obtain ⟨h', tk', news', e, F', N', off', hS, r⟩ := q
      exact ⟨h', tk', news', e, F', N', off', hS, ih (i + 1) _ _ (by omega) r⟩
  exact key n 0 [] news (by omega) h0
open LCg LCt in
theorem comp_restT {ct elt : Expr} {x : Str} {scope : Scope} {cl : List (Str × Addr)} {S : List (Addr × Obj) → Prop} {P : Nat → Value → Prop} {Fin : List Value → List (Addr × Obj) → Prop} {n : Nat} (J : Nat → List Value → List (Addr × Obj) → Prop) {news : List (Addr × Obj)}
    (h0 : J 0 [] news)
    (turn : ∀ i v ys news I oI C oC D m₂ h tk (E' : Value → Shared → Prop), i < n → P i v → J i ys news → NsObj oC m₂ → m₂ x = some v → Fr h₀ L h m → News h₀ L h ((I, oI) :: (C, oC) :: (D, lst ys) :: news) → Off3 I C D news → (@Ne Nat I C) → (@Ne Nat I D) → (@Ne Nat C D) →
      wpAny (model prog w) A (isTrue ct (compEnvC scope cl C env) (eval ct (compEnvC scope cl C env))) (fun ok s' => if ok = true then
        wpAny (model prog w) A (eval elt (compEnvC scope cl C env)) (CompEnd h₀ L m { s with heap := h, toks := tk } I oI C oC D (lst ys) S (fun y news' => J (i + 1) (ys ++ [y]) news')) E' s'
        else CompEnd h₀ L m { s with heap := h, toks := tk } I oI C oC D (lst ys) S (fun _ news' => J (i + 1) ys news') Value.none s') E' { s with heap := h, toks := tk })
    (fin : ∀ ys news, J n ys news → Fin ys news) : CompRestT prog w A h₀ L m env ct elt x scope cl s S P Fin n 0 [] news := by
  have key : ∀ k i ys news, i + k = n → J i ys news → CompRestT prog w A h₀ L m env ct elt x scope cl s S P Fin k i ys news := by
    intro k
    induction k with
    | zero =>
      intro i ys news hi hJ
      have : i = n := by omega
      subst this
      exact .zero (fin _ _ hJ)
    | succ k ih =>
      intro i ys news hi hJ
      refine .succ ?_
      intro v I oI C oC D m₂ h tk E' hP hC hx F N off ne
      refine wpAny_mono (turn i v ys news I oI C oC D m₂ h tk E' (by omega) hP hJ hC hx F N off ne.1 ne.2.1 ne.2.2) (fun ok s' q => ?_) fun _ _ e => e
      cases ok with
      | true =>
        simp only [if_true] at q ⊢
        refine wpAny_mono q (fun y s'' q => ?_) fun _ _ e => e
        obtain ⟨h', tk', news', e, F', N', off', hS, r⟩ := q
        exact ⟨h', tk', news', e, F', N', off', hS, ih (i + 1) _ _ (by omega) r⟩
      | false =>
        simp only [Bool.false_eq_true, if_false] at q ⊢
        obtain ⟨h', tk', news', e, F', N', off', hS, r⟩ := q
        exact ⟨h', tk', news', e, F', N', off', hS, ih (i + 1) _ _ (by omega) r⟩
  exact key n 0 [] news (by omega) h0

/-- a turn is at its end and the loop goes on -/
inductive TurnNx (Ctx : Heap → Prop) (L : Addr) (s₁ : Shared) (I : Addr) (oI : Obj) (J : (Str → Option Value) → List (Addr × Obj) → Prop) : Shared → Prop
  | mk (h' : Heap) (tk' : Nat) (h₀' : Heap) (m₂ : Str → Option Value) (news₂ : List (Addr × Obj)) (C : Ctx h₀') (F : Fr h₀' L h' m₂) (N : News h₀' L h' ((I, oI) :: news₂)) (off : ∀ p ∈ news₂, p.1 ≠ I) (j : J m₂ news₂) : TurnNx Ctx L s₁ I oI J { s₁ with heap := h', toks := tk' }
/-- the end of a turn -/
def TurnEnd (Ctx : Heap → Prop) (L : Addr) (s₁ : Shared) (I : Addr) (oI : Obj) (J : (Str → Option Value) → List (Addr × Obj) → Prop) (Q : Flow → Shared → Prop) (f : Flow) (s₂ : Shared) : Prop :=
  match f with
  | .ret v => Q (.ret v) s₂
  | .brk => Q .next s₂
  | _ => TurnNx Ctx L s₁ I oI J s₂
/-- where a loop over a made list stands -/
inductive LoopT (prog : Program) (w : World) (A : Around) (env : Env) (x : Str) (body : List Stmt) (Q : Flow → Shared → Prop) (E : Value → Shared → Prop) : Value → Shared → Prop
  | of {s₁ : Shared} (D : Addr) (vs : List Value) (n : Nat) (Ctx : Heap → Prop) (h₀ : Heap) (m : Str → Option Value) (news : List (Addr × Obj)) (J : Nat → (Str → Option Value) → List (Addr × Obj) → Prop)
    (hh : A.handled = none) (C : Ctx h₀) (F : Fr h₀ env.locals s₁.heap m) (N : News h₀ env.locals s₁.heap news) (hD : ∀ i m news, J i m news → (D, W.listOf vs.toArray n) ∈ news) (hJ : J 0 m news)
    (turn : ∀ i v m₁ news₁ h₀' h tk I oI, oI.cls = .type "list_iterator" → vs[i]? = some v → Ctx h₀' → J i m₁ news₁ → (∀ p ∈ news₁, p.1 ≠ I) → Fr h₀' env.locals h (fun y => if y = x then some v else m₁ y) → News h₀' env.locals h ((I, oI) :: news₁) →
      wpAny (model prog w) A (execs body env) (TurnEnd Ctx env.locals { s₁ with heap := h, toks := tk } I oI (J (i + 1)) Q) E { s₁ with heap := h, toks := tk })
    (done : ∀ m₁ news₁ h₀' h tk, Ctx h₀' → J vs.length m₁ news₁ → Fr h₀' env.locals h m₁ → News h₀' env.locals h news₁ → Q .next { s₁ with heap := h, toks := tk }) : LoopT prog w A env x body Q E (.ref D) s₁
/-- a loop before turn i -/
inductive TurnAt (s₁ : Shared) (L I D : Addr) (vs : List Value) (Ctx : Heap → Prop) (J : Nat → (Str → Option Value) → List (Addr × Obj) → Prop) : Nat → Shared → Prop
  | mk (h' : Heap) (tk i : Nat) (h₀' : Heap) (m' : Str → Option Value) (news' : List (Addr × Obj)) (oI : Obj) (hi : i ≤ vs.length) (hit : h'.IsListIter I D i) (C' : Ctx h₀') (F' : Fr h₀' L h' m') (N' : News h₀' L h' ((I, oI) :: news')) (off : ∀ p ∈ news', p.1 ≠ I) (hJ' : J i m' news') :
    TurnAt s₁ L I D vs Ctx J (vs.length + 1 - i) { s₁ with heap := h', toks := tk }
/-- the same, told without pairs: a turn's walk ends at a post that is open -/
theorem LoopT.mk {prog : Program} {w : World} {A : Around} {env : Env} {x : Str} {body : List Stmt} {Q : Flow → Shared → Prop} {E : Value → Shared → Prop} {s : Shared} {hs : Heap} {ks : Nat}
    (D : Addr) (vs : List Value) (n : Nat) (Ctx : Heap → Prop) (h₀ : Heap) (m : Str → Option Value) (news : List (Addr × Obj)) (J : Nat → (Str → Option Value) → List (Addr × Obj) → Prop)
    (hh : A.handled = none) (C : Ctx h₀) (F : Fr h₀ env.locals hs m) (N : News h₀ env.locals hs news) (hD : ∀ i m news, J i m news → (D, W.listOf vs.toArray n) ∈ news) (h0 : J 0 m news)
    (turn : ∀ i v m₁ news₁ h₀' h tk I oI, oI.cls = .type "list_iterator" → vs[i]? = some v → Ctx h₀' → J i m₁ news₁ → (∀ p ∈ news₁, p.1 ≠ I) → Fr h₀' env.locals h (fun y => if y = x then some v else m₁ y) → News h₀' env.locals h ((I, oI) :: news₁) →
      ∀ Qb : Flow → Shared → Prop, (∀ f h' tk' h₀' m₂ news₂, f = .next ∨ f = .cont → Ctx h₀' → Fr h₀' env.locals h' m₂ → News h₀' env.locals h' ((I, oI) :: news₂) → (∀ p ∈ news₂, p.1 ≠ I) → J (i + 1) m₂ news₂ → Qb f { s with heap := h', toks := tk' }) →
      wpAny (model prog w) A (execs body env) Qb (fun _ _ => False) { s with heap := h, toks := tk })
    (done : ∀ m₁ news₁ h₀' h tk, Ctx h₀' → J vs.length m₁ news₁ → Fr h₀' env.locals h m₁ → News h₀' env.locals h news₁ → Q .next { s with heap := h, toks := tk }) :
    LoopT prog w A env x body Q E (.ref D) { s with heap := hs, toks := ks } :=
  .of D vs n Ctx h₀ m news J hh C F N hD h0 (fun i v m₁ news₁ h₀' h tk I oI a b c d e f g =>
    wpAny_mono (turn i v m₁ news₁ h₀' h tk I oI a b c d e f g _ fun f h' tk' h₀' m₂ news₂ hf C' F' N' off j => by
      rcases hf with rfl | rfl <;> exact .mk h' tk' h₀' m₂ news₂ C' F' N' off j) (fun _ _ h => h) fun _ _ h => h.elim) done
theorem For_turn {Q : Flow → Shared → Prop} {x : Str} {px pos : Pos} {iter : Expr} {body : List Stmt} (hx : env.kindOf x = some .local)
    (hp : (env.scope.kind == .class || (env.scope.kind == .module && env.locals != env.globals)) = false)
    (h : wpAny (model prog w) A (eval iter env) (LoopT prog w A env x body Q E) E s)
    (hs : ∀ x, foldedSetIterable iter env x = pure x := by intro _; rfl)
    (hE : PassesOwn (model prog w) A env E := by passes_own) :
    wpAny (model prog w) A (exec (.For (.Name x px) iter body [] pos) env) Q E s := by
  refine wpAny_For (wpAny_mono h (fun xv s₁ h₁ => ?_) fun _ _ e => e) hs
  cases h₁ with
  | of D vs n Ctx h₀ m news J hh C F N hD hJ turn done =>
  have hls : s₁.heap.IsList D vs.toArray := PySem.IsL.isList (n := n) (N _ (hD _ _ _ hJ)).1
  have hne : D ≠ s₁.heap.objs.size := Nat.ne_of_lt (Heap.lt_size (N _ (hD _ _ _ hJ)).1)
  refine wpAny_pyIter_list hls ?_
  have W := Walks.list (prog := prog) (w := w) hh s₁.heap.objs.size D hne vs.toArray
  have hsz : vs.toArray.size = vs.length := by simp
  generalize hI : s₁.heap.objs.size = I at W ⊢
  have hIn : h₀.get? I = none := by
    cases q : h₀.get? I with
    | none => rfl
    | some o => exact absurd (Heap.lt_size (F.keep _ _ q)) (by rw [hI]; exact Nat.lt_irrefl _)
  have hIL : I ≠ env.locals := fun q => absurd F.ns.lt (by rw [hI, q]; exact Nat.lt_irrefl _)
  refine codeAny_forLoop (R := fun r s' => match r with | .ok f => Q f s' | .error e => cameBackBy (model prog w) A env E e s')
    (TurnAt s₁ env.locals I D vs Ctx J) ?_ (vs.length + 1)
    (.mk _ s₁.toks 0 h₀ m news { cls := .type "list_iterator", data := .fields #[.ref D, .int 0 0] } (Nat.zero_le _) ⟨_, hI ▸ Heap.get?_push_size _ rfl, rfl, rfl⟩ C (F.push _) (fun p hp => ?_) (fun p hp q => absurd (Heap.lt_size (N p hp).1) (by rw [hI, q]; exact Nat.lt_irrefl _)) hJ)
  · intro k s' H
    cases H with
    | mk h' tk i h₀' m' news' oI hi hit C' F' N' off hJ' =>
    have hI' := (N' _ (.head _)).2
    have hls' : h'.IsList D vs.toArray := PySem.IsL.isList (n := n) (N' _ (.tail _ (hD _ _ _ hJ'))).1
    have next : ∀ h₁ : Heap, (∀ b o, b ∉ [I] → h'.get? b = some o → h₁.get? b = some o) → Fr h₀' env.locals h₁ m' ∧ News h₀' env.locals h₁ news' := fun h₁ hk₁ =>
      ⟨⟨F'.ns.at' fun o e => hk₁ _ o (by simpa using Ne.symm hIL) e, fun b o e => hk₁ b o (fun q => by rw [List.mem_singleton.mp q, hI'.2] at e; cases e) (F'.keep b o e), F'.above⟩,
        fun p hp => ⟨hk₁ _ _ (by simpa using off p hp) (N' p (.tail _ hp)).1, (N' p (.tail _ hp)).2⟩⟩
    by_cases hlt : i < vs.length
    · refine W.item i _ _ _ (by rw [hsz]; exact hlt) ⟨hit, hls'⟩ fun v h₁ tk₁ hP hst₁ hk₁ => ?_
      obtain ⟨F₁, N₁⟩ := next h₁ hk₁
      refine wpAny_assign_Name (wpAny_storeName_local hx F₁.ns (fun h₂ hn₂ hs₂ => ?_) hp)
      have F₂ := F₁.set hn₂ hs₂
      have N₂ := N₁.set hs₂
      obtain ⟨oI₂, heI, hcI, hdI⟩ : h₂.IsListIter I D (i + 1) := hst₁.1.at fun o e => (hs₂.2 I hIL).trans e
      have hv : vs[i]? = some v := by simpa using hP
      refine wpAny_mono (wpAny_passesOwn hE (turn i v m' news' h₀' h₂ _ I oI₂ hcI hv C' hJ' off F₂ (fun p hp => ?_))) (fun f s₃ h₃ => ?_) fun _ _ e => e
      · rcases List.mem_cons.mp hp with rfl | hp
        · exact ⟨heI, hI'⟩
        · exact N₂ p hp
      have fin : ∀ {H9 : Heap} {t9 : Nat} {s₃ : Shared}, TurnNx Ctx env.locals { s₁ with heap := H9, toks := t9 } I oI₂ (J (i + 1)) s₃ → ∃ k, k < vs.length + 1 - i ∧ TurnAt s₁ env.locals I D vs Ctx J k s₃ := fun H => by
        cases H with
        | mk h'' tk'' h₀'' m₂ news₂ C₂ F₃ N₃ off₃ j =>
        exact ⟨_, Nat.sub_lt_sub_left (Nat.lt_succ_of_lt hlt) (Nat.lt_succ_self i), .mk h'' tk'' (i + 1) h₀'' m₂ news₂ oI₂ hlt ⟨_, (N₃ _ (.head _)).1, hcI, hdI⟩ C₂ F₃ N₃ off₃ j⟩
      cases f with
      | ret v => exact h₃
      | brk => exact h₃
      | cont => exact fin h₃
      | next => exact fin h₃
    · have e : i = vs.length := Nat.le_antisymm hi (Nat.not_lt.mp hlt)
      subst e
      refine W.done _ _ _ (by rw [hsz]; exact ⟨hit, hls'⟩) fun h₁ tk₁ hk₁ => wpAny_execs_nil ?_
      obtain ⟨F₁, N₁⟩ := next h₁ hk₁
      exact done m' news' h₀' h₁ tk₁ C' hJ' F₁ N₁
  · rcases List.mem_cons.mp hp with rfl | hp
    · exact ⟨hI ▸ Heap.get?_push_size _ rfl, hIL, hIn⟩
    · exact ⟨Heap.get?_push_of_some _ (N p hp).1, (N p hp).2⟩
end
end Mine
end

section
open PySem PySem.W PyProof.Rows
/-- between two texts: the walk forgets the lines of the text before, as a fresh process has none -/
theorem Mine.calm19 : ∀ (prog : Program) (w : World) (A : Around) (env : Env) (E : Value → Shared → Prop) (s : Shared) (Q : Flow → Shared → Prop), Q .next s → wpAny (model prog w) A (execs [] env) Q E s := by
  w_top off
  intro prog w A env E s Q h
  walk1
  exact h
end

section
open PySem PySem.W PyProof.Rows PySem.Calls PySem.SeqAt
set_option Elab.async false
set_option maxRecDepth 100000
set_option maxHeartbeats 1000000
namespace Mine
section
variable {prog : Program} {w : World} {A₀ A : Around} {s : Shared} {base h₀ g₀ : Heap} {outer : List Env} {L : Addr} {m : Str → Option Value} {env : Env} {news : List (Addr × Obj)} {K : Frag} {p : Program} {loose : List Str} {mean : ExcName → Option Value} {mg mb : Str → Option Value}
  {R : Result → Shared → Prop} {name qual : Str} {params : Arguments} {body : List Stmt} {scope : Scope} {dV kV doc pm cdv ct oc : Value} {an od : Option Addr} {osl : Array (Option Value)} {f : Addr} {args : Args} {binds : List (Str × Value)}
theorem frames_mem {b : Addr} (hf : env.frame = some L) (hm : b ∈ (env :: outer).filterMap (·.frame)) : b = L ∨ b ∈ outer.filterMap (·.frame) := by
  obtain ⟨e, he, hfe⟩ := List.mem_filterMap.mp hm
  rcases List.mem_cons.mp he with rfl | he
  · exact .inl (Option.some.inj (hf.symm.trans hfe)).symm
  · exact .inr (List.mem_filterMap.mpr ⟨e, he, hfe⟩)
/-- the ground of a called def: what the call hands back holds over a ground that was turned -/
theorem groundT (B : Below A₀ base outer h₀) (F : Fr h₀ L s.heap m) (X₀ : K.In h₀) (N : News h₀ L s.heap news) (T : Top p loose mean mg mb h₀) (XB : K.In base) (TB : Top p loose mean mg mb base) (D : KtsDicts (outer.filterMap (·.frame)) h₀)
    (T0 : KtsTurn (outer.filterMap (·.frame)) g₀ h₀) (hA : A.frames = some (env :: outer)) (hf : env.frame = some L) (hke : env.scope.kind = .function) :
    Fr h₀ L (hideAll s.heap (news.map (·.1))) m ∧ Below A base (env :: outer) (hideAll s.heap (news.map (·.1))) ∧ h₀.StaysIn (hideAll s.heap (news.map (·.1))) ∧ KtsDicts ((env :: outer).filterMap (·.frame)) (hideAll s.heap (news.map (·.1))) ∧
      ∀ v s', LeaveS ((env :: outer).filterMap (·.frame)) A₀ base outer K p loose mean mg mb g₀ h₀ L m (hideAll s.heap (news.map (·.1))) R v s' → R (.ok (.ret v)) s' := by
  obtain ⟨FG, BG, st, lv⟩ := groundX (R := R) B F N hA hf hke
  have F0 := FG
  obtain ⟨⟨oL, es, ep, hLg, hLd, hLk, hLf⟩, -, -⟩ := FG
  have hN : ∀ (sl : Array (Option Value)) h', h'.get? L = some { oL with slots := sl } → Heap.Ns h' L m := fun sl h' e => ⟨_, es, ep, e, hLd, hLk, hLf⟩
  refine ⟨F0, BG, st, fun b hb => ?_, fun v s' hl => ?_⟩
  · rcases frames_mem hf hb with rfl | hb
    · exact ⟨oL, es, ep, hLg, hLd⟩
    · obtain ⟨o, es', n', ho', hd'⟩ := D b hb
      exact ⟨o, es', n', st b o ho', hd'⟩
  · rcases hl with ⟨L', m', news', F', N', k⟩ | ⟨g', L', m', news', T', F', N', k⟩
    · exact lv v s' ⟨L', m', news', F', N', k⟩
    have nL₀ : h₀.get? L = none := kts_self F
    obtain ⟨sl, hs⟩ := T'.up hLg
    obtain ⟨T₁, S₁⟩ := kts_turn_at (h := s'.heap) (fs := outer.filterMap (·.frame)) (g := h₀)
      (fun b hb => by
        obtain ⟨_, o, ho', _⟩ := B.frames.mem hb
        exact ⟨o, ho'⟩)
      (fun b o e nmem => F'.keep b o (T'.other b o (st b o e) (fun q => by
        rcases frames_mem hf q with z | z
        · rw [z, nL₀] at e
          cases e
        · exact nmem z)))
      (fun b o e hm => by
        obtain ⟨sl', hs'⟩ := T'.up (st b o e)
        exact ⟨sl', F'.keep _ _ hs'⟩)
    have B₃ : Below A₀ base outer (ktsHeap s'.heap (outer.filterMap (·.frame)) h₀) := ⟨B.stack, fun b o e => T₁.other b o (B.stays b o e) (fun hm => by
      rw [(B.frames.mem hm).1] at e
      cases e), B.frames.of_keeps fun b o e _ => by
      obtain ⟨sl', hs'⟩ := T₁.up e
      exact ⟨_, hs', rfl⟩⟩
    refine k _ (T0.trans T₁) ⟨hN sl _ (F'.keep _ _ hs), S₁, by rw [T₁.size]; exact F.above⟩ (fun p hp => ⟨(N' p hp).1, fun q => ?_, ?_⟩) B₃ (XB.keeps B₃.stays) (TB.keeps B₃.stays) (D.turn T₁)
    · have := (N' p hp).2.2; rw [q, hs] at this; cases this
    · refine T₁.none_ _ ?_
      cases q : h₀.get? p.1 with
      | none => rfl
      | some o =>
        obtain ⟨sl', hs'⟩ := T'.up (st _ _ q)
        have := (N' p hp).2.2
        rw [hs'] at this
        cases this
/-- a def without cells is called -/
theorem code_turn (B : Below A₀ base outer h₀) (F : Fr h₀ L s.heap m) (X₀ : K.In h₀) (N : News h₀ L s.heap news) (T : Top p loose mean mg mb h₀) (XB : K.In base) (TB : Top p loose mean mg mb base) (D : KtsDicts (outer.filterMap (·.frame)) h₀)
    (T0 : KtsTurn (outer.filterMap (·.frame)) g₀ h₀) (hA : A.frames = some (env :: outer)) (hf : env.frame = some L) (hke : env.scope.kind = .function)
    (ho : K.lookup f = some ⟨oc, od, .func (fnOf name qual params body scope dV kV doc pm an cdv ct), osl⟩) (hcd : codeIn K cdv qual = true) (hroom : A.depth < recursionLimit)
    (hbind : BindsTo s (fnOf name qual params body scope dV kV doc pm an cdv ct) args binds) (hloc : ∀ y ∈ binds, scope.names.lookup y.1 = some .local)
    (h : ∀ g L' h₁, Fr h₀ L g m → Fr g L' h₁ (fun y => binds.reverse.lookup y) → News g L' h₁ news → Below A base (env :: outer) g → K.In g → Top p loose mean mg mb g → KtsDicts ((env :: outer).filterMap (·.frame)) g →
      ∀ Qb : Flow → Shared → Prop, (∀ fl s', LeaveS ((env :: outer).filterMap (·.frame)) A₀ base outer K p loose mean mg mb g₀ h₀ L m g R (match fl with | .ret v => v | _ => .none) s' → Qb fl s') →
      wpAny (model prog w) (A.deeper (envOf qual scope L' f cdv)) (execs body (envOf qual scope L' f cdv))
        Qb (fun _ _ => False)
        { s with heap := h₁, toks := s.toks + binds.length })
    (hcell : ∀ x ∈ scope.names, x.2 ≠ .cell) (hco : scope.isCoroutine = false) (hgen : scope.isGenerator = false) (hk : scope.kind = .function) : codeAny (model prog w) A (.call (.ref f) args) R s := by
  obtain ⟨FG, BG, st, DG, lv⟩ := groundT (R := R) B F X₀ N T XB TB D T0 hA hf hke
  have X := X₀.keeps F.keep
  refine codeAny_call_def (fd := fnOf name qual params body scope dV kV doc pm an cdv ct) (body := body) (binds := binds) hroom (X _ _ ho) rfl (T.nolimit.keeps F.keep) (codeRec_of X hcd) rfl hbind hcell hloc (fun h₁ hns hk₁ => ?_) hco hgen hk
  exact wpAny_mono (h _ s.heap.objs.size h₁ FG ⟨hns, fun b o e => hk₁ b o (of_hideAll _ e), Nat.le_of_eq (hideAll_size _ _)⟩
    (fun p hp => ⟨hk₁ _ _ (N p hp).1, Nat.ne_of_lt (Heap.lt_size (N p hp).1), hideAll_none _ (List.mem_map_of_mem hp)⟩) BG (X₀.keeps st) (T.keeps st) DG _ fun _ _ hl => hl) (fun fl s' hl => lv _ _ hl) fun _ _ y => y.elim
/-- a def with cells is called -/
theorem code_turnC (B : Below A₀ base outer h₀) (F : Fr h₀ L s.heap m) (X₀ : K.In h₀) (N : News h₀ L s.heap news) (T : Top p loose mean mg mb h₀) (XB : K.In base) (TB : Top p loose mean mg mb base) (D : KtsDicts (outer.filterMap (·.frame)) h₀)
    (T0 : KtsTurn (outer.filterMap (·.frame)) g₀ h₀) (hA : A.frames = some (env :: outer)) (hf : env.frame = some L) (hke : env.scope.kind = .function)
    (ho : K.lookup f = some ⟨oc, od, .func (fnOf name qual params body scope dV kV doc pm an cdv ct), osl⟩) (hcd : codeIn K cdv qual = true) (hroom : A.depth < recursionLimit)
    (hbind : BindsTo s (fnOf name qual params body scope dV kV doc pm an cdv ct) args binds) (hkind : (binds.all fun y => scope.names.lookup y.1 == some .local || scope.names.lookup y.1 == some .cell) = true)
    (hnd : ((cellsFrom 0 scope.names []).map (·.1)).Nodup)
    (h : ∀ g L' h₁ tk cells, Fr h₀ L g m → Fr g L' h₁ (bindL (envOfC qual scope L' f cdv).kindOf binds fun _ => none) → News g L' h₁ (cells ++ news) →
      CellsAre (bindC (envOfC qual scope L' f cdv).kindOf binds fun _ => none) (cellsFrom (L' + 1) scope.names []) cells → Below A base (env :: outer) g → K.In g → Top p loose mean mg mb g → KtsDicts ((env :: outer).filterMap (·.frame)) g → (∀ p ∈ news, p.1 < L') →
      ∀ Qb : Flow → Shared → Prop, (∀ fl s', LeaveS ((env :: outer).filterMap (·.frame)) A₀ base outer K p loose mean mg mb g₀ h₀ L m g R (match fl with | .ret v => v | _ => .none) s' → Qb fl s') →
      wpAny (model prog w) (A.deeper (envOfC qual scope L' f cdv)) (execs body (envOfC qual scope L' f cdv))
        Qb (fun _ _ => False)
        { s with heap := h₁, toks := tk })
    (hco : scope.isCoroutine = false) (hgen : scope.isGenerator = false) (hk : scope.kind = .function) : codeAny (model prog w) A (.call (.ref f) args) R s := by
  obtain ⟨FG, BG, st, DG, lv⟩ := groundT (R := R) B F X₀ N T XB TB D T0 hA hf hke
  have X := X₀.keeps F.keep
  refine codeAny_call_function (fd := fnOf name qual params body scope dV kV doc pm an cdv ct) hroom (X _ _ ho) rfl hco hgen rfl (codeRec_of X hcd) (hbind _ _ _ _ ?_)
  refine wpAny_newFunctionEnv_cells hk (kindsX hkind _) fun env' he s' x => ?_
  subst he
  refine ⟨(T.nolimit.keeps F.keep).keeps x.toInCall.keep, codeAny_func ?_⟩
  obtain ⟨h₁, tk, rfl, _⟩ := x.done
  have hk₁ := x.toInCall.keep
  obtain ⟨cells, NC, Y⟩ := Cl.news (h₀ := s.heap) (Nat.le_refl _) fun n c hm => ⟨x.cell n c (lookup_of_mem_nodup (cellsFrom_names scope.names 0 (s.heap.objs.size + 1) [] [] rfl ▸ hnd) hm), x.above n c hm⟩
  refine wpAny_mono (h _ s.heap.objs.size h₁ tk cells FG ⟨x.toInCall.ns, fun b o e => hk₁ b o (of_hideAll _ e), Nat.le_of_eq (hideAll_size _ _)⟩ (fun p hp => ?_) Y BG (X₀.keeps st) (T.keeps st) DG (fun p hp => Heap.lt_size (N p hp).1) _ fun _ _ hl => hl) (fun fl s' hl => lv _ _ hl) fun _ _ y => y.elim
  rcases List.mem_append.mp hp with hp | hp
  · refine ⟨(NC p hp).1, (NC p hp).2.1, ?_⟩
    cases q : (hideAll s.heap (news.map (·.1))).get? p.1 with
    | none => rfl
    | some o => have := of_hideAll _ q; rw [(NC p hp).2.2] at this; cases this
  · exact ⟨hk₁ _ _ (N p hp).1, Nat.ne_of_lt (Heap.lt_size (N p hp).1), hideAll_none _ (List.mem_map_of_mem hp)⟩
end
end Mine
end

section
open PySem PySem.W PyProof.Rows
/-- between two texts: the walk forgets the lines of the text before, as a fresh process has none -/
theorem Mine.calm21 : ∀ (prog : Program) (w : World) (A : Around) (env : Env) (E : Value → Shared → Prop) (s : Shared) (Q : Flow → Shared → Prop), Q .next s → wpAny (model prog w) A (execs [] env) Q E s := by
  w_top off
  intro prog w A env E s Q h
  walk1
  exact h
end

section
open PySem PySem.W PyProof.Rows PySem.Calls PySem.SeqAt
set_option Elab.async false
set_option maxRecDepth 100000
set_option maxHeartbeats 1000000
namespace Mine
theorem ints_keys {prog : Program} {w : World} : ∀ {vs : List Value} {kvs : List (Int × Value)}, vs.length = kvs.length → (∀ (j : Nat) (v : Value), vs[j]? = some v → ∃ k x, kvs[j]? = some (k, x) ∧ (intKind prog w).is k v = true) → IntsAre vs (kvs.map (·.1))
  | [], [], _, _ => .nil
  | v :: vs, (k, x) :: kvs, hl, h => by
    obtain ⟨k', x', e, hi⟩ := h 0 v rfl
    cases e
    obtain ⟨t, rfl⟩ := Value.isInt_shape (show Value.isInt k v = true from hi)
    exact .cons k t (ints_keys (by simpa using hl) fun j u hu => by simpa using h (j + 1) u (by simpa using hu))
  | [], _ :: _, hl, _ => by cases hl
  | _ :: _, [], hl, _ => by cases hl
section
variable {prog : Program} {w : World} {A : Around} {E : Value → Shared → Prop} {s : Shared} {h₀ : Heap} {L : Addr} {m : Str → Option Value} {news : List (Addr × Obj)} {env : Env}
theorem fr_but1 {h h' : Heap} {B : Addr} (F : Fr h₀ L h m) (k : ∀ b o, b ≠ B → h.get? b = some o → h'.get? b = some o) (hL : B ≠ L) (h0 : h₀.get? B = none) : Fr h₀ L h' m :=
  ⟨F.ns.at' fun o e => k L o (Ne.symm hL) e, fun b o e => k b o (fun q => by rw [q, h0] at e; cases e) (F.keep b o e), F.above⟩
theorem dict_sorted {d : Addr} {o : Obj} {kvs : List (Int × Value)} {Q : Value → Shared → Prop} (hh : A.handled = none) (F : Fr h₀ L s.heap m) (N : News h₀ L s.heap news) (hm : (d, o) ∈ news) (hd : o.IsDictOf (intKind prog w) kvs) (lo : (d == sysModules) = false) (h64 : kvs.length < 64)
    (h : ∀ B h' tk c vs' ns', Fr h₀ L h' m → News h₀ L h' ((B, W.listOf vs'.toArray c) :: news) → (∀ q ∈ news, q.1 < B) → IntsAre vs' ns' → ns'.Perm (kvs.map (·.1)) → ns'.Pairwise (· ≤ ·) → Q (.ref B) { s with heap := h', toks := tk }) :
    wpAny (model prog w) A (call (.builtin "sorted") [.ref d]) Q E s := by
  obtain ⟨ep, hat⟩ := (kda_dict N hm hd).dictAt
  refine kdu_sorted (kdl_dict (ep := ep) lo) hh F N hat (by rw [sizeLine_eq]; omega) fun B h' tk vs F' N' l1 hl hv => ?_
  have hI := ints_keys hl hv
  have z := N' _ (.head _)
  have ho : h'.get? B = some (PyProof.Rows.seqObj "list" vs.toArray 0) := z.1
  refine wpAny_call_entry PyProof.Rows.slot_list_sort ⟨_, z.1, rfl⟩ PyProof.Rows.entry_list_sort (list_sort_tree (n := 0) (vs := vs) ho hI (by omega) fun out ns' hI' hp hP => ⟨.none, rfl, ?_⟩) (PyProof.Rows.args_list_sort _)
  have e1 : (h'.update B (Obj.mapSeq fun _ => (#[] : Array Value))).get? B = some (PyProof.Rows.seqObj "list" #[] _) := get?_update_seq ho fun _ => #[]
  have e2 := Heap.get?_push_of_some (PyProof.Rows.seqObj "list" #[] 0) (Heap.get?_push_of_some (PyProof.Rows.seqObj "tuple" vs.toArray 0) e1)
  have e3 := get?_update_seq e2 fun _ => out
  have k : ∀ b o, b ≠ B → h'.get? b = some o → (sortedHeap h' B vs out).get? b = some o := fun b o n e => by
    unfold sortedHeap
    rw [Heap.get?_update_other _ _ (Ne.symm n)]
    refine Heap.get?_push_of_some _ (Heap.get?_push_of_some _ ?_)
    rw [Heap.get?_update_other _ _ (Ne.symm n)]
    exact e
  refine h B (sortedHeap h' B vs out) tk (if out.size == (#[] : Array Value).size then (if (#[] : Array Value).size == vs.toArray.size then 0 else 0 + 1) else (if (#[] : Array Value).size == vs.toArray.size then 0 else 0 + 1) + 1) out.toList ns' (fr_but1 F' k z.2.1 z.2.2) ?_ l1 hI' hp hP
  intro p hp
  rcases List.mem_cons.mp hp with rfl | hp
  · rw [Array.toArray_toList]
    exact ⟨e3, z.2⟩
  · have q := N' p (.tail _ hp)
    exact ⟨k _ _ (Nat.ne_of_lt (l1 p hp)) q.1, q.2⟩
theorem dict_min {d : Addr} {o : Obj} {kvs : List (Int × Value)} {Q : Value → Shared → Prop} (hh : A.handled = none) (F : Fr h₀ L s.heap m) (N : News h₀ L s.heap news) (hm : (d, o) ∈ news) (hd : o.IsDictOf (intKind prog w) kvs) (lo : (d == sysModules) = false) (hne : 0 < kvs.length)
    (h : ∀ h' M (t : Tok) tk, Fr h₀ L h' m → News h₀ L h' news → M ∈ kvs.map (·.1) → (∀ a ∈ kvs.map (·.1), M ≤ a) → Q (.int M t) { s with heap := h', toks := tk }) :
    wpAny (model prog w) A (call (.builtin "min") [.ref d]) Q E s := by
  obtain ⟨ep, hat⟩ := (kda_dict N hm hd).dictAt
  have hlt : d < s.heap.objs.size := Heap.lt_size (N _ hm).1
  have up : ∀ b o, s.heap.get? b = some o → (s.heap.push { cls := .type "dict_keyiterator", data := .fields #[.ref d, .int 0 0, .int kvs.length 0, .int ep 0] }).get? b = some o := fun b o e => Heap.get?_push_of_some _ e
  refine call_min_walk (wpAny_pyIter_dict lo hat ?_)
  refine ⟨s.heap.objs.size, _, _, _, _, _, _, rfl, Walks.dictKeys (A := A.in1) hh _ d (Nat.ne_of_lt hlt) kvs ep, ⟨⟨_, Heap.get?_push_size _ rfl, rfl, rfl⟩, hat.at' fun o e => up _ o e⟩, fun b hb => ?_, hne, CmpOf.ints_lt (fun i => ((kvs[i]?).map (·.1)).getD 0) (fun i v hv => ?_), fun v h' tk hP hk => ?_⟩
  · show b < (s.heap.push _).objs.size
    rw [size_push']
    rcases List.mem_cons.mp hb with e | hb
    · rw [e]; exact Nat.lt_succ_self _
    · rw [List.mem_singleton.mp hb]; exact Nat.lt_succ_of_lt hlt
  · obtain ⟨k, x, e, hi⟩ := hv
    obtain ⟨t, rfl⟩ := Value.isInt_shape (show Value.isInt k v = true from hi)
    exact ⟨t, by rw [e]; rfl⟩
  · obtain ⟨k, x, e, hi⟩ := hP
    obtain ⟨t, rfl⟩ := Value.isInt_shape (show Value.isInt k v = true from hi)
    obtain ⟨h1, h2⟩ := argBest_lt (fun i => ((kvs[i]?).map (·.1)).getD 0) (kvs.length - 1)
    have hk' : ∀ b o, s.heap.get? b = some o → h'.get? b = some o := fun b o eo => hk b o (fun hb => absurd (Heap.lt_size eo) (by rw [List.mem_singleton.mp hb]; exact Nat.lt_irrefl _)) (up b o eo)
    refine h h' k t tk (F.grownK hk') (N.grown hk') (List.mem_map.mpr ⟨_, List.mem_of_getElem? e, rfl⟩) fun a ha => ?_
    obtain ⟨⟨k', x'⟩, hm', rfl⟩ := List.mem_map.mp ha
    obtain ⟨j, hj⟩ := List.mem_iff_getElem?.mp hm'
    have hjl : j < kvs.length := (List.getElem?_eq_some_iff.mp hj).1
    have := h2 j (by omega)
    simp only [e, hj, Option.map_some, Option.getD_some] at this
    exact this
open LCg LCt in
/-- a comprehension with a test over a dict's keys -/
theorem ListComp_dictT {ct elt iter : Expr} {x : Str} {px : Pos} {scope : Scope} {cl : List (Str × Addr)} {pos : Pos} {d : Addr} {o : Obj} {kvs : List (Int × Value)} {Q : Value → Shared → Prop} (hh : A.handled = none)
    (hclos : closureFor scope env = pure cl) (hcell : ∀ y ∈ scope.names, y.2 ≠ .cell) (hkind : scope.kind = .function)
    (hnames : ∀ y ∈ scope.names, y.2 = .local → scope.names.lookup y.1 = some .local) (hx : scope.names.lookup x = some .local)
    (hit : wpAny (model prog w) A (eval iter env) (fun xv s₁ => xv = .ref d ∧ s₁ = s) E s)
    (F : Fr h₀ L s.heap m) (N : News h₀ L s.heap news) (hm : (d, o) ∈ news) (hd : o.IsDictOf (intKind prog w) kvs) (lo : (d == sysModules) = false) (hz : kvs.length < 1000)
    (R : ∀ g : Heap, CompRestT prog w A h₀ L m env ct elt x scope cl { s with heap := g } (fun nw => (d, o) ∈ nw) (fun i v => ∃ k t, (kvs[i]?).map (·.1) = some k ∧ v = .int k t) (FinE h₀ L m { s with heap := g } Q) kvs.length 0 [] news)
    (hs : ∀ x, foldedSetIterable iter env x = pure x := by intro _; rfl) :
    wpAny (model prog w) A (eval (.ListComp elt [⟨.Name x px, iter, [ct], 0⟩] scope pos) env) Q E s := by
  rw [eval_ListComp]
  refine wpAny_comprehension_free (use := none) rfl hs hclos hkind hnames (wpAny_mono hit (fun xv s₁ h₁ => ?_) fun _ _ e => e)
  obtain ⟨rfl, rfl⟩ := h₁
  obtain ⟨ep, hat⟩ := (kda_dict N hm hd).dictAt
  have hat2 : ∃ es, o.ExactDict ∧ o.data = .dict es ep ∧ KeysOf (intKind prog w) es ∧ Pairs (intKind prog w) es.toList kvs ∧ (kvs.map (·.1)).Nodup := by
    obtain ⟨o', es, ho', r⟩ := hat
    have : o' = o := Option.some.inj (ho'.symm.trans (N _ hm).1)
    subst this
    exact ⟨es, r⟩
  have hlt : d < s₁.heap.objs.size := Heap.lt_size (N _ hm).1
  have up : ∀ b o, s₁.heap.get? b = some o → (s₁.heap.push { cls := .type "dict_keyiterator", data := .fields #[.ref d, .int 0 0, .int kvs.length 0, .int ep 0] }).get? b = some o := fun b o e => Heap.get?_push_of_some _ e
  have W := Walks.dictKeys (prog := prog) (w := w) (knd := intKind prog w) hh s₁.heap.objs.size d (Nat.ne_of_lt hlt) kvs ep
  have W' : Walks prog w A s₁.heap.objs.size [s₁.heap.objs.size, d] [s₁.heap.objs.size] kvs.length (fun i v => ∃ k t, (kvs[i]?).map (·.1) = some k ∧ v = .int k t) (fun i h => h.IsKeyIter s₁.heap.objs.size d i kvs.length ep ∧ h.DictAt (intKind prog w) d kvs ep) :=
    { sub := W.sub, frame := W.frame, done := W.done, self := W.self,
      item := fun i s Q E hi st hQ => W.item i s Q E hi st fun v h' tk hP => hQ v h' tk (by
        obtain ⟨k, x, e, hi⟩ := hP
        obtain ⟨t, rfl⟩ := Value.isInt_shape (show Value.isInt k v = true from hi)
        exact ⟨k, t, by rw [e]; rfl, rfl⟩) }
  refine wpAny_pyIter_dict lo hat ?_
  refine block_T W' (by rw [sizeLine_eq]; omega) (fun i h st => by obtain ⟨o, e, _⟩ := st.1; exact ⟨o, e⟩) (fun i h h' oI nw st e e' _ N' S => ⟨by obtain ⟨o', q, r⟩ := st.1; rw [e] at q; cases q; exact ⟨oI, e', r⟩, ?_⟩) hcell hkind hx ⟨⟨_, Heap.get?_push_size _ rfl, rfl, rfl⟩, hat.at' fun o e => up _ o e⟩ (fun b hb => ?_)
    (F.keeps up) (N.grown up) (Nat.ne_of_lt F.ns.lt) (next_is_new F) (fun p hp => Nat.ne_of_lt (Heap.lt_size (N p hp).1)) hm (R _) ?_
  · obtain ⟨es, r⟩ := hat2
    exact ⟨o, es, (N' _ S).1, r⟩
  · show b < (s₁.heap.push _).objs.size
    rw [Heap.size_push]
    rcases List.mem_cons.mp hb with rfl | hb
    · exact Nat.lt_succ_self _
    · rw [List.mem_singleton.mp hb]; exact Nat.lt_succ_of_lt hlt
  · intro D C h' tk m' ys news' F' N' o1 hn hC₀ hD₀ hCL hDL hCD offC fin
    refine ⟨m', hn, fun h'' hs'' => fin D h'' tk (F'.change hs'' hCL hC₀) (fun p hp => ?_) o1⟩
    refine ⟨hs''.extBut _ _ ?_ (N' p hp).1, (N' p hp).2⟩
    rcases List.mem_cons.mp hp with rfl | hp
    · exact Ne.symm hCD
    · exact offC p hp
end
end Mine
end

section
open PySem PySem.W PyProof.Rows
/-- between two texts: the walk forgets the lines of the text before, as a fresh process has none -/
theorem Mine.calm23 : ∀ (prog : Program) (w : World) (A : Around) (env : Env) (E : Value → Shared → Prop) (s : Shared) (Q : Flow → Shared → Prop), Q .next s → wpAny (model prog w) A (execs [] env) Q E s := by
  w_top off
  intro prog w A env E s Q h
  walk1
  exact h
end

section
open PySem PySem.W PyProof.Rows
set_option Elab.async false
set_option maxHeartbeats 1000000
namespace Mine
abbrev Kv := Int × Value
/-- the keys rise -/
def Rising (rs : List Kv) : Prop := rs.Pairwise fun a b => a.1 < b.1
/-- how many keys are less -/
def place (k : Int) : List Kv → Nat
  | [] => 0
  | r :: rs => if r.1 < k then place k rs + 1 else 0
theorem place_le (k : Int) : ∀ rs : List Kv, place k rs ≤ rs.length
  | [] => Nat.le_refl _
  | r :: rs => by
    have := place_le k rs
    unfold place
    split <;> simp <;> omega
theorem place_lt {k : Int} : ∀ {rs : List Kv}, Rising rs → ∀ {i : Nat} {r : Kv}, rs[i]? = some r → (r.1 < k ↔ i < place k rs)
  | [], _, i, r, e => by simp at e
  | a :: rs, h, i, r, e => by
    obtain ⟨h1, h2⟩ := List.pairwise_cons.mp h
    unfold place
    cases i with
    | zero =>
      simp only [List.getElem?_cons_zero, Option.some.injEq] at e
      subst e
      split <;> simp <;> omega
    | succ i =>
      simp only [List.getElem?_cons_succ] at e
      split
      · rw [place_lt h2 e]; omega
      · have := h1 r (List.mem_of_getElem? e)
        constructor
        · intro q; omega
        · intro q; omega
theorem place_there {k : Int} {rs : List Kv} (h : Rising rs) {v : Value} (hm : (k, v) ∈ rs) : rs[place k rs]? = some (k, v) := by
  induction rs with
  | nil => cases hm
  | cons a rs ih =>
    obtain ⟨h1, h2⟩ := List.pairwise_cons.mp h
    unfold place
    rcases List.mem_cons.mp hm with e | hm'
    · subst e
      rw [if_neg (by simp)]; rfl
    · have := h1 _ hm'
      rw [if_pos this]
      simpa using ih h2 hm'
theorem rising_split {k : Int} {rs : List Kv} (h : Rising rs) {v : Value} (hm : (k, v) ∈ rs) : rs = rs.take (place k rs) ++ (k, v) :: rs.drop (place k rs + 1) := by
  have e := place_there h hm
  obtain ⟨hl, e'⟩ := List.getElem?_eq_some_iff.mp e
  rw [← e', ← List.drop_eq_getElem_cons hl, List.take_append_drop]
theorem del_perm {k : Int} {rs : List Kv} (h : Rising rs) {v : Value} (hm : (k, v) ∈ rs) : rs.Perm ((k, v) :: (rs.take (place k rs) ++ rs.drop (place k rs + 1))) := by
  have := (List.perm_middle (a := (k, v)) (l₁ := rs.take (place k rs)) (l₂ := rs.drop (place k rs + 1)))
  rwa [← rising_split h hm] at this
theorem del_rising {p : Nat} {rs : List Kv} (h : Rising rs) : Rising (rs.take p ++ rs.drop (p + 1)) := by
  refine List.Pairwise.sublist ?_ h
  conv => rhs; rw [← List.take_append_drop p rs]
  refine List.Sublist.append (List.Sublist.refl _) ?_
  rw [← List.drop_drop]
  exact List.drop_sublist _ _
theorem ins_perm {x : Kv} {p : Nat} {rs : List Kv} : (rs.take p ++ x :: rs.drop p).Perm (x :: rs) := by
  have := (List.perm_middle (a := x) (l₁ := rs.take p) (l₂ := rs.drop p))
  rwa [List.take_append_drop] at this
theorem ins_rising {k : Int} {v : Value} : ∀ {rs : List Kv}, Rising rs → (∀ r ∈ rs, r.1 ≠ k) → Rising (rs.take (place k rs) ++ (k, v) :: rs.drop (place k rs))
  | [], _, _ => by simp [place, Rising]
  | a :: rs, h, hn => by
    obtain ⟨h1, h2⟩ := List.pairwise_cons.mp h
    unfold place
    split
    · rename_i hlt
      have ih := ins_rising (v := v) h2 fun r hr => hn r (.tail _ hr)
      simp only [List.take_succ_cons, List.drop_succ_cons, List.cons_append]
      refine List.pairwise_cons.mpr ⟨fun b hb => ?_, ih⟩
      rcases List.mem_cons.mp (ins_perm.mem_iff.mp hb) with rfl | hb
      · exact hlt
      · exact h1 b hb
    · rename_i hge
      have hne := hn a (.head _)
      simp only [List.take_zero, List.drop_zero, List.nil_append]
      refine List.pairwise_cons.mpr ⟨fun b hb => ?_, h⟩
      rcases List.mem_cons.mp hb with rfl | hb
      · show k < b.1; omega
      · have := h1 b hb
        show k < b.1; omega
theorem rising_nodup {rs : List Kv} (h : Rising rs) : (rs.map (·.1)).Nodup := List.pairwise_map.mpr (h.imp fun {a b} q e => by have : a.1 < b.1 := q; have e' : a.1 = b.1 := e; omega)
/-- the dict bears the rows -/
structure Bears (kvs rs : List Kv) : Prop where
  perm : kvs.Perm rs
  rise : Rising rs
theorem Bears.nodup {kvs rs : List Kv} (B : Bears kvs rs) : (kvs.map (·.1)).Nodup := (B.perm.map _).nodup_iff.mpr (rising_nodup B.rise)
theorem Bears.len {kvs rs : List Kv} (B : Bears kvs rs) : kvs.length = rs.length := B.perm.length_eq
theorem valueAt_mem {kvs : List Kv} {k : Int} {v : Value} (h : valueAt kvs k = some v) : (k, v) ∈ kvs := by
  unfold valueAt at h
  obtain ⟨⟨k', v'⟩, e, rfl⟩ := Option.map_eq_some_iff.mp h
  have := List.find?_some e
  simp only [decide_eq_true_eq] at this
  subst this
  exact List.mem_of_find?_eq_some e
theorem valueAt_of {kvs : List Kv} (n : (kvs.map (·.1)).Nodup) {k : Int} {v : Value} (h : (k, v) ∈ kvs) : valueAt kvs k = some v := by
  induction kvs with
  | nil => cases h
  | cons a r ih =>
    obtain ⟨n1, n2⟩ := List.nodup_cons.mp n
    unfold valueAt
    rcases List.mem_cons.mp h with e | h'
    · subst e; simp
    · have hne : ¬ a.1 = k := fun e => n1 (List.mem_map.mpr ⟨_, h', e.symm⟩)
      rw [List.find?_cons_of_neg (by simpa using hne)]
      exact ih n2 h'
theorem valueAt_none {kvs : List Kv} {k : Int} (h : valueAt kvs k = none) : ∀ r ∈ kvs, r.1 ≠ k := by
  unfold valueAt at h
  rw [Option.map_eq_none_iff, List.find?_eq_none] at h
  intro r hr e
  exact h r hr (by simpa using e)
theorem stored_new {kvs : List Kv} {k : Int} {v : Value} (h : ∀ r ∈ kvs, r.1 ≠ k) : stored kvs k v = kvs ++ [(k, v)] := by
  unfold stored
  rw [if_neg]
  simp only [List.any_eq_true, decide_eq_true_eq, not_exists, not_and]
  exact h
theorem without_perm {kvs : List Kv} (n : (kvs.map (·.1)).Nodup) {k : Int} {v : Value} (h : (k, v) ∈ kvs) : kvs.Perm ((k, v) :: without kvs k) := by
  induction kvs with
  | nil => cases h
  | cons a r ih =>
    obtain ⟨n1, n2⟩ := List.nodup_cons.mp n
    unfold without
    rcases List.mem_cons.mp h with e | h'
    · subst e
      rw [List.filter_cons_of_neg (by simp)]
      have : r.filter (fun kv => decide (kv.1 ≠ k)) = r := List.filter_eq_self.mpr fun b hb => by
        simp only [ne_eq, decide_eq_true_eq]
        exact fun e => n1 (List.mem_map.mpr ⟨b, hb, e⟩)
      rw [this]
    · have hne : ¬ a.1 = k := fun e => n1 (List.mem_map.mpr ⟨_, h', e.symm⟩)
      rw [List.filter_cons_of_pos (by simpa using hne)]
      exact ((ih n2 h').cons a).trans (.swap ..)
theorem Bears.put {kvs rs : List Kv} (B : Bears kvs rs) {k : Int} {v : Value} (h : valueAt kvs k = none) : Bears (stored kvs k v) (rs.take (place k rs) ++ (k, v) :: rs.drop (place k rs)) := by
  have hn := valueAt_none h
  refine ⟨?_, ins_rising B.rise fun r hr => hn r (B.perm.mem_iff.mpr hr)⟩
  rw [stored_new hn]
  refine (List.perm_append_comm (l₁ := kvs) (l₂ := [(k, v)])).trans ?_
  exact ((B.perm.cons (k, v))).trans ins_perm.symm
theorem Bears.take {kvs rs : List Kv} (B : Bears kvs rs) {k : Int} {v : Value} (h : valueAt kvs k = some v) : Bears (without kvs k) (rs.take (place k rs) ++ rs.drop (place k rs + 1)) := by
  have hm := valueAt_mem h
  refine ⟨?_, del_rising B.rise⟩
  exact ((without_perm B.nodup hm).symm.trans (B.perm.trans (del_perm B.rise (B.perm.mem_iff.mp hm)))).cons_inv
theorem Bears.there {kvs rs : List Kv} (B : Bears kvs rs) {k : Int} {v : Value} (h : valueAt kvs k = some v) : rs[place k rs]? = some (k, v) := place_there B.rise (B.perm.mem_iff.mp (valueAt_mem h))
theorem Bears.absent {kvs rs : List Kv} (B : Bears kvs rs) {k : Int} (h : valueAt kvs k = none) {r : Kv} (hr : r ∈ rs) : r.1 ≠ k := valueAt_none h r (B.perm.mem_iff.mpr hr)
/-- sorted keys are the rows' keys -/
theorem Bears.sorted {kvs rs : List Kv} (B : Bears kvs rs) {ns : List Int} (p : ns.Perm (kvs.map (·.1))) (o : ns.Pairwise (· ≤ ·)) : ns = rs.map (·.1) :=
  lks_uniq (p.trans (B.perm.map _)) o (List.pairwise_map.mpr (B.rise.imp fun {a b} q => Int.le_of_lt q))
theorem Bears.value {kvs rs : List Kv} (B : Bears kvs rs) {r : Kv} (h : r ∈ rs) : valueAt kvs r.1 = some r.2 := valueAt_of B.nodup (B.perm.mem_iff.mpr h)
theorem Bears.first {kvs : List Kv} {r : Kv} {rs : List Kv} (B : Bears kvs (r :: rs)) {M : Int} (hm : M ∈ kvs.map (·.1)) (hl : ∀ a ∈ kvs.map (·.1), M ≤ a) : M = r.1 := by
  have h1 := (B.perm.map (·.1)).mem_iff.mp hm
  have h2 := hl r.1 ((B.perm.map (·.1)).mem_iff.mpr (by simp))
  rcases List.mem_cons.mp h1 with e | h1
  · exact e
  · obtain ⟨b, hb, rfl⟩ := List.mem_map.mp h1
    have := (List.pairwise_cons.mp B.rise).1 b hb
    have : r.1 < b.1 := this
    omega
theorem place_last {k : Int} {rs : List Kv} (h : ∀ r ∈ rs, r.1 < k) : place k rs = rs.length := by
  induction rs with
  | nil => rfl
  | cons a r ih =>
    unfold place
    rw [if_pos (h a (.head _)), ih fun b hb => h b (.tail _ hb)]
    rfl
theorem place_first {r : Kv} {rs : List Kv} : place r.1 (r :: rs) = 0 := by
  unfold place
  rw [if_neg (by omega)]
end Mine
end

section
open PySem PySem.W PyProof.Rows
/-- between two texts: the walk forgets the lines of the text before, as a fresh process has none -/
theorem Mine.calm25 : ∀ (prog : Program) (w : World) (A : Around) (env : Env) (E : Value → Shared → Prop) (s : Shared) (Q : Flow → Shared → Prop), Q .next s → wpAny (model prog w) A (execs [] env) Q E s := by
  w_top off
  intro prog w A env E s Q h
  walk1
  exact h
end

section
open PySem PySem.W PyProof.Rows PySem.Calls PySem.SeqAt
set_option Elab.async false
set_option maxRecDepth 100000
set_option maxHeartbeats 1000000
namespace Mine
open LCg
/-- what enumerate(list) has made -/
def EnumMade (h₀ : Heap) (L l : Addr) (m : Str → Option Value) (news : List (Addr × Obj)) (s : Shared) (xv : Value) (s₁ : Shared) : Prop :=
  ∃ (e it : Addr) (h : Heap) (tk : Nat), xv = .ref e ∧ s₁ = { s with heap := h, toks := tk } ∧ IsEnum h e it 0 .none ∧ h.IsListIter it l 0 ∧ e ≠ it ∧ Fr h₀ L h m ∧ News h₀ L h news ∧ h₀.get? e = none ∧ h₀.get? it = none ∧ L ≠ e ∧ L ≠ it ∧ ∀ q ∈ news, q.1 ≠ e ∧ q.1 ≠ it
/-- the end of a turn of a comprehension over enumerate -/
def EnumEnd (h₀ : Heap) (L : Addr) (m : Str → Option Value) (s : Shared) (e it C D : Addr) (oe oi oC oD : Obj) (J : Value → List (Addr × Obj) → Prop) (y : Value) (s₂ : Shared) : Prop :=
  ∃ (h : Heap) (tk : Nat) (nw : List (Addr × Obj)), s₂ = { s with heap := h, toks := tk } ∧ Fr h₀ L h m ∧ News h₀ L h ((e, oe) :: (it, oi) :: (C, oC) :: (D, oD) :: nw) ∧ (∀ q ∈ nw, q.1 ≠ e ∧ q.1 ≠ it ∧ q.1 ≠ C ∧ q.1 ≠ D) ∧ J y nw
section
variable {prog : Program} {w : World} {A : Around} {E : Value → Shared → Prop} {s : Shared} {h₀ : Heap} {L : Addr} {m : Str → Option Value} {env : Env}
theorem call_enum {l : Addr} {vs : List Value} {n : Nat} {news : List (Addr × Obj)} (F : Fr h₀ L s.heap m) (N : News h₀ L s.heap news) (hm : (l, W.listOf vs.toArray n) ∈ news) :
    wpAny (model prog w) A (call (.type "enumerate") [.ref l]) (EnumMade h₀ L l m news s) E s := by
  have hl : s.heap.IsList l vs.toArray := PySem.IsL.isList (n := n) (N _ hm).1
  refine call_enumerate_list hl fun h' hE hI _ hk => ?_
  have new : ∀ k, h₀.get? (s.heap.objs.size + k) = none := fun k => by
    cases q : h₀.get? (s.heap.objs.size + k) with
    | none => rfl
    | some o => exact absurd (Heap.lt_size (F.keep _ _ q)) (Nat.not_lt.mpr (Nat.le_add_right _ _))
  have lt : ∀ {b : Nat}, b < s.heap.objs.size → b ≠ s.heap.objs.size + 1 ∧ b ≠ s.heap.objs.size := fun h => ⟨Nat.ne_of_lt (Nat.lt_succ_of_lt h), Nat.ne_of_lt h⟩
  exact ⟨_, _, h', s.toks, rfl, rfl, hE, hI, Nat.succ_ne_self _, F.keeps hk, N.grown hk, new 1, new 0, (lt F.ns.lt).1, (lt F.ns.lt).2, fun q hq => lt (Heap.lt_size (N q hq).1)⟩
/-- where the loop stands -/
def EnumAt (h₀ : Heap) (L : Addr) (m : Str → Option Value) (s : Shared) (e it l C D : Addr) (N : Nat) (J : Nat → List Value → List (Addr × Obj) → Prop) (k : Nat) (s' : Shared) : Prop :=
  ∃ (h : Heap) (tk i : Nat) (ys : List Value) (mC : Str → Option Value) (nw : List (Addr × Obj)) (old : Value), s' = { s with heap := h, toks := tk } ∧ i ≤ N ∧ k = N + 1 - i ∧ ys.length = i ∧ IsEnum h e it i old ∧ h.IsListIter it l i ∧ Fr h₀ L h m ∧ h.Ns C mC ∧
    News h₀ L h ((D, lst ys) :: nw) ∧ (∀ q ∈ nw, q.1 ≠ e ∧ q.1 ≠ it ∧ q.1 ≠ C ∧ q.1 ≠ D) ∧ J i ys nw
theorem comp_enum {elt iter : Expr} {a b : Str} {pa pb tp : Pos} {kk : Nat} {scope : Scope} {cl : List (Str × Addr)} {pos : Pos} {Q : Value → Shared → Prop} {l : Addr} {vs : List Value} {n : Nat} {news : List (Addr × Obj)} (J : Nat → List Value → List (Addr × Obj) → Prop)
    (_F : Fr h₀ L s.heap m) (hh : A.handled = none) (hclos : closureFor scope env = pure cl) (hcell : ∀ y ∈ scope.names, y.2 ≠ .cell) (hkind : scope.kind = .function)
    (hnames : ∀ y ∈ scope.names, y.2 = .local → scope.names.lookup y.1 = some .local) (hxa : scope.names.lookup a = some .local) (hxb : scope.names.lookup b = some .local) (hab : ¬ a = b) (hz : vs.length ≤ sizeLine)
    (hit : wpAny (model prog w) A (eval iter env) (EnumMade h₀ L l m news s) E s) (hl : ∀ i ys nw, J i ys nw → (l, W.listOf vs.toArray n) ∈ nw) (h0 : J 0 [] news)
    (turn : ∀ i v t ys nw e oe it oi C oC D m₂ h tk (E' : Value → Shared → Prop), vs[i]? = some v → J i ys nw → NsObj oC m₂ → m₂ a = some (.int (i : Int) t) → m₂ b = some v → Fr h₀ L h m → News h₀ L h ((e, oe) :: (it, oi) :: (C, oC) :: (D, lst ys) :: nw) →
      (∀ q ∈ nw, q.1 ≠ e ∧ q.1 ≠ it ∧ q.1 ≠ C ∧ q.1 ≠ D) → wpAny (model prog w) A (eval elt (compEnvC scope cl C env)) (EnumEnd h₀ L m s e it C D oe oi oC (lst ys) (fun y nw' => J (i + 1) (ys ++ [y]) nw')) E' { s with heap := h, toks := tk })
    (done : ∀ ys nw D h tk, J vs.length ys nw → Fr h₀ L h m → News h₀ L h ((D, lst ys) :: nw) → (∀ q ∈ nw, q.1 ≠ D) → Q (.ref D) { s with heap := h, toks := tk })
    (hs : ∀ x, foldedSetIterable iter env x = pure x := by intro _; rfl) :
    wpAny (model prog w) A (eval (.ListComp elt [⟨.Tuple [.Name a pa, .Name b pb] kk tp, iter, [], 0⟩] scope pos) env) Q E s := by
  rw [eval_ListComp]
  refine wpAny_comprehension_free (use := none) rfl hs hclos hkind hnames (wpAny_mono hit (fun xv s₁ h₁ => ?_) fun _ _ e => e)
  obtain ⟨e, it, h1, tk1, rfl, rfl, he, hit1, hei, F1, N1, n1, n2, n3, n4, off1⟩ := h₁
  refine wpAny_pyIter_enum he ?_
  refine wpAny_newObj_type (wpAny_newFunctionEnv hcell (by intro y hy; simp at hy) (fun h2 hC hsb => ?_) hkind)
  dsimp only at hC hsb ⊢
  generalize hH2 : h1.push { cls := .type "list", data := .seq ([] : List Value).toArray } = H2 at hC hsb ⊢
  have hz2 : H2.objs.size = h1.objs.size + 1 := by rw [← hH2, Heap.size_push]
  generalize hCa : H2.objs.size = Ca at *
  generalize hDa : h1.objs.size = Da at *
  have old : ∀ b o, h1.get? b = some o → h2.get? b = some o := fun b o q => by
    have hb : b < Da := hDa ▸ Heap.lt_size q
    exact hsb.extBut b o (Nat.ne_of_lt (hz2 ▸ Nat.lt_succ_of_lt hb)) (Heap.get?_push_of_some _ (hH2 ▸ Heap.get?_push_of_some _ q))
  have hD2 : h2.get? Da = some (lst []) := hsb.extBut _ _ (hz2 ▸ Nat.ne_of_lt (Nat.lt_succ_self _)) (Heap.get?_push_of_some _ (hH2 ▸ hDa ▸ Heap.get?_push_size _ rfl))
  have new : ∀ k, Da ≤ k → h₀.get? k = none := fun k hk => by
    cases q : h₀.get? k with
    | none => rfl
    | some o => exact absurd (Heap.lt_size (F1.keep _ _ q)) (Nat.not_lt.mpr (hDa ▸ hk))
  have nD := new Da (Nat.le_refl _)
  have nC := new Ca (hz2 ▸ Nat.le_succ _)
  have ltL : L < Da := hDa ▸ F1.ns.lt
  have ltE : e < Da := hDa ▸ Heap.lt_size he
  have ltI : it < Da := by obtain ⟨_, q, _⟩ := hit1; exact hDa ▸ Heap.lt_size q
  have cd : ∀ {b : Nat}, b < Da → b ≠ Da ∧ b ≠ Ca := fun h => ⟨Nat.ne_of_lt h, Nat.ne_of_lt (hz2 ▸ Nat.lt_succ_of_lt h)⟩
  have ltN : ∀ q ∈ news, q.1 < Da := fun q hq => hDa ▸ Heap.lt_size (N1 q hq).1
  obtain ⟨e1, e2⟩ := cd ltL
  obtain ⟨e3, e4⟩ := cd ltE
  obtain ⟨e5, e6⟩ := cd ltI
  have e7 : Ca ≠ Da := hz2 ▸ Nat.succ_ne_self _
  suffices loop : codeAny (model prog w) A (.compLoop (.ListComp elt [⟨.Tuple [.Name a pa, .Name b pb] kk tp, iter, [], 0⟩] scope pos) 0 (.ref e) (.ref Da) (compEnvC scope cl Ca env)) (compPost (model prog w) A E none Q (.ref Da) Ca)
      { s with heap := h2, toks := tk1 + ([] : List (Str × Value)).length } from codeAny_compStart_list loop (wpAny_pyIter_enum (old _ _ he) loop)
  refine kcp_loop (EnumAt h₀ L m s e it l Ca Da vs.length J) ?_ (vs.length + 1) ⟨h2, _, 0, [], _, news, .none, rfl, Nat.zero_le _, rfl, rfl, old _ _ he, hit1.at fun o q => old _ o q, F1.keeps old, hC, fun q hq => ?_, fun q hq => ?_, h0⟩
  · rintro k s' ⟨h3, tk3, i, ys, mC, nw, ov, rfl, hi, rfl, hyl, hE3, hI3, F3, C3, N3, off3, hJ⟩
    have hls : h3.IsList l vs.toArray := PySem.IsL.isList (n := n) (N3 _ (.tail _ (hl _ _ _ hJ))).1
    by_cases hlt : i < vs.length
    · have hv : vs[i]? = some vs[i] := List.getElem?_eq_getElem hlt
      generalize vs[i] = v at hv
      refine wpAny_pyNext_enum_item hE3 hI3 hls (x := v) (by simpa using hv) hei fun h4 hO4 hI4 hT4 hz4 k4 => ?_
      dsimp only at hT4 hz4 hO4 ⊢
      refine wpAny_letOwnedTupleGo_enum hO4 fun h5 hE5 hs5 => ?_
      have hTe : h3.objs.size ≠ e := fun q => absurd (Heap.lt_size hE3) (by rw [q]; exact Nat.lt_irrefl _)
      have up5 : ∀ b o, b ≠ e → b ≠ it → h3.get? b = some o → h5.get? b = some o := fun b o q1 q2 q => hs5.extBut b o q1 (k4 b o q1 q2 q)
      have hT5 : h5.IsTuple h3.objs.size #[.int i tk3, v] := ⟨_, hs5.extBut _ _ hTe hT4, rfl, _, rfl⟩
      refine kcp_assign (env := compEnvC scope cl Ca env) hh hT5 (lookup_relabel_local hxa) (lookup_relabel_local hxb) (by simp [compEnvC, relabel, hkind]) (C3.at' fun o q => up5 _ o (Ne.symm e4) (Ne.symm e6) q) fun h6 tk6 hn6 hs6 => ?_
      have up6 : ∀ b o, b ≠ e → b ≠ it → b ≠ Ca → h3.get? b = some o → h6.get? b = some o := fun b o q1 q2 q3 q => hs6 b o q3 (up5 b o q1 q2 q)
      obtain ⟨oe, he6, hoe⟩ : ∃ oe : Obj, h6.get? e = some oe ∧ ∀ h : Heap, h.get? e = some oe → IsEnum h e it ((i + 1 : Nat) : Int) v := ⟨_, hs6 e _ e4 hE5, fun _ q => q⟩
      obtain ⟨oi, hi6, hoi⟩ : ∃ oi : Obj, h6.get? it = some oi ∧ ∀ h : Heap, h.get? it = some oi → h.IsListIter it l (i + 1) := by
        obtain ⟨oi, q1, q2, q3⟩ := hI4
        exact ⟨oi, hs6 it _ e6 (hs5.extBut _ _ (Ne.symm hei) q1), fun _ q => ⟨oi, q, q2, q3⟩⟩
      obtain ⟨oC, hc6, hoC⟩ := ns_obj hn6
      have F6 : Fr h₀ L h6 m := ⟨F3.ns.at' fun o q => up6 _ o n3 n4 e2 q, fun b o q => up6 b o (fun r => by rw [r, n1] at q; cases q) (fun r => by rw [r, n2] at q; cases q) (fun r => by rw [r, nC] at q; cases q) (F3.keep b o q), F3.above⟩
      have N6 : News h₀ L h6 ((e, oe) :: (it, oi) :: (Ca, oC) :: (Da, lst ys) :: nw) := fun q hq => by
        rcases List.mem_cons.mp hq with rfl | hq
        · exact ⟨he6, Ne.symm n3, n1⟩
        rcases List.mem_cons.mp hq with rfl | hq
        · exact ⟨hi6, Ne.symm n4, n2⟩
        rcases List.mem_cons.mp hq with rfl | hq
        · exact ⟨hc6, Ne.symm e2, nC⟩
        have z := N3 q hq
        have y : q.1 ≠ e ∧ q.1 ≠ it ∧ q.1 ≠ Ca := by
          rcases List.mem_cons.mp hq with rfl | hq
          · exact ⟨Ne.symm e3, Ne.symm e5, Ne.symm e7⟩
          · exact ⟨(off3 q hq).1, (off3 q hq).2.1, (off3 q hq).2.2.1⟩
        exact ⟨up6 _ _ y.1 y.2.1 y.2.2 z.1, z.2⟩
      refine wpAny_mono (turn i v tk3 ys nw e oe it oi Ca oC Da _ h6 tk6 _ hv hJ hoC ?_ ?_ F6 N6 off3) (fun y s5 h5 => ?_) fun _ _ e => e
      · simp [hab]
      · simp
      obtain ⟨h7, tk7, nw7, rfl, F7, N7, off7, hJ7⟩ := h5
      have zD := (N7 _ (.tail _ (.tail _ (.tail _ (.head _))))).1
      refine append_at (hsz := by show ys.toArray.size ≤ sizeLine; rw [List.size_toArray, hyl]; omega) zD fun h8 hs8 hD8 => ?_
      refine ⟨vs.length + 1 - (i + 1), by omega, h8, tk7, i + 1, ys ++ [y], _, nw7, v, rfl, hlt, rfl, by rw [List.length_append, List.length_singleton, hyl], hoe h8 (hs8.extBut _ _ e3 (N7 _ (.head _)).1), hoi h8 (hs8.extBut _ _ e5 (N7 _ (.tail _ (.head _))).1), F7.change hs8 (Ne.symm e1) nD,
        (hoC.ns (N7 _ (.tail _ (.tail _ (.head _)))).1).sameBut hs8 e7, fun q hq => ?_, off7, hJ7⟩
      rcases List.mem_cons.mp hq with rfl | hq
      · exact ⟨hD8.trans (congrArg some (lst_snoc ys y)), Ne.symm e1, nD⟩
      · have z := N7 q (.tail _ (.tail _ (.tail _ (.tail _ hq))))
        exact ⟨hs8.extBut _ _ (off7 q hq).2.2.2 z.1, z.2⟩
    · have hin : i = vs.length := by omega
      subst hin
      refine wpAny_pyNext_enum_end hh hE3 hI3 hls (by simp) fun h4 k4 => ?_
      refine ⟨mC, C3.at' fun o q => k4 _ o (Ne.symm e6) q, fun h5 hs5 => ?_⟩
      have F4 : Fr h₀ L h4 m := ⟨F3.ns.at' fun o q => k4 _ o n4 q, fun b o q => k4 b o (fun r => by rw [r, n2] at q; cases q) (F3.keep b o q), F3.above⟩
      refine done ys nw Da h5 tk3 hJ (F4.change hs5 (Ne.symm e2) nC) (fun q hq => ?_) fun q hq => (off3 q hq).2.2.2
      have z := N3 q hq
      have y : q.1 ≠ it ∧ q.1 ≠ Ca := by
        rcases List.mem_cons.mp hq with rfl | hq
        · exact ⟨Ne.symm e5, Ne.symm e7⟩
        · exact ⟨(off3 q hq).2.1, (off3 q hq).2.2.1⟩
      exact ⟨hs5.extBut _ _ y.2 (k4 _ _ y.1 z.1), z.2⟩
  · rcases List.mem_cons.mp hq with rfl | hq
    · exact ⟨hD2, Ne.symm e1, nD⟩
    · exact ⟨old _ _ (N1 q hq).1, (N1 q hq).2⟩
  · have hq' := ltN q hq
    exact ⟨(off1 q hq).1, (off1 q hq).2, (cd hq').2, (cd hq').1⟩
end
theorem ints_same {news : List (Addr × Obj)} {xs ys : List Value} {ks : List Int} {n : Nat} (h1 : IntsAre xs ks) (h2 : IntsAre ys ks) (i : Nat) (x y : Value) (e : xs[i]? = some x) (f : ys[i]? = some y) : SameN news n x y := by
  have h0 : ∀ {a b : Value}, Same0 a b → SameN news n a b := fun q => by
    cases n with
    | zero => unfold SameN; exact q
    | succ n => unfold SameN; exact .inl q
  obtain ⟨k, t, rfl, hk⟩ := h1.at i x e
  obtain ⟨k', t', rfl, hk'⟩ := h2.at i y f
  rw [hk] at hk'
  cases hk'
  exact h0 (.inr (.inl ⟨k, t, t', rfl, rfl⟩))
/-- an element's tuple goes onto the ledger -/
theorem enum_end1 {h₀ h' : Heap} {L e it C D : Addr} {m : Str → Option Value} {s : Shared} {oe oi oC oD : Obj} {J : Value → List (Addr × Obj) → Prop} {y : Value} {tk : Nat} {p : Addr × Obj} {nw : List (Addr × Obj)}
    (F : Fr h₀ L h' m) (N : News h₀ L h' (p :: (e, oe) :: (it, oi) :: (C, oC) :: (D, oD) :: nw)) (off : ∀ q ∈ nw, q.1 ≠ e ∧ q.1 ≠ it ∧ q.1 ≠ C ∧ q.1 ≠ D)
    (lt : @LT.lt Nat _ e p.1 ∧ @LT.lt Nat _ it p.1 ∧ @LT.lt Nat _ C p.1 ∧ @LT.lt Nat _ D p.1) (r : J y (p :: nw)) : EnumEnd h₀ L m s e it C D oe oi oC oD J y { s with heap := h', toks := tk } := by
  refine ⟨h', tk, p :: nw, rfl, F, fun q hq => N q ?_, fun q hq => ?_, r⟩
  · simp only [List.mem_cons] at hq ⊢
    rcases hq with h | h | h | h | h | h
    · exact .inr (.inl h)
    · exact .inr (.inr (.inl h))
    · exact .inr (.inr (.inr (.inl h)))
    · exact .inr (.inr (.inr (.inr (.inl h))))
    · exact .inl h
    · exact .inr (.inr (.inr (.inr (.inr h))))
  · rcases List.mem_cons.mp hq with rfl | hq
    · exact ⟨Nat.ne_of_gt lt.1, Nat.ne_of_gt lt.2.1, Nat.ne_of_gt lt.2.2.1, Nat.ne_of_gt lt.2.2.2⟩
    · exact off q hq
/-- two lists of the ledger are put together -/
theorem cat_lists {prog : Program} {w : World} {A : Around} {E : Value → Shared → Prop} {s : Shared} {h₀ : Heap} {L l b : Addr} {m : Str → Option Value} {news : List (Addr × Obj)} {vs ws : List Value} {n1 n2 : Nat} {Q : Value → Shared → Prop} (F : Fr h₀ L s.heap m) (N : News h₀ L s.heap news)
    (h1 : (l, W.listOf vs.toArray n1) ∈ news) (h2 : (b, W.listOf ws.toArray n2) ∈ news) (hz : vs.length + ws.length < 2000)
    (k : ∀ B h', Fr h₀ L h' m → News h₀ L h' ((B, W.listOf (vs ++ ws).toArray 0) :: news) → (∀ q ∈ news, q.1 < B) → Q (.ref B) { s with heap := h' }) : wpAny (model prog w) A (binaryOp .Add (.ref l) (.ref b)) Q E s :=
  add_lists F N (PySem.IsL.isList (n := n1) (N _ h1).1) (PySem.IsL.isList (n := n2) (N _ h2).1) (fun h' F' N' => k _ h' F' N' fun q hq => Heap.lt_size (N q hq).1) (by rw [sizeLine_eq]; omega)
end Mine
end

section
open PySem PySem.W PyProof.Rows
/-- between two texts: the walk forgets the lines of the text before, as a fresh process has none -/
theorem Mine.calm27 : ∀ (prog : Program) (w : World) (A : Around) (env : Env) (E : Value → Shared → Prop) (s : Shared) (Q : Flow → Shared → Prop), Q .next s → wpAny (model prog w) A (execs [] env) Q E s := by
  w_top off
  intro prog w A env E s Q h
  walk1
  exact h
end

section
open PySem PySem.W PyProof.Rows PySem.Calls PySem.SeqAt
set_option Elab.async false
set_option maxRecDepth 100000
set_option maxHeartbeats 1000000
namespace Mine
/-- a frame notes an exception that was made in it -/
theorem note_new {M : Model} {A : Around} {E : Value → Shared → Prop} {s : Shared} {base h : Heap} {env : Env} {outer : List Env} {L e : Addr} {cls : String} {Q : Unit → Shared → Prop}
    (hfr : A.frames = some (env :: outer)) (hf : env.frame = some L) (hkb : base.StaysIn h) (hl : h.FunFrames base (env :: outer)) (hx : Heap.NewExc h s.heap e cls)
    (hQ : ∀ h' a0, Heap.HeldW base (env :: outer) e (.type cls) a0 L h' → s.heap.UpToSlots h' → Q () { s with heap := h' }) : wpAny M A (noteFrame (.ref e) env) Q E s := by
  obtain ⟨ob, t, he, hc, hd⟩ := hx.there
  have fresh : base.get? e = none := by
    cases hq : base.get? e with
    | none => rfl
    | some o' => have := hkb e o' hq; rw [hx.new] at this; cases this
  unfold noteFrame
  simp only [hf]
  refine wpAny_bind (wpAny_field he hd (x := Value.none) rfl ?_)
  rw [if_neg (show ¬ ((Value.none != Value.none) = true) by decide)]
  refine wpAny_entryW (a0 := t) hfr (hl.of_keeps fun b o hb _ => ⟨o, hx.keeps b o hb, rfl⟩) hf he (fun b o hb => hx.keeps b o (hkb b o hb)) fresh hd (show 1 < 6 by decide) rfl fun h' hL => ?_
  obtain ⟨k1, k2, k3, k4⟩ := hL
  exact hQ h' t ⟨k1, fresh, k2, hc ▸ k3⟩ k4
section
variable {prog : Program} {w : World} {A₀ : Around} {E : Value → Shared → Prop} {s' : Shared} {base g g₀ h : Heap} {outer : List Env} {L a e : Addr} {m : Str → Option Value} {cn : Str} {cs : Scope} {ccd : Value} {cl : List (Str × Addr)}
  {b₀ : Stmt} {suite : List Stmt} {pos np : Pos} {rest : List ExceptHandler} {Q : Flow → Shared → Prop} {news : List (Addr × Obj)} {KF : Frag}
  {p : Program} {loose : List Str} {mean : ExcName → Option Value} {mg mb : Str → Option Value} {x : Str} {X T' : String}
/-- an exception made in a frame is caught by the frame's own clause -/
theorem own_caught (K : Below A₀ base outer g) (F : Fr g L h m) (N : News g L h news) (hx : Heap.NewExc h s'.heap e X) (XB : KF.In base) (TB : Top p loose mean mg mb base)
    (D : KtsDicts (outer.filterMap (·.frame)) g) (T0 : KtsTurn (outer.filterMap (·.frame)) g₀ g)
    (ex : nsIn KF mainGlobals x = some none) (hv : bootBuiltins x = some (.type T')) (hn' : x ≠ "__name__")
    (hexc : isSubtype (.type T') (.type "BaseException") = pure true) (hnt : isSubtype (.type ((Manifest.find? T').elim "type" fun y => y.metatype)) (.type "tuple") = pure false) (hsub : isSubtype (.type X) (.type T') = pure true)
    (k : ∀ h' g', KtsTurn (outer.filterMap (·.frame)) g₀ g' → Fr g' L h' m → News g' L h' news → Below A₀ base outer g' → KF.In g' → Top p loose mean mg mb g' → KtsDicts (outer.filterMap (·.frame)) g' →
      wpAny (model prog w) ((A₀.deeper (envX cn cs L a ccd cl)).mark (some (.ref e))) (execs (b₀ :: suite) (envX cn cs L a ccd cl)) Q E { s' with heap := h' })
    (hk : cs.kind = .function := by rfl) (hxx : (envX cn cs L a ccd cl).kindOf x = some .globalImplicit := by rfl) (hd : (x == ("__debug__" : Str)) = false := by decide)
    (hE : PassesOwnAt (model prog w) ((A₀.deeper (envX cn cs L a ccd cl)).mark (some (.ref e))) (A₀.deeper (envX cn cs L a ccd cl)) (envX cn cs L a ccd cl) E := by passes_own) :
    wpAny (model prog w) (A₀.deeper (envX cn cs L a ccd cl)) (noteFrame (.ref e) (envX cn cs L a ccd cl))
      (fun _ s₂ => wpAny (model prog w) (A₀.deeper (envX cn cs L a ccd cl)) (setFlight (.ref e) none) (fun _ s₃ =>
        wpAny (model prog w) (A₀.deeper (envX cn cs L a ccd cl)) (handleBy (.ref e) (envX cn cs L a ccd cl) (.ExceptHandler (some (.Name x np)) none (b₀ :: suite) pos :: rest)) Q E s₃) E s₂) E s' := by
  have K' : Below (A₀.deeper (envX cn cs L a ccd cl)) base (envX cn cs L a ccd cl :: outer) h := pushX K F rfl hk
  have hmem : ∀ {b : Addr}, b ∈ (envX cn cs L a ccd cl :: outer).filterMap (·.frame) → b = L ∨ b ∈ outer.filterMap (·.frame) := fun hm => frames_mem (env := envX cn cs L a ccd cl) rfl hm
  have hin : ∀ env ∈ (envX cn cs L a ccd cl :: outer), ∀ b, env.frame = some b → b ∈ (envX cn cs L a ccd cl :: outer).filterMap (·.frame) := fun env he b hb => List.mem_filterMap.mpr ⟨env, he, hb⟩
  have hBG : ∀ b o, h.get? b = some o → b ∉ (envX cn cs L a ccd cl :: outer).filterMap (·.frame) → (hideAll h ((envX cn cs L a ccd cl :: outer).filterMap (·.frame))).get? b = some o := fun b o q nm => hideAll_get _ q nm
  have hl : ∀ q ∈ news, (hideAll h ((envX cn cs L a ccd cl :: outer).filterMap (·.frame))).get? q.1 = some q.2 := fun q hq => hideAll_get _ (N q hq).1 fun hm => by
    rcases hmem hm with e | hm
    · exact (N q hq).2.1 e
    · obtain ⟨_, o, ho, _⟩ := K.frames.mem hm
      rw [(N q hq).2.2] at ho; cases ho
  have hsm : h.UpToSlots s'.heap := Heap.UpToSlots.of_keeps hx.keeps
  refine note_new K'.stack rfl (fun b o q => of_hideAll _ q) (funFrames_hide K'.frames hin) hx fun h₄ t hheld₄ hsm₄ => ?_
  refine wpAny_landsW hheld₄ fun h₅ hheld hsm₅' => ?_
  have hsm₅ := hsm₄.trans hsm₅'
  obtain ⟨g₅, T₅, F₅, K₅⟩ := kts_ground (name := cn) (scope := cs) (a := a) (cd := ccd) K F hBG hheld.1 (hsm.trans hsm₅)
  have X₅ : KF.In g₅ := XB.keeps K₅.stays
  have P₅ : TopRead p loose mg mb g₅ := topRead_of (TB.keeps K₅.stays)
  obtain ⟨ob, hob, hobc⟩ := hheld.there
  refine wpAny_handleBy_builtin (X := X) (T := T') (b := true) hexc hnt hsub (nameX_B F₅ X₅ P₅ ex hv hn' ⟨rfl, ⟨ob, hob, hobc⟩, ?_⟩ hk hxx hd)
  refine lands_againW hheld fun h₆ hfl₆ hsm₆ => ?_
  obtain ⟨g₆, T₆, F₆, K₆⟩ := kts_ground (name := cn) (scope := cs) (a := a) (cd := ccd) K F hBG hfl₆.1 ((hsm.trans hsm₅).trans hsm₆)
  have Nl : News g₆ L h₆ news := fun q hq => ⟨hfl₆.1 _ _ (hl q hq), (N q hq).2.1, T₆.none_ _ (N q hq).2.2⟩
  exact wpAny_passesOwnAt hE (k h₆ g₆ (T0.trans T₆) F₆ Nl K₆ (XB.keeps K₆.stays) (TB.keeps K₆.stays) (D.turn T₆))
end
section
variable {prog : Program} {w : World} {A₀ A : Around} {s : Shared} {base h₀ g₀ : Heap} {outer : List Env} {L : Addr} {m : Str → Option Value} {env : Env} {news : List (Addr × Obj)} {K : Frag} {p : Program} {loose : List Str} {mean : ExcName → Option Value} {mg mb : Str → Option Value}
  {R : Result → Shared → Prop} {name qual : Str} {params : Arguments} {body : List Stmt} {scope : Scope} {dV kV doc pm cdv ct oc : Value} {an od : Option Addr} {osl : Array (Option Value)} {f cc : Addr} {args : Args} {binds : List (Str × Value)}
/-- a method that says super() is called -/
theorem code_turnS (B : Below A₀ base outer h₀) (F : Fr h₀ L s.heap m) (X₀ : K.In h₀) (N : News h₀ L s.heap news) (T : Top p loose mean mg mb h₀) (XB : K.In base) (TB : Top p loose mean mg mb base) (D : KtsDicts (outer.filterMap (·.frame)) h₀)
    (T0 : KtsTurn (outer.filterMap (·.frame)) g₀ h₀) (hA : A.frames = some (env :: outer)) (hf : env.frame = some L) (hke : env.scope.kind = .function)
    (ho : K.lookup f = some ⟨oc, od, .func (ksFn name qual params body scope dV kV doc pm an cdv ct cc), osl⟩) (hcd : codeIn K cdv qual = true) (hroom : A.depth < recursionLimit)
    (hbind : BindsTo s (ksFn name qual params body scope dV kV doc pm an cdv ct cc) args binds) (hloc : ∀ y ∈ binds, scope.names.lookup y.1 = some .local)
    (h : ∀ g L' h₁, Fr h₀ L g m → Fr g L' h₁ (fun y => binds.reverse.lookup y) → News g L' h₁ news → Below A base (env :: outer) g → K.In g → Top p loose mean mg mb g → KtsDicts ((env :: outer).filterMap (·.frame)) g → (∀ p ∈ news, p.1 < L') →
      ∀ Qb : Flow → Shared → Prop, (∀ fl s', LeaveS ((env :: outer).filterMap (·.frame)) A₀ base outer K p loose mean mg mb g₀ h₀ L m g R (match fl with | .ret v => v | _ => .none) s' → Qb fl s') →
      _root_.PySem.wpAt (model prog w) (A.deeper (ksEnv qual scope L' f cdv cc)) (.func body (ksEnv qual scope L' f cdv cc)) (execs body (ksEnv qual scope L' f cdv cc))
        Qb (fun _ _ => False)
        { s with heap := h₁, toks := s.toks + binds.length })
    (hcell : ∀ x ∈ scope.names, x.2 ≠ .cell) (hco : scope.isCoroutine = false) (hgen : scope.isGenerator = false) (hk : scope.kind = .function) : codeAny (model prog w) A (.call (.ref f) args) R s := by
  obtain ⟨FG, BG, st, DG, lv⟩ := groundT (R := R) B F X₀ N T XB TB D T0 hA hf hke
  refine ks_codeAny_call_defAt (fd := ksFn name qual params body scope dV kV doc pm an cdv ct cc) (body := body) (binds := binds) hroom ((X₀.keeps F.keep) _ _ ho) rfl (T.nolimit.keeps F.keep) (codeRec_of (X₀.keeps F.keep) hcd) rfl hbind hcell hloc (fun h₁ hns hk₁ => ?_) hco hgen hk
  exact ks_wpAt_mono (h _ s.heap.objs.size h₁ FG ⟨hns, fun b o e => hk₁ b o (of_hideAll _ e), Nat.le_of_eq (hideAll_size _ _)⟩
    (fun p hp => ⟨hk₁ _ _ (N p hp).1, Nat.ne_of_lt (Heap.lt_size (N p hp).1), hideAll_none _ (List.mem_map_of_mem hp)⟩) BG (X₀.keeps st) (T.keeps st) DG (fun p hp => Heap.lt_size (N p hp).1) _ fun _ _ hl => hl) (fun fl s' hl => lv _ _ hl) fun _ _ y => y.elim
end
section
variable {prog : Program} {w : World} {A : Around} {E : Value → Shared → Prop} {s : Shared} {h₀ : Heap} {L D : Addr} {news : List (Addr × Obj)}
/-- an item behind a list's end -/
theorem item_out {value slice : PySem.Expr} {vs : List Value} {n : Nat} {k : Int} {t : Tok} {Q : Value → Shared → Prop} (hA : A.handled = none) (N : News h₀ L s.heap news) (hm : (D, W.listOf vs.toArray n) ∈ news) (hk : (vs.length : Int) ≤ k) (hk2 : k < 2 ^ 63)
    (h : ∀ h' tk e, Heap.NewExc s.heap h' e "IndexError" → E (.ref e) { s with heap := h', toks := tk })
    (hs : subscripted slice false (.ref D) (.int k t) = operate [.ref D, .int k t] (getItem (.ref D) (.int k t)) := by with_unfolding_all rfl) (hg : ∀ r, letTemporaryGo value (.ref D) r = pure () := by intro _; with_unfolding_all rfl) :
    wpAny (model prog w) A (subscriptTail value slice (.ref D) (.int k t)) Q E s := by
  have hl : s.heap.IsList D vs.toArray := PySem.IsL.isList (n := n) (N _ hm).1
  refine subscriptTail_builtin hl.typeIs slot_list_getitem.lookup (wpAny_getItem_list_out hA hl (.inr (by simpa using hk)) (by omega) hk2 h) hs hg
end
end Mine
end

section
open PySem PySem.W PyProof.Rows
/-- between two texts: the walk forgets the lines of the text before, as a fresh process has none -/
theorem Mine.calm29 : ∀ (prog : Program) (w : World) (A : Around) (env : Env) (E : Value → Shared → Prop) (s : Shared) (Q : Flow → Shared → Prop), Q .next s → wpAny (model prog w) A (execs [] env) Q E s := by
  w_top off
  intro prog w A env E s Q h
  walk1
  exact h
end

section
open PySem
set_option Elab.async false
namespace Mine
/-- keys that rise -/
abbrev Asc (ks : List Int) : Prop := ks.Pairwise (· < ·)
/-- how many keys lie below -/
def spot (ks : List Int) (k : Int) : Nat := (ks.filter (fun j => decide (j < k))).length
theorem spot_le (ks : List Int) (k : Int) : spot ks k ≤ ks.length := List.length_filter_le _ _
theorem spot_lt {a k : Int} (r : List Int) (h : a < k) : spot (a :: r) k = spot r k + 1 := by
  unfold spot
  rw [List.filter_cons, if_pos (by simpa using h)]
  rfl
theorem spot_ge {a k : Int} {r : List Int} (s : Asc (a :: r)) (h : ¬ a < k) : spot (a :: r) k = 0 := by
  unfold spot
  rw [List.length_eq_zero_iff, List.filter_eq_nil_iff]
  intro b hb
  rcases List.mem_cons.mp hb with rfl | hb
  · simpa using h
  · have := (List.pairwise_cons.mp s).1 b hb
    simp
    omega
theorem spot_iff {k : Int} : ∀ {ks : List Int}, Asc ks → ∀ {i : Nat} {j : Int}, ks[i]? = some j → (j < k ↔ i < spot ks k)
  | [], _, _, _, e => by simp at e
  | a :: r, s, i, j, e => by
    by_cases h : a < k
    · rw [spot_lt r h]
      cases i with
      | zero =>
        cases e
        exact ⟨fun _ => Nat.succ_pos _, fun _ => h⟩
      | succ i =>
        have := spot_iff (k := k) (List.pairwise_cons.mp s).2 (i := i) (j := j) (by simpa using e)
        omega
    · rw [spot_ge s h]
      have hm : j ∈ a :: r := List.mem_of_getElem? e
      refine ⟨fun q => ?_, fun q => absurd q (Nat.not_lt_zero _)⟩
      rcases List.mem_cons.mp hm with rfl | hm
      · exact absurd q h
      · have := (List.pairwise_cons.mp s).1 j hm
        omega
theorem mem_put {ks : List Int} {k j : Int} {p : Nat} (h : j ∈ ks.take p ++ k :: ks.drop p) : j = k ∨ j ∈ ks := by
  rcases List.mem_append.mp h with h | h
  · exact .inr (List.mem_of_mem_take h)
  · rcases List.mem_cons.mp h with h | h
    · exact .inl h
    · exact .inr (List.mem_of_mem_drop h)
theorem Asc.put {k : Int} : ∀ {ks : List Int}, Asc ks → k ∉ ks → Asc (ks.take (spot ks k) ++ k :: ks.drop (spot ks k))
  | [], _, _ => by simp [spot]
  | a :: r, s, hk => by
    obtain ⟨h1, h2⟩ := List.pairwise_cons.mp s
    have hne : k ≠ a := fun e => hk (e ▸ .head _)
    have hr : k ∉ r := fun q => hk (.tail _ q)
    by_cases h : a < k
    · rw [spot_lt r h]
      show Asc (a :: (r.take (spot r k) ++ k :: r.drop (spot r k)))
      refine List.pairwise_cons.mpr ⟨fun b hb => ?_, Asc.put h2 hr⟩
      rcases mem_put hb with rfl | hb
      · exact h
      · exact h1 b hb
    · rw [spot_ge s h]
      show Asc (k :: a :: r)
      refine List.pairwise_cons.mpr ⟨fun b hb => ?_, s⟩
      rcases List.mem_cons.mp hb with rfl | hb
      · omega
      · have := h1 b hb
        omega
theorem Asc.apt {ks : List Int} (s : Asc ks) {i j : Nat} {k : Int} (h1 : ks[i]? = some k) (h2 : ks[j]? = some k) : i = j := by
  obtain ⟨a1, a2⟩ := List.getElem?_eq_some_iff.mp h1
  obtain ⟨b1, b2⟩ := List.getElem?_eq_some_iff.mp h2
  have := List.pairwise_iff_getElem.mp s
  rcases Nat.lt_trichotomy i j with h | h | h
  · have := this i j a1 b1 h
    omega
  · exact h
  · have := this j i b1 a1 h
    omega
theorem put_get {α : Type} {as : List α} {a : α} {p : Nat} (hp : p ≤ as.length) (i : Nat) : (as.take p ++ a :: as.drop p)[i]? = if i < p then as[i]? else if i = p then some a else as[i - 1]? := by
  by_cases h1 : i < p
  · rw [if_pos h1, List.getElem?_append_left (by rw [List.length_take]; omega), List.getElem?_take_of_lt h1]
  · rw [if_neg h1, List.getElem?_append_right (by rw [List.length_take]; omega), List.length_take, Nat.min_eq_left hp]
    by_cases h2 : i = p
    · subst h2
      simp
    · rw [if_neg h2]
      obtain ⟨j, hj⟩ : ∃ j, i - p = j + 1 := ⟨i - p - 1, by omega⟩
      rw [hj, List.getElem?_cons_succ, List.getElem?_drop]
      congr 1
      omega
/-- the befores behind an insertion -/
theorem befores_put {b c : Int} : ∀ {pg : List Int} {p n : Nat}, pg.length = n + 1 → p ≤ n → (pg.take n).take p ++ b :: ((pg.take n).set p c).drop p = (pg.take p ++ b :: c :: pg.drop (p + 1)).take (n + 1)
  | _ :: _, 0, 0, _, _ => rfl
  | _ :: _, 0, _ + 1, _, _ => rfl
  | x :: _, _ + 1, _ + 1, h, k => congrArg (x :: ·) (befores_put (Nat.succ.inj h) (Nat.le_of_succ_le_succ k))
theorem set_take {b : Int} {r : List Int} : ∀ {t : List Int} {q : Nat}, q < t.length → (t.set q b).take (q + 1) ++ r = t.take q ++ b :: r
  | _ :: _, 0, _ => rfl
  | x :: _, _ + 1, h => congrArg (x :: ·) (set_take (Nat.lt_of_succ_lt_succ h))
/-- the afters behind an insertion -/
theorem afters_put {b c : Int} : ∀ {pg : List Int} {p n : Nat}, pg.length = n + 1 → p ≤ n → ((pg.drop 1).set (p - 1) b).take p ++ c :: (pg.drop 1).drop p = (pg.take p ++ b :: c :: pg.drop (p + 1)).drop 1
  | _ :: _, 0, _, _, _ => rfl
  | _ :: _, _ + 1, _, h, k => set_take (Nat.lt_of_lt_of_le k (Nat.le_of_eq (Nat.succ.inj h).symm))
end Mine
end

section
open PySem PySem.W PyProof.Rows
/-- between two texts: the walk forgets the lines of the text before, as a fresh process has none -/
theorem Mine.calm31 : ∀ (prog : Program) (w : World) (A : Around) (env : Env) (E : Value → Shared → Prop) (s : Shared) (Q : Flow → Shared → Prop), Q .next s → wpAny (model prog w) A (execs [] env) Q E s := by
  w_top off
  intro prog w A env E s Q h
  walk1
  exact h
end

section
open PySem PySem.W PyProof.Rows
set_option Elab.async false
set_option maxRecDepth 100000
set_option maxHeartbeats 0
namespace Mine
def vw : Program := view PySem.Challenge.pw_ke0002_02 [0, 1, 3, 4, 5, 6, 7, 8, 9, 10, 12, 13, 14, 16, 17, 18, 19, 20, 21, 22, 24, 25, 27, 28, 29, 30, 31, 32, 33, 34, 35]
def loose : List Str := ["_tuplegetter", "TreeConf", "Record", "Reference", "Node", "RecordNode", "LonelyRootNode", "LeafNode", "ReferenceNode", "RootNode", "InternalNode"]
theorem left_seen (w : World) : ((fencedOpening treeTable PySem.Challenge.pw_ke0002_02 w 14000).bind (topFromT treeTable PySem.Challenge.pw_ke0002_02 w 14000)).map (fun s => openSeen vw loose (importedModules PySem.Challenge.pw_ke0002_02.main.body) (fun s => xlAt vw [] s && recOk [] s) true s) = some (openGood vw loose) := by
  unfold fencedOpening topFromT
  rw [PySem.W.Fast.te10110043849684766642, PySem.W.Fast.te10274390034422433532, PySem.W.Fast.te1435165496053646825, PySem.W.Fast.te14289696077712309145, PySem.W.Fast.te4187177175401517315, PySem.W.Fast.te14364793385576792824]
  kernel_rfl
local macro_rules | `(tactic| o_head $H:term) => `(tactic| (
  refine holds_open (q := vw) (loose := loose) (Xt := fun s => xlAt vw [] s && recOk [] s) (XP := XL vw []) (Yf := Hook.obs $H) (Ya := Hook.val $H) (YP := Hook.says $H) (N := 14000) ?hl (Hook.of $H) (Hook.keeps $H)
    (fun s e => xl_of s (Bool.and_eq_true_iff.mp e).1) XL.keeps (by rfl) (by rfl) (by rfl) (fun s e => recFacts_of (Bool.and_eq_true_iff.mp e).2) (by rfl) (by assumption) (by decide +kernel) ⟨rfl, rfl, rfl, rfl, rfl, by decide +kernel⟩ ?hw ?hc
  case hl =>
    refine left_of2 left_seen ?_
    intro w
    unfold fencedOpening topFromT
    rw [PySem.W.Fast.te10110043849684766642, PySem.W.Fast.te10274390034422433532, PySem.W.Fast.te1435165496053646825, PySem.W.Fast.te14289696077712309145, PySem.W.Fast.te14364793385576792824]
    kernel_rfl))
theorem said : OpenLaw.wellSaid PySem.Challenge.rw_ke0002_02 = true := by
  unfold OpenLaw.wellSaid OpenRow.wellSaid OpenRow.partSaid looksOpen
  repeat' (with_reducible refine look_both ?_ ?_)
  all_goals ((try rw [PySem.W.Fast.te11788848310118352699]); (try rw [PySem.W.Fast.te9807087744658564304]); (try rw [PySem.W.Fast.te12862048085361865435]); (try rw [PySem.W.Fast.te8377067652309620493]); (try rw [PySem.W.Fast.te18344453789297297638]); (try rw [PySem.W.Fast.te14412699480532031325]); (try rw [PySem.W.Fast.te8326940854005059898]); (try rw [PySem.W.Fast.te17691160309236699985]); (try rw [PySem.W.Fast.te17119622794617984870]); (try rw [PySem.W.Fast.sDec_eq]); (try rw [PySem.W.Fast.te3471404346716756564]); (try rw [PySem.W.Fast.named_eq]); (try rw [PySem.W.Fast.te8179353310426384613]); (try rw [PySem.W.Fast.te10501279942588096481]); (try rw [PySem.W.Fast.te9558739934217749035]); (try rw [PySem.W.Fast.te16286561074155671207]); (try rw [PySem.W.Fast.te6984425678791042302]); (try rw [PySem.W.Fast.te797321630700447069]); (try rw [PySem.W.Fast.te9572597257264208301]); (try rw [PySem.W.Fast.te482687673346738481]); (try rw [PySem.W.Fast.te10792542408131684335]); kernel_rfl)
local macro_rules | `(tactic| o_law) => `(tactic| refine holds_law said fun _ => ?_)
open_top hd for PySem.Challenge.rw_ke0002_02
end Mine
end

section
open PySem PySem.W PyProof.Rows
/-- between two texts: the walk forgets the lines of the text before, as a fresh process has none -/
theorem Mine.calm33 : ∀ (prog : Program) (w : World) (A : Around) (env : Env) (E : Value → Shared → Prop) (s : Shared) (Q : Flow → Shared → Prop), Q .next s → wpAny (model prog w) A (execs [] env) Q E s := by
  w_top off
  intro prog w A env E s Q h
  walk1
  exact h
end

section
open PySem PySem.W PyProof.Rows
set_option Elab.async false
set_option maxRecDepth 100000
set_option maxHeartbeats 4000000
namespace Mine
/-- the names that the top may bind otherwise -/
def lsw : List Str := ["_tuplegetter", "TreeConf", "Record", "Reference", "Node", "RecordNode", "LonelyRootNode", "LeafNode", "ReferenceNode", "RootNode", "InternalNode", "bisect_left", "insort_right"]
theorem lsw_eq : looseW vw loose = lsw := by kernel_rfl
abbrev Led := List (Addr × Obj)
def Apart (tl news : Led) : Prop := ∀ q ∈ news, ∀ p ∈ tl, q.1 ≠ p.1
/-- the tree t, at any frame of the text's own, from a ledger of which Pre holds: ends with r and a ledger with tl more, of which Post holds; it never raises -/
def TreeSpec (w : World) (t : Sem Value) (cost : Nat) (Pre : Led → Prop) (Post : Value → Led → Led → Prop) : Prop :=
  ∀ (mean : ExcName → Option Value) (mg mb : Str → Option Value) (dp un : Nat) (gd : Option (List Code)) (cn : Str) (nms : List (Str × NameKind)) (ig ic : Bool) (mo : List (Str × Const)) (a : Addr) (ccd : Value) (cl : List (Str × Addr)) (outer : List Env) (A₀ : Around) (base h₀ : Heap) (L : Addr)
    (m : Str → Option Value) (news : Led) (s : Shared) (Q E : Value → Shared → Prop),
    Below A₀ base outer h₀ → Fr h₀ L s.heap m → (hd.heap_1 w.params).In h₀ → News h₀ L s.heap news → Top vw lsw mean mg mb h₀ → dp + cost < 400 → un + 8 * cost < 5000 → Pre news →
    (∀ r tl h' tk', Fr h₀ L h' m → News h₀ L h' (tl ++ news) → Apart tl news → Post r news tl → Q r { s with heap := h', toks := tk' }) →
    wpAny (model PySem.Challenge.rw_ke0002_02.row.prog w) (ktrTop dp un gd cn ⟨.function, nms, ig, ic, mo⟩ L a ccd cl outer) t Q E s
abbrev CallSpec (w : World) (f : Value) (vs : List Value) (kw : List (Str × Value)) (cost : Nat) (Pre : Led → Prop) (Post : Value → Led → Led → Prop) : Prop := TreeSpec w (call f vs kw) cost Pre Post
theorem Apart.nil {news : Led} : Apart [] news := fun _ _ _ h => nomatch h
theorem Apart.cons {p : Addr × Obj} {tl news : Led} (h : ∀ q ∈ news, q.1 ≠ p.1) (t : Apart tl news) : Apart (p :: tl) news := fun q hq p' hp => by
  rcases List.mem_cons.mp hp with rfl | hp
  · exact h q hq
  · exact t q hq p' hp
theorem sub_tail {p : Addr × Obj} {a b : Led} (h : ∀ q ∈ a, q ∈ b) : ∀ q ∈ a, q ∈ p :: b := fun q hq => .tail _ (h q hq)
section
variable (A : Around) (env : Env) (C : Addr) (vals : List Value) (kw : List (Str × Value)) (hv : Option Value) (dp un : Nat) (gd : Option (List Code)) (cn : Str) (cs : Scope) (L a : Addr) (ccd : Value) (cl : List (Str × Addr)) (outer : List Env)
theorem m_dd : (A.deeper env).depth = A.depth + 1 := rfl
theorem m_du : (A.deeper env).units = A.units + 3 := rfl
theorem m_kd : (A.under (.builtin "type.__call__" ⟨.ref C :: vals, kw⟩)).depth = A.depth + 1 := rfl
theorem m_ku : (A.under (.builtin "type.__call__" ⟨.ref C :: vals, kw⟩)).units = A.units + 1 := rfl
theorem m_1d : A.in1.depth = A.depth := rfl
theorem m_1u : A.in1.units = A.units + 1 := rfl
theorem m_md : (A.mark hv).depth = A.depth := rfl
theorem m_mu : (A.mark hv).units = A.units := rfl
theorem m_td : (ktrTop dp un gd cn cs L a ccd cl outer).depth = dp := rfl
theorem m_tu : (ktrTop dp un gd cn cs L a ccd cl outer).units = un := rfl
end
theorem sub_nil0 {a : Led} : ∀ q ∈ a, q ∈ [] ++ a := fun _ h => h
theorem sub_nil {a b : Led} (h : ∀ q ∈ a, q ∈ b) : ∀ q ∈ [] ++ a, q ∈ b := h
theorem sub_cons {p : Addr × Obj} {l a b : Led} (hp : p ∈ b) (h : ∀ q ∈ l ++ a, q ∈ b) : ∀ q ∈ (p :: l) ++ a, q ∈ b := fun q hq => by
  rcases List.mem_cons.mp hq with rfl | hq
  · exact hp
  · exact h q hq
theorem news_sub {h₀ h : Heap} {L : Addr} {a b : Led} (N : News h₀ L h b) (k : ∀ q ∈ a, q ∈ b) : News h₀ L h a := fun p hp => N p (k p hp)
theorem TreeSpec.use {w : World} {t : Sem Value} {cost : Nat} {Pre : Led → Prop} {Post : Value → Led → Led → Prop} (S : TreeSpec w t cost Pre Post)
    {mean : ExcName → Option Value} {mg mb : Str → Option Value} {dp un : Nat} {gd : Option (List Code)} {cn : Str} {nms : List (Str × NameKind)} {ig ic : Bool} {mo : List (Str × Const)} {a : Addr} {ccd : Value} {cl : List (Str × Addr)} {outer : List Env} {A₀ : Around} {base h₀ : Heap} {L : Addr}
    {m : Str → Option Value} {news : Led} {s : Shared} {hs : Heap} {ks : Nat} {Q E : Value → Shared → Prop}
    (B : Below A₀ base outer h₀) (F : Fr h₀ L hs m) (X : (hd.heap_1 w.params).In h₀) (N : News h₀ L hs news) (T : Top vw lsw mean mg mb h₀) (hd : dp + cost < 400) (hu : un + 8 * cost < 5000) (pre : Pre news)
    (k : ∀ r tl h' tk', Fr h₀ L h' m → News h₀ L h' (tl ++ news) → Apart tl news → Post r news tl → Q r { s with heap := h', toks := tk' }) :
    wpAny (model PySem.Challenge.rw_ke0002_02.row.prog w) (ktrTop dp un gd cn ⟨.function, nms, ig, ic, mo⟩ L a ccd cl outer) t Q E { s with heap := hs, toks := ks } :=
  S mean mg mb dp un gd cn nms ig ic mo a ccd cl outer A₀ base h₀ L m news { s with heap := hs, toks := ks } Q E B F X N T hd hu pre k
end Mine
end

section
open PySem PySem.W PyProof.Rows
/-- between two texts: the walk forgets the lines of the text before, as a fresh process has none -/
theorem Mine.calm35 : ∀ (prog : Program) (w : World) (A : Around) (env : Env) (E : Value → Shared → Prop) (s : Shared) (Q : Flow → Shared → Prop), Q .next s → wpAny (model prog w) A (execs [] env) Q E s := by
  w_top off
  intro prog w A env E s Q h
  walk1
  exact h
end

section
open PySem PySem.W PyProof.Rows Mine
local macro_rules | `(tactic| k_room) => `(tactic| first | exact room1 (by assumption) (by rfl) | exact room2 (by assumption) (by rfl) | exact room0 (by assumption) (by rfl) | (simp only [m_dd, m_kd, m_1d, m_md, m_td, PySem.recursionLimit]; omega))
local macro_rules | `(tactic| k_units) => `(tactic| first | exact room2 (by assumption) (by rfl) | exact room1 (by assumption) (by rfl) | exact room3 (by assumption) (by rfl) | exact room4 (by assumption) (by rfl) | (simp only [m_du, m_ku, m_1u, m_mu, m_tu, PySem.cLine]; omega))
local macro_rules | `(tactic| k_lt $h:ident) => `(tactic| (replace $h := allLt_of $h; (try simp only [AllLt, and_true] at $h:ident)))
local macro_rules | `(tactic| walk_at "MINE apart") => `(tactic| first | exact Apart.nil | (refine' Apart.cons (fun q hq => ?a) ?b; (case a => refine neN ?_; (try dsimp only); first | (have h9 := ktn_ltOf (by assumption) q hq; replace h9 := ltN h9; omega) | (have h9 := ktn_ltOf (And.right (by assumption)) q hq; replace h9 := ltN h9; omega) | (have h9 := ktn_ltOf (And.right (And.right (by assumption))) q hq; replace h9 := ltN h9; omega) | (have h9 := ktn_ltOf (And.right (And.right (And.right (by assumption)))) q hq; replace h9 := ltN h9; omega)); (case b => walk_at "MINE apart")))
local macro_rules | `(tactic| walk_at "MINE tail") => `(tactic| first | exact fun p hp => hp | (refine sub_tail ?_; walk_at "MINE tail"))
local macro_rules | `(tactic| walk_at "MINE sub") => `(tactic| first | (refine sub_nil ?_; walk_at "MINE tail") | (refine sub_cons ?_ ?_; (focus (first | k_mem | skip)); walk_at "MINE sub"))
local macro_rules | `(tactic| k_mem) => `(tactic| assumption)
local macro_rules | `(tactic| walk_at "MINE made") => `(tactic| (rename Fr _ _ _ _ => kF; rename News _ _ _ _ => kN; rename ∀ (_ : Value) (_ : List (Addr × Obj)) (_ : Heap) (_ : Nat), _ => kP; refine' kP _ _ _ _ kF (news_sub kN ?ms) ?ma ⟨_, _, _, _, _, _, _, _, _, rfl, rfl⟩; (case ms => walk_at "MINE sub"); (case ma => walk_at "MINE apart")))
local macro_rules | `(tactic| walk_at "execs cons") => `(tactic| ((with_reducible show wpAny _ _ _ _ _ _); first | (k_here; k_gentoks) | (k_here; k_made; walk_at "execs cons") | ((try dsimp only); with_reducible refine execs_consT ?_)))
local macro_rules | `(tactic| walk_at "eval BinOp") => `(tactic| (first | ((with_reducible show wpAny _ _ _ _ _ _); (k_here; k_compRoot)) | with_reducible refine BinOpT ?_))
local macro_rules | `(tactic| walk_at "spliced") => `(tactic| ((with_reducible refine' args_consT ?_ ?he); (case he => rfl)))
local macro_rules | `(tactic| walk_at "spliced") => `(tactic| (k_here; k_dflt ((with_reducible refine' argE ?c ?F ?v ?_); (case c => kernel_rfl!); (case F => k_asm); (case v => walk_at "MINE look"); k_whole)))
local macro_rules | `(tactic| walk_at "exec Assign") => `(tactic| ((with_reducible refine' AssignT ?_ ?he); (case he => rfl)))
local macro_rules | `(tactic| walk_at "eval Slice") => `(tactic| (with_reducible refine SliceT ?_))
local macro_rules | `(tactic| walk_at "MINE look") => `(tactic| first | eq_refl | with_reducible assumption | ((repeat (refine skip_ne (by decide) ?_)); with_reducible assumption))
local macro_rules | `(tactic| walk_at "eval Name") => `(tactic| (k_here; k_dflt (first | ((with_reducible refine' nameG ?c ?g ?F ?X ?T ?e ?_); (case c => kernel_rfl!); (case g => rfl); (case F => k_asm); (case X => k_asm); (case T => k_asm); (case e => k_is); k_whole) | ((with_reducible refine' nameB ?c ?g ?b ?F ?X ?T ?e ?v ?n ?_); (case c => kernel_rfl!); (case g => rfl); (case b => rfl); (case F => k_asm); (case X => k_asm); (case T => k_asm); (case e => k_is); (case v => first | boot_by_name | boot_fast); (case n => decide); k_whole) | ((with_reducible refine' nameX_C ?N ?c ?m ?d ?_ ?a ?b ?e); (case a => rfl); (case b => kernel_rfl!); (case e => decide); (case N => k_asm); (case c => rfl); (case m => k_mem); (case d => k_asm); k_whole))))
local macro_rules | `(tactic| walk_at "eval Name") => `(tactic| (k_here; k_dflt ((with_reducible refine' nameE ?c ?F ?v ?_); (case c => kernel_rfl!); (case F => k_asm); (case v => walk_at "MINE look"); k_whole)))
local macro_rules | `(tactic| walk_at "eval Attribute Name") => `(tactic| (k_here; k_dflt ((with_reducible refine' attrE ?c ?F ?v ?_); (case c => kernel_rfl!); (case F => k_asm); (case v => walk_at "MINE look"); k_whole)))
local macro_rules | `(tactic| walk_at "storeName") => `(tactic| (k_here; k_dflt ((with_reducible refine' storeE ?c ?F ?N ?_); (case c => kernel_rfl!); (case F => k_asm); (case N => k_asm); k_whole; intro h' F' N'; (try k_sweep))))
local macro_rules | `(tactic| walk_at "eval Attribute Attribute") => `(tactic| ((with_reducible refine' AttrT ?_ ?he); (case he => with_unfolding_all rfl)))
local macro_rules | `(tactic| k_in) => `(tactic| ((with_reducible refine' Frag.In.keeps ?X (Fr.keep ?F)); (case F => with_reducible assumption); (case X => with_reducible assumption)))
local macro_rules | `(tactic| walk_at "callWith ref") => `(tactic| (k_here; k_dflt (first | ((with_reducible refine' callK ?w ?X ?a ?_ ?he ?hp); (case w => kernel_rfl!); (case he => rfl); (case hp => kernel_rfl!); (case X => k_asm); (case a => k_is); k_whole) | ((with_reducible refine' callK0 ?w ?X ?a ?_); (case w => kernel_rfl!); (case X => k_in); (case a => k_is); k_whole) | ((with_reducible refine' callM ?w ?X ?N ?q ?a ?_ ?he ?hp); (case w => kernel_rfl!); (case he => rfl); (case hp => kernel_rfl!); (case X => k_asm); (case N => k_asm); (case q => k_mem); (case a => k_is); k_whole) | ((with_reducible refine' callWith_KW ?X ?a ?w ?_ ?hp ?he); (case w => kernel_rfl!); (case he => rfl); (case hp => kernel_rfl!); (case X => k_asm); (case a => k_is); k_whole))))
local macro_rules | `(tactic| walk_at "getAttr ref") => `(tactic| (k_here; k_dflt ((with_reducible refine' get_own ?k1 ?k2 ?k3 ?k4 ?k5 ?k6 ?k7 ?k8 ?k9 ?_); (case k1 => k_asm); (case k2 => k_asm); (case k3 => k_inst); (case k4 => k_is); (case k5 => k_is); (case k6 => k_is); (case k7 => k_is); (case k8 => k_get); (case k9 => k_handed); k_whole)))

section
open PySem PySem.W PyProof.Rows PySem.Calls
set_option Elab.async false
set_option maxRecDepth 100000
set_option maxHeartbeats 400000
namespace Mine
section
variable {prog : Program} {w : World} {M : Model} {A : Around} {E : Value → Shared → Prop} {s : Shared} {K : Frag} {C x : Addr} {Q : Value → Shared → Prop}

theorem issub_kind : builtinKind "issubclass" = none := by decide +kernel
theorem issub_plain : plainId "issubclass" = true := by decide +kernel
theorem issub_entry : entryFor table "issubclass" = some Builtin.«issubclass» := entryFor_of_tree (by kernel_rfl)
theorem issub_args (a b : Value) : argsOk "issubclass" ⟨[a, b], []⟩ := by unfold argsOk; kernel_rfl
theorem issubn_entry : entryFor table "issubclass.nested" = some Builtin.«issubclass.nested» := entryFor_of_tree (by kernel_rfl)
theorem tuple_typeOf : typeOf (.type "tuple") = pure (.type "type") := by first | rfl | kernel_rfl
theorem tuple_isType : isType (.type "tuple") = pure true := by first | rfl | kernel_rfl | (unfold isType; rw [isSubtype_type]; kernel_rfl)

theorem issub_call (X : K.In s.heap) (hi : instIn K (.ref C) (.type "type") = some true) (hc : isClsIn K C = true) (hs : subIn K (.ref C) (.type "tuple") = some true)
    (h : Q (.bool true) s) : wpAny (model prog w) A (call (.builtin "issubclass") [.ref C, .type "tuple"]) Q E s := by
  refine call_function_any issub_kind issub_plain issub_entry (issub_args _ _) ?_
  refine wpAny_bind (wpAny_of_eq (a := [Value.ref C, .type "tuple"]) (by first | rfl | kernel_rfl) ?_)
  refine wpAny_pure (a := Fin.again (.builtin "issubclass.nested" ⟨[.ref C, .type "tuple", rawInt 0], []⟩)) ⟨Code.quiet_builtin _ (by decide +kernel), codeAny_builtin issubn_entry ?_⟩
  rw [Around.under_plainId (id := "issubclass.nested") (by decide +kernel) _]
  obtain ⟨hh, g, d, t, os⟩ := s
  have L1 : Looks (model prog w) hh (isSubtype (.ref C) (.type "tuple")) true := looks_subIn X hs
  have L2 : Looks (model prog w) hh (isInstance (.ref C) (.type "type")) true := looks_instIn X hi
  unfold Builtin.«issubclass.nested»
  refine wpAny_bind (wpAny_of_eq tuple_typeOf ?_)
  rw [if_pos (by decide)]
  k_delta "plainIsSubclass"
  have L3 : Looks (model prog w) hh (isType (.type "tuple")) true := Looks.of_pure tuple_isType
  unfold isClsIn clsIn at hc
  split at hc
  · rename_i ho
    have ho' := X _ _ ho
    have L4 : Looks (model prog w) hh (isType (.ref C)) true := by
      intro A' Q' E' s' k q
      unfold isType
      obtain ⟨hh', g', d', t', os'⟩ := s'
      have L2' := L2.keeps k
      have ho'' := k _ _ ho'
      repeat lk
      try exact q
    refine wpAny_bind (wpAny_bind (L4.at (wpAny_bind (L3.at ?_))))
    simp only [Bool.and_self, if_true]
    with_reducible refine Looks.at L1 ?_
    exact wpAny_pure h
  · cases hc

theorem tga_kind : builtinKind "tuple.__getattribute__" = some .slot := by decide +kernel
theorem tga_split : splitId "tuple.__getattribute__" = some ("tuple", "__getattribute__") := by decide +kernel
theorem tga_plain : plainId "tuple.__getattribute__" = true := by decide +kernel
theorem findObj_any {a g : Value} {od : Option Obj} {name : Str} (hc : (clsIn K C).isSome = true) (ha : findIn K (.ref C) name = some (some a)) (hg : specialIn K a "__get__" = some (some g)) (ht : takesIn K a = some true) : findObj K C od name = some (.bind g a) := by
  obtain ⟨cd, hc⟩ := Option.isSome_iff_exists.mp hc
  unfold findObj
  rw [hc, Option.bind_some, ha, Option.bind_some]
  simp [hg, ht]

theorem conf_get {name : Str} {expr : Bool} {ox : Obj} {od : Option Obj} {a g : Value} (X : K.In s.heap) (I : InstAt s.heap x ox C od) (hga : findIn K (.ref C) "__getattribute__" = some (some (.builtin "tuple.__getattribute__")))
    (hgt : findIn K (.ref C) "__getattr__" = some none) (hc : isClsIn K C = true) (ha : findIn K (.ref C) name = some (some a)) (hg : specialIn K a "__get__" = some (some g)) (ht : takesIn K a = some true) (hsub : subIn K (.ref C) (.type "tuple") = some true)
    (h : wpAny (model prog w) A.in1 (call g [a, .ref x, .ref C]) (fun v s' => handedIn v = true ∧ Q v s') (fun _ _ => False) { s with toks := s.toks + 1 }) :
    wpAny (model prog w) A (getAttr (.ref x) name expr) Q E s := by
  obtain ⟨hh, gg, d, t, os⟩ := s
  have L0 := I.type (M := model prog w)
  have L1 := looks_findIn (M := model prog w) X hga
  have L2 := looks_findIn (M := model prog w) X hgt
  have L3 := looks_find (M := model prog w) X I (findObj_any hc ha hg ht)
  have L4 : Looks (model prog w) hh (isInstance (.ref x) (.type "tuple")) true := L0.andThen (looks_subIn X hsub)
  unfold getAttr getAttrBy
  refine wpAny_bind (wpAny_mkText (wpAny_holding (wpAny_bind (L0.at (wpAny_bind (L1.at ?_))))))
  show wpAny _ _ (getAttrByItsOwn _ _ _ _ _ _) _ _ _
  unfold getAttrByItsOwn
  refine wpAny_bind (L2.at ?_)
  refine wpAny_bind (wpAny_attempt (wpAny_holding ?_))
  unfold callGetattribute
  rw [if_neg (by cases expr <;> decide)]
  unfold boundAndCalled
  rw [F.slot_tuple_getattribute.bind (.ref x)]
  refine wpAny_bind (wpAny_pure ?_)
  show wpAny _ _ (call (Value.builtin "tuple.__getattribute__") [Value.ref x, Value.str name t]) _ _ _
  refine wpAny_call ?_
  refine codeAny_call_builtin tga_plain am_entry_tuple_getattribute ?_
  refine @check_slot (model prog w) A.in1 _ _ "tuple.__getattribute__" "tuple" "__getattribute__" (.ref x) [.str name t] [] _ tga_kind tga_split L4 (F.args_tuple_getattribute_2 _ _) ?_
  unfold Builtin.«object.__getattribute__»
  refine wpAny_bind (wpAny_of_eq (a := (Value.ref x, [Value.str name t])) (by kernel_rfl) ?_)
  refine wpAny_bind (wpAny_of_eq (a := name) (by kernel_rfl) ?_)
  refine wpAny_bind (L0.at (wpAny_bind (L3.at ?_)))
  show wpAny _ _ (holding [a] (call g [a, .ref x, .ref C]) >>= ret) _ _ _
  refine wpAny_bind (wpAny_holding (wpAny_mono h (fun v s' z => wpAny_pure ?_) fun _ _ z => z.elim))
  show wpAny _ _ (handedOut v) _ _ _
  exact handed_on z.1 z.2

theorem type_method {T : String} {name : Str} {a : Value} {pl : Sem Bool} {Q : Value × List Value → Shared → Prop} (X : K.In s.heap) (hstub : Manifest.isStub T = false) (ht : typeOf (.type T) = pure (.type "type")) (e : findCls K (.type T) (.type "type") name = some (.val a)) (hh : handedIn a = true)
    (h : Q (a, []) { s with toks := s.toks + 1 }) : wpAny (model prog w) A (getMethod (.type T) name pl) Q E s := by
  have hs : opaqueClassAbove (.type T) = pure none := by unfold opaqueClassAbove; dsimp only; rw [hstub]; rfl
  have L0 : Looks (model prog w) s.heap (typeOf (.type T)) (.type "type") := Looks.of_pure ht
  have hg : findIn K (.type "type") "__getattribute__" = some (some (.builtin "type.__getattribute__")) := type_tga
  unfold getMethod specialOf
  refine wpAny_bind (wpAny_bind (L0.here ((looks_findIn X hg).here ?_)))
  dsimp only
  rw [if_pos canon_tga]
  refine wpAny_bind (wpAny_mono (Q := fun v => Q (v, [])) (E := E) ?_ (fun _ _ z => wpAny_pure z) fun _ _ z => z)
  refine cls_open X (Looks.of_pure hs) L0 hg (looks_hook X (r := none) (by rfl)) (by show subIn K _ _ = _; rfl) e ?_
  exact wpAny_pure (handed_on hh h)

theorem tgi_find : findCls K (.type "tuple") (.type "type") "__getitem__" = some (.val (.builtin "tuple.__getitem__")) := by kernel_rfl
theorem tnew_find : findCls K (.type "tuple") (.type "type") "__new__" = some (.val (.builtin "tuple.__new__")) := by kernel_rfl
abbrev confObj (C dx : Addr) (vs : List Value) : Obj := ⟨.ref C, some dx, .seq vs.toArray 0, #[]⟩
theorem conf_inst {h₀ h : Heap} {L dx : Addr} {news : Led} {vs : List Value} (N : News h₀ L h news) (hm : (x, confObj C dx vs) ∈ news) (hm' : (dx, emptyDict) ∈ news) : InstAt h x (confObj C dx vs) C (some emptyDict) := ⟨(N _ hm).1, rfl, rfl, (N _ hm').1⟩

theorem tgi_kind : builtinKind "tuple.__getitem__" = some .slot := by decide +kernel
theorem tgi_split : splitId "tuple.__getitem__" = some ("tuple", "__getitem__") := by decide +kernel
theorem tgi_plain : plainId "tuple.__getitem__" = true := by decide +kernel
theorem tgi_call {vs : List Value} {k : Int} {t : Tok} {j : Nat} {v : Value} {dc : Addr} {od : Option Obj} (X : K.In s.heap) (I : InstAt s.heap x (confObj C dc vs) C od) (hsub : subIn K (.ref C) (.type "tuple") = some true)
    (hlo : -(2 ^ 63) ≤ k) (hhi : k < 2 ^ 63) (hj : seqIndex? k vs.length = some j) (hx : vs[j]? = some v) (h : Q v s) :
    wpAny (model prog w) A (call (.builtin "tuple.__getitem__") [.ref x, .int k t]) Q E s := by
  obtain ⟨hh, gg, d, tk, os⟩ := s
  have L4 : Looks (model prog w) hh (isInstance (.ref x) (.type "tuple")) true := (I.type (M := model prog w)).andThen (looks_subIn X hsub)
  refine wpAny_call ?_
  refine codeAny_call_builtin tgi_plain entry_tuple_getitem ?_
  refine @check_slot (model prog w) A.in1 _ _ "tuple.__getitem__" "tuple" "__getitem__" (.ref x) [.int k t] [] _ tgi_kind tgi_split L4 (args_tuple_getitem _ _) ?_
  show wpAny _ _ (Builtin.Tuple.tupleItemsOf (.ref x) >>= _) _ _ _
  have L5 : Looks (model prog w) hh (Builtin.Tuple.tupleItemsOf (.ref x)) vs.toArray := (Looks.ld (part := none) I.at_).andThen .now
  refine wpAny_bind (L5.at ?_)
  refine wpAny_bind (wpAny_typeOf (typeIs_int _ k t) ?_)
  rw [if_neg (by decide)]
  refine wpAny_bind (wpAny_specialOf (T := "int") (typeIs_int _ k t) int_index ?_)
  rw [if_neg (by simp)]
  refine wpAny_bind (wpAny_of_eq (a := k) rfl ?_)
  rw [if_neg (by simp only [Bool.or_eq_true, decide_eq_true_eq]; omega)]
  simp only [List.size_toArray, hj, Option.bind_some, List.getElem?_toArray, hx]
  exact wpAny_pure h
end
end Mine
end

section
open PySem PySem.W PyProof.Rows
/-- between two texts: the walk forgets the lines of the text before, as a fresh process has none -/
theorem Mine.calm38 : ∀ (prog : Program) (w : World) (A : Around) (env : Env) (E : Value → Shared → Prop) (s : Shared) (Q : Flow → Shared → Prop), Q .next s → wpAny (model prog w) A (execs [] env) Q E s := by
  w_top off
  intro prog w A env E s Q h
  walk1
  exact h
end

section
open PySem PySem.W PyProof.Rows PySem.Calls
set_option Elab.async false
set_option maxRecDepth 100000
set_option maxHeartbeats 1000000
namespace Mine
section
variable {prog : Program} {w : World} {M : Model} {A : Around} {E : Value → Shared → Prop} {s : Shared} {h : Heap} {K : Frag} {C x : Addr} {Q : Value → Shared → Prop}

theorem made_none {oc : Value} {od : Option Addr} {cd : ClassData} {sl : Array (Option Value)} (X : K.In h) (ho : K.lookup C = some ⟨oc, od, .cls cd, sl⟩) (hs : sl.toList[4]? = some (some .none)) (hm : cd.mro.isEmpty = false) :
    Looks M h (Bind.madeBy (.ref C)) none := by
  have hc : clsIn K C = some cd := by unfold clsIn; rw [ho]
  have L : Looks M h (mroOf (.ref C)) cd.mro := (looks_clsIn X hc).andThen .now
  obtain ⟨c, l, hl⟩ : ∃ c l, cd.mro = c :: l := by cases q : cd.mro with | nil => rw [q] at hm; cases hm | cons c l => exact ⟨c, l, rfl⟩
  intro A Q E s k q
  unfold Bind.madeBy
  refine wpAny_bind (L A _ E s k ?_)
  rw [hl, List.forIn_cons]
  refine wpAny_bind (wpAny_bind (wpAny_bind (wpAny_bind (wpAny_loadPart (k _ _ (X _ _ ho)) (wpAny_pure ?_)))))
  dsimp only
  rw [← Array.getElem?_toList, hs]
  exact wpAny_pure (wpAny_pure (wpAny_pure q))

theorem oi_args_any (a : Value) (l : List Value) : argsOk "object.__init__" ⟨a :: l, []⟩ := by unfold argsOk; kernel_rfl

theorem init_plain {rest : List Value} (T : Looks M s.heap (typeOf (.ref x)) (.ref C)) (L : Looks M s.heap (typeLookup (.ref C) "__init__") (some (.builtin "object.__init__"))) (hm : Looks M s.heap (Bind.madeBy (.ref C)) none) {P : Fin → Shared → Prop} (h : P (.done (.ret .none)) s) :
    wpAny M A (Builtin.«object.__init__» ⟨.ref x :: rest, []⟩) P E s := by
  obtain ⟨hh, gg, d, t, os⟩ := s
  unfold Builtin.«object.__init__»
  dsimp only
  cases rest with
  | nil => exact wpAny_pure h
  | cons r l =>
    refine wpAny_ite ?_
    rw [if_pos (by rfl)]
    refine wpAny_bind (T.at (wpAny_bind (L.at (wpAny_bind (hm.at ?_)))))
    rw [if_neg (by decide), show ((none : Option String) != some "object.__new__") = true from by decide, Bool.or_true]
    exact wpAny_pure h

def OwnBack (K : Frag) (C : Addr) (Q : Value → Shared → Prop) (obj : Value) (s₂ : Shared) : Prop := ∃ x ox, obj = .ref x ∧ s₂.heap.get? x = some ox ∧ ox.cls = .ref C ∧ K.In s₂.heap ∧ Q (.ref x) s₂
theorem make_own {rest : List Value} {oc : Value} {od : Option Addr} {cd : ClassData} {sl : Array (Option Value)} (X : K.In s.heap) (ho : K.lookup C = some ⟨oc, od, .cls cd, sl⟩) (hs : sl.toList[4]? = some (some .none)) (hm : cd.mro.isEmpty = false)
    (hcall : specialIn K (.ref C) "__call__" = some (some (.builtin "type.__call__"))) (hti : instIn K (.ref C) (.type "type") = some true) (hself : mroIn K C (.ref C) = some true) (hobj : mroIn K C (.type "object") = some true) (hini : findIn K (.ref C) "__init__" = some (some (.builtin "object.__init__")))
    (h : wpAny (model prog w) (A.under (.builtin "type.__call__" ⟨.ref C :: rest, []⟩)) (getAttr (.ref C) "__new__") (fun new s₁ => wpAny (model prog w) (A.under (.builtin "type.__call__" ⟨.ref C :: rest, []⟩)) (call new (.ref C :: rest))
      (OwnBack K C Q) (fun _ _ => False) s₁) (fun _ _ => False) s) :
    wpAny (model prog w) A (call (.ref C) rest) Q E s := by
  obtain ⟨hh, g, d, t, os⟩ := s
  have hC := X _ _ ho
  have call := looks_specialIn (M := model prog w) X hcall
  have typ := looks_instIn (M := model prog w) X hti
  have made := made_none (M := model prog w) X ho hs hm
  refine wpAny_call (codeAny_of_tree ?_)
  show wpAny _ _ (callAny (.ref C) _) _ _ _
  refine nd_load hC ?_
  show wpAny _ _ (callAny.viaDunder (.ref C) _) _ _ _
  unfold callAny.viaDunder
  refine wpAny_bind (call.at ?_)
  dsimp only
  rw [tc_bind]
  refine wpAny_bind (wpAny_pure (wpAny_bind (wpAny_pure ?_)))
  refine wpAny_pure (a := Fin.again (.call (.builtin "type.__call__") ⟨.ref C :: rest, []⟩)) (And.intro rfl ?_)
  refine codeAny_call_builtin_at (Code.quiet_builtin _ (by decide +kernel)) entry_typeCall (check_slot tc_kind tc_split typ (tc_args _ _ _) ?_)
  unfold Builtin.«type.__call__»
  have hmro : Looks (model prog w) hh (mroOf (.ref C)) cd.mro := ((Looks.ld (part := none) hC).andThen .now).andThen .now
  repeat (first | simp only [hm, Bool.false_eq_true, if_false] | (fail_if_success (with_reducible show wpAny _ _ (getAttr _ _ _) _ _ _)); lk)
  refine wpAny_mono h (fun new s₁ h₁ => ?_) (fun _ _ z => z.elim)
  refine wpAny_bind (wpAny_holding (wpAny_mono h₁ (fun obj s₂ h₂ => ?_) fun _ _ z => z.elim))
  obtain ⟨y, oy, rfl, hy, hcl, X₂, q⟩ := h₂
  obtain ⟨hh₂, g₂, d₂, t₂, os₂⟩ := s₂
  have t1 : Looks (model prog w) hh₂ (typeOf (.ref y)) (.ref C) := hcl ▸ (Looks.ld (part := none) hy).andThen .now
  have i1 : Looks (model prog w) hh₂ (isInstance (.ref y) (.ref C)) true := t1.andThen (looks_mroIn X₂ hself)
  have i2 : Looks (model prog w) hh₂ (isInstance (.ref y) (.type "object")) true := t1.andThen (looks_mroIn X₂ hobj)
  have l1 := looks_findIn (M := model prog w) X₂ hini
  have m1 := made_none (M := model prog w) X₂ ho hs hm
  refine wpAny_bind (m := isInstance _ _) (i1.at ?_)
  simp only [Bool.not_true, Bool.false_eq_true, if_false]
  have b1 : Looks (model prog w) hh₂ (bindSpecial (.builtin "object.__init__") (.ref y)) (.builtin "object.__init__", [.ref y]) := Looks.of_pure (oi_bind _)
  unfold callSpecial? specialOf
  repeat (first | with_reducible refine wpAny_call ?_ | lk)
  refine codeAny_call_builtin oi_plain entry_oi (@check_slot (model prog w) _ _ _ "object.__init__" "object" "__init__" (.ref y) rest [] _ oi_kind oi_split i2 (oi_args_any _ _) ?_)
  refine init_plain t1 l1 m1 ?_
  exact wpAny_pure (wpAny_pure q)
end
end Mine
end

section
open PySem PySem.W PyProof.Rows
/-- between two texts: the walk forgets the lines of the text before, as a fresh process has none -/
theorem Mine.calm40 : ∀ (prog : Program) (w : World) (A : Around) (env : Env) (E : Value → Shared → Prop) (s : Shared) (Q : Flow → Shared → Prop), Q .next s → wpAny (model prog w) A (execs [] env) Q E s := by
  w_top off
  intro prog w A env E s Q h
  walk1
  exact h
end

section
open PySem PySem.W PyProof.Rows
set_option Elab.async false
set_option maxRecDepth 100000
set_option maxHeartbeats 4000000
namespace Mine
--
local macro_rules | `(tactic| k_inst) => `(tactic| exact conf_inst (by k_asm) (by k_mem) (by k_mem))
local macro_rules | `(tactic| k_inst) => `(tactic| exact InstAt.of_K (by k_in) (by assumption) (by assumption))
local macro_rules | `(tactic| walk_at "call builtin:issubclass") => `(tactic| (k_here; k_dflt (refine' issub_call ?X ?a ?b ?c ?_; (case X => k_in); (case a => k_is); (case b => k_is); (case c => k_is); k_whole)))
local macro_rules | `(tactic| walk_at "getMethod type:tuple") => `(tactic| (k_here; k_dflt (refine' type_method ?X ?a ?t ?b ?c ?_; (case X => k_in); (case b => first | exact tgi_find | exact tnew_find); (case a => decide +kernel); (case t => kernel_rfl); (case c => decide +kernel); k_whole)))
local macro_rules | `(tactic| walk_at "call builtin:tuple.__getitem__") => `(tactic| (k_here; k_dflt (refine' tgi_call ?X ?I ?a ?b ?c ?d ?e ?_; (case X => k_in); (case I => k_inst); (case a => k_is); (case b => assumption); (case c => assumption); (case d => assumption); (case e => assumption); k_whole)))

theorem getter_spec (w : World) (x dc d dx : Addr) (vs : List Value) (v : Value) (i : Int) (u : Tok) (j : Nat) (hs1 hs2 : Int) (t1 t2 : Tok) (v2 : Value) : CallSpec w (.ref 71) [.ref d, .ref x, .ref 169] [] 3
    (fun news => (x, confObj 169 dc vs) ∈ news ∧ (dc, emptyDict) ∈ news ∧ (hd.heap_1 w.params).lookup d = some ⟨.ref 88, some dx, .plain, #[]⟩ ∧ (hd.heap_1 w.params).lookup dx = some (dictOf [⟨hs1, .str "index" t1, .int i u⟩, ⟨hs2, .str "__doc__" t2, v2⟩] 2) ∧
      -(2 ^ 63) ≤ i ∧ i < 2 ^ 63 ∧ seqIndex? i vs.length = some j ∧ vs[j]? = some v)
    (fun r _ tl => r = v ∧ tl = []) := by
  unfold CallSpec TreeSpec
  k_fill
  intro mean mg mb dp un gd cn nms ig ic mo a ccd cl outer A₀ base h₀ L m news s Q E B F X N T hdp hun pre0 post
  obtain ⟨hm, hm', hk1, hk2, hlo, hhi, hj, hx⟩ := pre0
  refine wpAny_call ?_
  k_dflt k_enter
  k_steps
  exact post _ [] _ _ (by assumption) (by assumption) Apart.nil ⟨rfl, rfl⟩
end Mine
end

section
open PySem PySem.W PyProof.Rows
/-- between two texts: the walk forgets the lines of the text before, as a fresh process has none -/
theorem Mine.calm42 : ∀ (prog : Program) (w : World) (A : Around) (env : Env) (E : Value → Shared → Prop) (s : Shared) (Q : Flow → Shared → Prop), Q .next s → wpAny (model prog w) A (execs [] env) Q E s := by
  w_top off
  intro prog w A env E s Q h
  walk1
  exact h
end

section
open PySem PySem.W PyProof.Rows
set_option Elab.async false
set_option maxRecDepth 100000
set_option maxHeartbeats 4000000
namespace Mine
--

/-- an attribute of the configuration -/
def confIs (x : Addr) (vs : List Value) (news : Led) : Prop := ∃ dx, (x, confObj 169 dx vs) ∈ news ∧ (dx, emptyDict) ∈ news
/-- the five attributes of a configuration -/
structure Cf where
  ps : Int
  od : Int
  ks : Int
  vz : Int
  t1 : Tok
  t2 : Tok
  t3 : Tok
  t4 : Tok
  ser : Addr
def Cf.vals (c : Cf) : List Value := [.int c.ps c.t1, .int c.od c.t2, .int c.ks c.t3, .int c.vz c.t4, .ref c.ser]
theorem conf_attr {w : World} {x d dx : Addr} {vs : List Value} {v : Value} {i : Int} {u : Tok} {j : Nat} {hs1 hs2 : Int} {t1 t2 : Tok} {v2 : Value} {name : Str} {expr : Bool}
    (ha : findIn (hd.heap_1 w.params) (.ref 169) name = some (some (.ref d))) (hg : specialIn (hd.heap_1 w.params) (.ref d) "__get__" = some (some (.ref 71))) (ht : takesIn (hd.heap_1 w.params) (.ref d) = some true)
    (hk1 : (hd.heap_1 w.params).lookup d = some ⟨.ref 88, some dx, .plain, #[]⟩) (hk2 : (hd.heap_1 w.params).lookup dx = some (dictOf [⟨hs1, .str "index" t1, .int i u⟩, ⟨hs2, .str "__doc__" t2, v2⟩] 2))
    (hlo : -(2 ^ 63) ≤ i) (hhi : i < 2 ^ 63) (hj : seqIndex? i vs.length = some j) (hx : vs[j]? = some v) (hv : handedIn v = true) :
    TreeSpec w (getAttr (.ref x) name expr) 5 (confIs x vs) (fun r _ tl => r = v ∧ tl = []) := by
  unfold TreeSpec
  k_fill
  intro mean mg mb dp un gd cn nms ig ic mo a ccd cl outer A₀ base h₀ L m news s Q E B F X N T hdp hun pre0 post
  obtain ⟨dc, hm, hm'⟩ := pre0
  refine conf_get (C := 169) (g := .ref 71) (X.keeps F.keep) (conf_inst N hm hm') (by k_is) (by k_is) (by k_is) ha hg ht (by k_is) ?_
  refine (getter_spec w x dc d dx vs v i u j hs1 hs2 t1 t2 v2).use B F X N T (by show dp + 3 < 400; omega) (by show un + 1 + 8 * 3 < 5000; omega) ⟨hm, hm', hk1, hk2, hlo, hhi, hj, hx⟩ ?_
  rintro r tl h' tk' F' N' - ⟨rfl, rfl⟩
  exact ⟨hv, post _ [] _ _ F' N' Apart.nil ⟨rfl, rfl⟩⟩

theorem conf_page_size (w : World) (x : Addr) (c : Cf) (expr : Bool) : TreeSpec w (getAttr (.ref x) "page_size" expr) 5 (confIs x c.vals) (fun r _ tl => r = .int c.ps c.t1 ∧ tl = []) := by
  unfold TreeSpec
  k_fill
  exact conf_attr (d := 152) (dx := 151) (j := 0) (by k_is) (by k_is) (by k_is) (by k_is) (by k_is) (by decide) (by decide) rfl rfl rfl
theorem conf_order (w : World) (x : Addr) (c : Cf) (expr : Bool) : TreeSpec w (getAttr (.ref x) "order" expr) 5 (confIs x c.vals) (fun r _ tl => r = .int c.od c.t2 ∧ tl = []) := by
  unfold TreeSpec
  k_fill
  exact conf_attr (d := 155) (dx := 154) (j := 1) (by k_is) (by k_is) (by k_is) (by k_is) (by k_is) (by decide) (by decide) rfl rfl rfl
theorem conf_key_size (w : World) (x : Addr) (c : Cf) (expr : Bool) : TreeSpec w (getAttr (.ref x) "key_size" expr) 5 (confIs x c.vals) (fun r _ tl => r = .int c.ks c.t3 ∧ tl = []) := by
  unfold TreeSpec
  k_fill
  exact conf_attr (d := 158) (dx := 157) (j := 2) (by k_is) (by k_is) (by k_is) (by k_is) (by k_is) (by decide) (by decide) rfl rfl rfl
theorem conf_value_size (w : World) (x : Addr) (c : Cf) (expr : Bool) : TreeSpec w (getAttr (.ref x) "value_size" expr) 5 (confIs x c.vals) (fun r _ tl => r = .int c.vz c.t4 ∧ tl = []) := by
  unfold TreeSpec
  k_fill
  exact conf_attr (d := 161) (dx := 160) (j := 3) (by k_is) (by k_is) (by k_is) (by k_is) (by k_is) (by decide) (by decide) rfl rfl rfl
theorem conf_serializer (w : World) (x : Addr) (c : Cf) (expr : Bool) : TreeSpec w (getAttr (.ref x) "serializer" expr) 5 (confIs x c.vals) (fun r _ tl => r = .ref c.ser ∧ tl = []) := by
  unfold TreeSpec
  k_fill
  exact conf_attr (d := 164) (dx := 163) (j := 4) (by k_is) (by k_is) (by k_is) (by k_is) (by k_is) (by decide) (by decide) rfl rfl rfl
end Mine
end

section
open PySem PySem.W PyProof.Rows
/-- between two texts: the walk forgets the lines of the text before, as a fresh process has none -/
theorem Mine.calm44 : ∀ (prog : Program) (w : World) (A : Around) (env : Env) (E : Value → Shared → Prop) (s : Shared) (Q : Flow → Shared → Prop), Q .next s → wpAny (model prog w) A (execs [] env) Q E s := by
  w_top off
  intro prog w A env E s Q h
  walk1
  exact h
end

section
open PySem PySem.W PyProof.Rows PySem.Calls
set_option Elab.async false
set_option maxRecDepth 100000
set_option maxHeartbeats 1000000
namespace Mine
theorem fr_ext {h₀ h h' : Heap} {L : Addr} {m : Str → Option Value} (F : Fr h₀ L h m) (k : ∀ b o, h.get? b = some o → h'.get? b = some o) : Fr h₀ L h' m := ⟨F.ns.keeps k, fun b o e => k b o (F.keep b o e), F.above⟩
theorem news_ext {h₀ h h' : Heap} {L : Addr} {news : Led} (N : News h₀ L h news) (k : ∀ b o, h.get? b = some o → h'.get? b = some o) : News h₀ L h' news := fun p hp => ⟨k _ _ (N p hp).1, (N p hp).2⟩
section
variable {prog : Program} {w : World} {M : Model} {A : Around} {E : Value → Shared → Prop} {s : Shared} {h h₀ : Heap} {K : Frag} {C x L : Addr} {Q : Value → Shared → Prop} {m : Str → Option Value} {news : Led}
theorem tnew_plain : plainId "tuple.__new__" = true := by decide +kernel
theorem tnew_entry : entryFor table "tuple.__new__" = some Builtin.«tuple.__new__» := entryFor_of_tree (by kernel_rfl)

theorem tnew_call {t : Addr} {vs : List Value} (F : Fr h₀ L s.heap m) (N : News h₀ L s.heap news) (hck : Looks (model prog w) s.heap (checkBuiltinCall "tuple.__new__" ⟨[.ref C, .ref t], []⟩) ()) (hty : Looks (model prog w) s.heap (isType (.ref C)) true)
    (hsub : Looks (model prog w) s.heap (isSubtype (.ref C) (.type "tuple")) true) (hmh : Looks (model prog w) s.heap (Bind.madeHere "tuple.__new__" (.ref C)) ()) (hini : Looks (model prog w) s.heap (typeLookup (.ref C) "__init__") (some (.builtin "object.__init__")))
    (hdel : ∀ h', (∀ b o, s.heap.get? b = some o → h'.get? b = some o) → Looks (model prog w) h' (classHasDel C) false)
    (ht : (t, ({ cls := .type "tuple", data := .seq vs.toArray } : Obj)) ∈ news) (hsz : vs.length ≤ sizeLine)
    (h : ∀ dx x h', Fr h₀ L h' m → News h₀ L h' ((x, confObj C dx vs) :: (dx, emptyDict) :: news) → (∀ p ∈ news, p.1 < dx) → dx < x → Q (.ref x) { s with heap := h' }) :
    wpAny (model prog w) A (call (.builtin "tuple.__new__") [.ref C, .ref t]) Q E s := by
  refine wpAny_call ?_
  refine codeAny_call_builtin tnew_plain tnew_entry ?_
  obtain ⟨hh, g, d, tk, os⟩ := s
  refine hck.at ?_
  unfold Builtin.«tuple.__new__»
  dsimp only
  refine wpAny_bind (hty.at ?_)
  simp only [Bool.not_true, Bool.false_eq_true, if_false]
  refine wpAny_bind (m := isSubtype _ _) (hsub.at ?_)
  simp only [Bool.not_true, Bool.false_eq_true, if_false]
  refine wpAny_bind (hmh.at (wpAny_bind (hini.at ?_)))
  rw [if_pos (by decide)]
  refine wpAny_bind (wpAny_of_eq (a := ()) (by first | rfl | kernel_rfl) (wpAny_bind (wpAny_of_eq (a := ()) (by first | rfl | kernel_rfl) ?_)))
  rw [if_neg (by intro q; cases (eq_of_beq q))]
  refine wpAny_bind (m := collect (.ref t)) ((wpAny_collect_seq t (.inr rfl) (N _ ht).1 rfl rfl (fun h' k => ?_) (by rw [List.size_toArray]; exact hsz)))
  refine wpAny_bind (wpAny_pure ?_)
  refine wpAny_bind (wpAny_alloc ?_)
  have F' := (fr_ext F k).push emptyDict
  have N' := (news_ext N k).push (fr_ext F k) emptyDict
  have hfit : ¬ (vs.toArray.toList.toArray.size > sizeLine) := by simp; exact hsz
  show wpAny _ _ (newObj _ _ _ >>= _) _ _ _
  unfold newObj
  dsimp only
  rw [if_neg hfit]
  unfold newObjAsIs
  refine wpAny_bind (wpAny_bind (wpAny_alloc ?_))
  have F'' := F'.push (confObj C h'.objs.size vs)
  have N'' := N'.push F' (confObj C h'.objs.size vs)
  have q := h h'.objs.size (h'.push emptyDict).objs.size ((h'.push emptyDict).push (confObj C h'.objs.size vs)) F'' N'' (fun p hp => Heap.lt_size ((news_ext N k) p hp).1) (by rw [Heap.size_push]; exact Nat.lt_succ_self _)
  refine wpAny_bind ((hdel _ fun b o e => Heap.get?_push_of_some _ (Heap.get?_push_of_some _ (k _ _ e))).at ?_)
  simp only [Bool.false_eq_true, if_false]
  exact wpAny_pure (wpAny_pure q)
end
--
local macro_rules | `(tactic| walk_at "getMethod type:tuple") => `(tactic| (k_here; k_dflt (refine' type_method ?X ?a ?t ?b ?c ?_; (case X => k_in); (case b => first | exact tgi_find | exact tnew_find); (case a => decide +kernel); (case t => kernel_rfl); (case c => decide +kernel); k_whole)))
local macro_rules | `(tactic| walk_at "call builtin:tuple.__new__") => `(tactic| (k_here; k_dflt (refine' tnew_call (C := 169) ?F ?N ?a ?b ?c ?d ?e ?f ?g ?z ?_; (case F => k_asm); (case N => k_asm); (case a => exact Looks.of_peek (by k_in) (by kernel_rfl)); (case b => exact Looks.of_peek (by k_in) (by kernel_rfl)); (case c => exact Looks.of_peek (by k_in) (by kernel_rfl)); (case d => exact Looks.of_peek (by k_in) (by kernel_rfl)); (case e => exact Looks.of_peek (by k_in) (by kernel_rfl)); (case f => exact fun h' k => Looks.of_peek (Frag.In.keeps (by k_in) k) (by kernel_rfl)); (case g => k_mem); (case z => size_fits); k_whole; intro dx' x' h' F' N' l1 l2; (try k_lt l1); (try k_lt2 l2))))
theorem conf_make (w : World) (c : Cf) : TreeSpec w (call (.ref 169) c.vals) 10 (fun _ => True) (fun r _ tl => ∃ x dx, r = .ref x ∧ tl = [(x, confObj 169 dx c.vals), (dx, emptyDict)]) := by
  unfold TreeSpec
  k_fill
  intro mean mg mb dp un gd cn nms ig ic mo a ccd cl outer A₀ base h₀ L m news s Q E B F X N T hdp hun _ post
  have X' := X.keeps F.keep
  refine' make_own X' ?ho ?hs ?hm ?hcall ?hti ?hself ?hobj ?hini ?_
  case ho => k_is
  case hs => rfl
  case hm => rfl
  case hcall => k_is
  case hti => k_is
  case hself => k_is
  case hobj => k_is
  case hini => k_is
  unfold Cf.vals
  k_steps
  rename_i kF kN _ kX
  refine ⟨_, _, rfl, (kN _ (.head _)).1, rfl, Frag.In.keeps kX kF.keep, ?_⟩
  refine' post _ _ _ _ kF (news_sub kN ?s) ?a ⟨_, _, rfl, rfl⟩
  case s => walk_at "MINE sub"
  case a => walk_at "MINE apart"
end Mine
end

section
open PySem PySem.W PyProof.Rows
/-- between two texts: the walk forgets the lines of the text before, as a fresh process has none -/
theorem Mine.calm46 : ∀ (prog : Program) (w : World) (A : Around) (env : Env) (E : Value → Shared → Prop) (s : Shared) (Q : Flow → Shared → Prop), Q .next s → wpAny (model prog w) A (execs [] env) Q E s := by
  w_top off
  intro prog w A env E s Q h
  walk1
  exact h
end

section
open PySem PySem.W PyProof.Rows PySem.Calls
set_option Elab.async false
set_option maxRecDepth 100000
set_option maxHeartbeats 4000000
namespace Mine
--
local macro_rules | `(tactic| walk_at "MINE spec") => `(tactic| ((case mB => k_asm); (case mF => k_asm); (case mX => k_asm); (case mN => k_asm); (case mT => k_asm); (case mhd => first | exact room2 (by assumption) (by rfl) | exact room1 (by assumption) (by rfl) | exact room3 (by assumption) (by rfl) | exact room4 (by assumption) (by rfl) | (simp only [m_dd, m_kd, m_1d, m_md, m_td]; omega)); (case mhu => first | exact room2 (by assumption) (by rfl) | exact room1 (by assumption) (by rfl) | exact room3 (by assumption) (by rfl) | exact room4 (by assumption) (by rfl) | (simp only [m_du, m_ku, m_1u, m_mu, m_tu]; omega))))
local macro_rules | `(tactic| walk_at "getAttr ref") => `(tactic| (k_here; k_dflt (first | ((with_reducible show wpAny _ _ (getAttr (Value.ref _) (PySem.Str.ofString "key_size") _) _ _ _); refine' TreeSpec.use (conf_key_size _ _ _ _) ?mB ?mF ?mX ?mN ?mT ?mhd ?mhu ?mp ?_) | ((with_reducible show wpAny _ _ (getAttr (Value.ref _) (PySem.Str.ofString "value_size") _) _ _ _); refine' TreeSpec.use (conf_value_size _ _ _ _) ?mB ?mF ?mX ?mN ?mT ?mhd ?mhu ?mp ?_) | ((with_reducible show wpAny _ _ (getAttr (Value.ref _) (PySem.Str.ofString "serializer") _) _ _ _); refine' TreeSpec.use (conf_serializer _ _ _ _) ?mB ?mF ?mX ?mN ?mT ?mhd ?mhu ?mp ?_) | ((with_reducible show wpAny _ _ (getAttr (Value.ref _) (PySem.Str.ofString "order") _) _ _ _); refine' TreeSpec.use (conf_order _ _ _ _) ?mB ?mF ?mX ?mN ?mT ?mhd ?mhu ?mp ?_) | ((with_reducible show wpAny _ _ (getAttr (Value.ref _) (PySem.Str.ofString "page_size") _) _ _ _); refine' TreeSpec.use (conf_page_size _ _ _ _) ?mB ?mF ?mX ?mN ?mT ?mhd ?mhu ?mp ?_)); (walk_at "MINE spec"); (case mp => exact ⟨_, by k_mem, by k_mem⟩); intro r' tl' h' tk' F' N' _ hp'; obtain ⟨e1', e2'⟩ := hp'; subst e1' e2'; (replace N' := news_sub N' sub_nil0); (try dsimp only); (try k_sweep)))
local macro_rules | `(tactic| k_enter) => `(tactic| refine' Held.out ?_)
abbrev en (w : World) (n : Str) (u : Tok) (v : Value) : DictEntry := ⟨PyData.keyHash w.params n, .str n u, v⟩
abbrev recDict (w : World) (u1 u2 u3 u4 u5 : Tok) (x : Addr) (key val len ov : Value) (n : Nat) : Obj := dictOf [en w "_tree_conf" u1 (.ref x), en w "key" u2 key, en w "value" u3 val, en w "length" u4 len, en w "overflow_page" u5 ov] n
abbrev refDict (w : World) (u1 u2 u3 u4 u5 : Tok) (x : Addr) (len key bef aft : Value) (n : Nat) : Obj := dictOf [en w "_tree_conf" u1 (.ref x), en w "length" u2 len, en w "key" u3 key, en w "before" u4 bef, en w "after" u5 aft] n

theorem rec_make_v (w : World) (x : Addr) (c : Cf) (k : Int) (t : Tok) (b : Array UInt8) (u : Tok) : TreeSpec w (call (.ref 260) [.ref x, .int k t] [("value", .bytes b u)]) 12
    (fun news => confIs x c.vals news ∧ (b.size : Int) ≤ c.vz ∧ c.vz ≤ 100 ∧ 0 ≤ c.ks ∧ c.ks ≤ 100)
    (fun r _ tl => ∃ y dy u1 u2 u3 u4 u5 l n, r = .ref y ∧ tl = [(y, instObj 260 dy), (dy, recDict w u1 u2 u3 u4 u5 x (.int k t) (.bytes b u) (.int (2 + c.ks + 2 + c.vz + 4) l) .none n)]) := by
  unfold TreeSpec
  k_fill
  intro mean mg mb dp un gd cn nms ig ic mo a ccd cl outer A₀ base h₀ L m news s Q E B F X N T hdp hun pre0 post
  obtain ⟨⟨dc, hm, hm'⟩, hb, hv, hk0, hk1⟩ := pre0
  k_steps
  refine ⟨?_⟩
  k_dflt (refine' code_own ?k1 ?k2 ?k3 ?k4 ?k5 ?kA ?kF ?kK ?k6 ?k7 ?k8 ?k9 ?kB ?_ ?c5 ?c2 ?c3 ?c4; (case kA => exact rfl); (case kF => exact rfl); (case kK => exact rfl); (case k2 => k_asm); (case k1 => k_asm); (case k3 => k_asm); (case k4 => k_asm); (case k5 => k_asm); (case k6 => k_is); (case k7 => k_is); (case k8 => k_room); (case k9 => first | exact binds_K (by k_in) rfl (by k_is) rfl rfl rfl | exact BindsTo.of_eq rfl); (case kB => exact locs rfl); (case c5 => decide); (case c2 => exact rfl); (case c3 => exact rfl); (case c4 => exact rfl); k_whole; intro g' L' h' FG' F' N' B' X' T' Qb hQ; (try dsimp only); (try k_lift B'); (try k_fold))
  refine letA ?_
  intro A1
  refine letE ?_
  intro e1
  k_steps
  all_goals (refine hQ _ _ ?_; k_steps)
  all_goals walk_at "MINE made"
theorem ref_make (w : World) (x : Addr) (c : Cf) (k o p : Int) (t u v : Tok) : TreeSpec w (call (.ref 301) [.ref x, .int k t, .int o u, .int p v]) 12
    (fun news => confIs x c.vals news)
    (fun r _ tl => ∃ y dy u1 u2 u3 u4 u5 l n, r = .ref y ∧ tl = [(y, instObj 301 dy), (dy, refDict w u1 u2 u3 u4 u5 x (.int (2 * 4 + 2 + c.ks) l) (.int k t) (.int o u) (.int p v) n)]) := by
  unfold TreeSpec
  k_fill
  intro mean mg mb dp un gd cn nms ig ic mo a ccd cl outer A₀ base h₀ L m news s Q E B F X N T hdp hun pre0 post
  obtain ⟨dc, hm, hm'⟩ := pre0
  k_steps
  refine ⟨?_⟩
  k_dflt (refine' code_own ?k1 ?k2 ?k3 ?k4 ?k5 ?kA ?kF ?kK ?k6 ?k7 ?k8 ?k9 ?kB ?_ ?c5 ?c2 ?c3 ?c4; (case kA => exact rfl); (case kF => exact rfl); (case kK => exact rfl); (case k2 => k_asm); (case k1 => k_asm); (case k3 => k_asm); (case k4 => k_asm); (case k5 => k_asm); (case k6 => k_is); (case k7 => k_is); (case k8 => k_room); (case k9 => first | exact binds_K (by k_in) rfl (by k_is) rfl rfl rfl | exact BindsTo.of_eq rfl); (case kB => exact locs rfl); (case c5 => decide); (case c2 => exact rfl); (case c3 => exact rfl); (case c4 => exact rfl); k_whole; intro g' L' h' FG' F' N' B' X' T' Qb hQ; (try dsimp only); (try k_lift B'); (try k_fold))
  refine letA ?_
  intro A1
  refine letE ?_
  intro e1
  k_steps
  all_goals (refine hQ _ _ ?_; k_steps)
  all_goals walk_at "MINE made"
end Mine
end

section
open PySem PySem.W PyProof.Rows
/-- between two texts: the walk forgets the lines of the text before, as a fresh process has none -/
theorem Mine.calm48 : ∀ (prog : Program) (w : World) (A : Around) (env : Env) (E : Value → Shared → Prop) (s : Shared) (Q : Flow → Shared → Prop), Q .next s → wpAny (model prog w) A (execs [] env) Q E s := by
  w_top off
  intro prog w A env E s Q h
  walk1
  exact h
end

section
open PySem PySem.W PyProof.Rows PySem.Calls
set_option Elab.async false
set_option maxRecDepth 100000
set_option maxHeartbeats 1000000
namespace Mine
section
variable {prog : Program} {w : World} {A : Around} {E : Value → Shared → Prop} {s : Shared} {h₀ : Heap} {L : Addr} {Q : Value → Shared → Prop} {m : Str → Option Value} {news : Led}

theorem lnew0_check : checkBuiltinCall "list.__new__" ⟨[.type "list"], []⟩ = pure () := by kernel_rfl
theorem lcall0_check : checkTypeCall "list" ⟨[], []⟩ = pure () := by kernel_rfl
theorem linit_entry : entryFor table "list.__init__" = some Builtin.«list.__init__» := entryFor_of_tree (by kernel_rfl)
theorem linit_args (a : Value) : argsOk "list.__init__" ⟨[a], []⟩ := by unfold argsOk; kernel_rfl
theorem code_lnew0 {Q₁ : Value → Shared → Prop} (h : Q₁ (.ref s.heap.objs.size) { s with heap := s.heap.push { cls := .type "list", data := .seq #[] } }) :
    codeAny (model prog w) A (.call (.builtin "list.__new__") ⟨[.type "list"], []⟩) (wants Q₁ E) s := by
  refine codeAny_of_tree ?_
  show wpAny _ A.in1 (do checkBuiltinCall "list.__new__" ⟨[.type "list"], []⟩; again (.builtin "list.__new__" ⟨[.type "list"], []⟩)) _ _ s
  refine wpAny_bind (wpAny_of_eq lnew0_check (wpAny_pure ⟨plainId_quiet F.plain_list_new _, codeAny_builtin_stack F.entry_list_new rfl fun p st => ?_⟩))
  rw [Around.under_plainId F.plain_list_new _]
  have hsub := sub_list_self
  have hown := owner_list_new
  obtain ⟨hp, g, d, tk, os⟩ := s
  simp only [hown]
  wp_walk
  exact h

theorem list0 (hF : Fr h₀ L s.heap m) (N : News h₀ L s.heap news)
    (h : ∀ D h', Fr h₀ L h' m → News h₀ L h' ((D, ({ cls := .type "list", data := .seq (([] : List Value).toArray) 0 } : Obj)) :: news) → (∀ q ∈ news, q.1 < D) → Q (.ref D) { s with heap := h' }) :
    wpAny (model prog w) A (call (.type "list") []) Q E s := by
  obtain ⟨hp, g, d, tk, os⟩ := s
  refine callType_codes (Q₁ := fun obj s₁ => obj = .ref hp.objs.size ∧ s₁ = ⟨hp.push { cls := .type "list", data := .seq #[] }, g, d, tk, os⟩) F.called_list lcall0_check linit_entry (code_lnew0 ⟨rfl, rfl⟩) ?_
  rintro obj s₁ ⟨rfl, rfl⟩
  have hS : (hp.push { cls := .type "list", data := .seq #[] }).get? hp.objs.size = some { cls := .type "list", data := .seq #[] 0 } := Heap.get?_push_size _ rfl
  refine ⟨⟨_, hS, rfl⟩, linit_args _, ?_⟩
  unfold Builtin.«list.__init__»
  dsimp only
  rw [if_neg (by decide), if_neg (by decide)]
  have L1 : Looks (model prog w) (hp.push { cls := .type "list", data := .seq #[] }) (Builtin.List.listItems (.ref hp.objs.size)) #[] := ((Looks.ld (part := none) hS).andThen .now).andThen .now
  refine wpAny_bind (L1.at ?_)
  show wpAny _ _ (updateSeq hp.objs.size _ >>= _) _ _ _
  refine wpAny_bind (wpAny_updateSeq hS rfl ?_ (by decide) (by decide))
  have F' := hF.push ({ cls := .type "list", data := .seq (([] : List Value).toArray) 0 } : Obj)
  have N' := N.push hF ({ cls := .type "list", data := .seq (([] : List Value).toArray) 0 } : Obj)
  obtain ⟨F2, N2⟩ := news_upd (pre := []) (f := Obj.mapSeq fun _ => #[]) (o' := ({ cls := .type "list", data := .seq (([] : List Value).toArray) 0 } : Obj)) F' N' (fun _ h => nomatch h) (fun p hp' => Nat.ne_of_lt (Heap.lt_size (N p hp').1)) rfl rfl
  have q := h hp.objs.size _ F2 N2 fun p hp' => Heap.lt_size (N p hp').1
  exact wpAny_bind (wpAny_pure (wpAny_pure ⟨rfl, q⟩))
end
end Mine
end

section
open PySem PySem.W PyProof.Rows
/-- between two texts: the walk forgets the lines of the text before, as a fresh process has none -/
theorem Mine.calm50 : ∀ (prog : Program) (w : World) (A : Around) (env : Env) (E : Value → Shared → Prop) (s : Shared) (Q : Flow → Shared → Prop), Q .next s → wpAny (model prog w) A (execs [] env) Q E s := by
  w_top off
  intro prog w A env E s Q h
  walk1
  exact h
end

section
open PySem PySem.W PyProof.Rows PySem.Calls
set_option Elab.async false
set_option maxRecDepth 100000
set_option maxHeartbeats 4000000
namespace Mine
--
def recIs (w : World) (x y : Addr) (k : Int) (v : Value) (news : Led) : Prop := ∃ dy u1 u2 u3 u4 u5 t l ov n, (y, instObj 260 dy) ∈ news ∧ (dy, recDict w u1 u2 u3 u4 u5 x (.int k t) v l ov n) ∈ news
def refIs (w : World) (x y : Addr) (k : Int) (b a : Value) (news : Led) : Prop := ∃ dy u1 u2 u3 u4 u5 t l n, (y, instObj 301 dy) ∈ news ∧ (dy, refDict w u1 u2 u3 u4 u5 x l (.int k t) b a n) ∈ news
theorem recIs.elim {w : World} {x y : Addr} {k : Int} {v : Value} {news : Led} {G : Prop} (h : recIs w x y k v news) (c : ∀ dy u1 u2 u3 u4 u5 t l ov n, (y, instObj 260 dy) ∈ news → (dy, recDict w u1 u2 u3 u4 u5 x (.int k t) v l ov n) ∈ news → G) : G := by
  obtain ⟨dy, u1, u2, u3, u4, u5, t, l, ov, n, h1, h2⟩ := h
  exact c dy u1 u2 u3 u4 u5 t l ov n h1 h2
theorem refIs.elim {w : World} {x y : Addr} {k : Int} {b a : Value} {news : Led} {G : Prop} (h : refIs w x y k b a news) (c : ∀ dy u1 u2 u3 u4 u5 t l n, (y, instObj 301 dy) ∈ news → (dy, refDict w u1 u2 u3 u4 u5 x l (.int k t) b a n) ∈ news → G) : G := by
  obtain ⟨dy, u1, u2, u3, u4, u5, t, l, n, h1, h2⟩ := h
  exact c dy u1 u2 u3 u4 u5 t l n h1 h2
theorem lt_rec (w : World) (x y z : Addr) (k j : Int) (v v' : Value) : TreeSpec w (call (.ref 193) [.ref y, .ref z]) 4
    (fun news => recIs w x y k v news ∧ recIs w x z j v' news)
    (fun r _ tl => r = .bool (decide (k < j)) ∧ tl = []) := by
  unfold TreeSpec
  k_fill
  intro mean mg mb dp un gd cn nms ig ic mo a ccd cl outer A₀ base h₀ L m news s Q E B F X N T hdp hun pre0 post
  obtain ⟨⟨dy, u1, u2, u3, u4, u5, t, l, ov, n, hm, hm'⟩, ⟨dz, u1', u2', u3', u4', u5', t', l', ov', n', hk, hk'⟩⟩ := pre0
  k_steps
  all_goals exact post _ [] _ _ (by assumption) (by assumption) Apart.nil ⟨rfl, rfl⟩
theorem eq_rec (w : World) (x y z : Addr) (k j : Int) (v v' : Value) : TreeSpec w (call (.ref 186) [.ref y, .ref z]) 4
    (fun news => recIs w x y k v news ∧ recIs w x z j v' news)
    (fun r _ tl => r = .bool (decide (k = j)) ∧ tl = []) := by
  unfold TreeSpec
  k_fill
  intro mean mg mb dp un gd cn nms ig ic mo a ccd cl outer A₀ base h₀ L m news s Q E B F X N T hdp hun pre0 post
  obtain ⟨⟨dy, u1, u2, u3, u4, u5, t, l, ov, n, hm, hm'⟩, ⟨dz, u1', u2', u3', u4', u5', t', l', ov', n', hk, hk'⟩⟩ := pre0
  k_steps
  all_goals exact post _ [] _ _ (by assumption) (by assumption) Apart.nil ⟨rfl, rfl⟩
theorem lt_ref (w : World) (x y z : Addr) (k j : Int) (b c b' c' : Value) : TreeSpec w (call (.ref 193) [.ref y, .ref z]) 4
    (fun news => refIs w x y k b c news ∧ refIs w x z j b' c' news)
    (fun r _ tl => r = .bool (decide (k < j)) ∧ tl = []) := by
  unfold TreeSpec
  k_fill
  intro mean mg mb dp un gd cn nms ig ic mo a ccd cl outer A₀ base h₀ L m news s Q E B F X N T hdp hun pre0 post
  obtain ⟨⟨dy, u1, u2, u3, u4, u5, t, l, n, hm, hm'⟩, ⟨dz, u1', u2', u3', u4', u5', t', l', n', hk, hk'⟩⟩ := pre0
  k_steps
  all_goals exact post _ [] _ _ (by assumption) (by assumption) Apart.nil ⟨rfl, rfl⟩
theorem eq_ref (w : World) (x y z : Addr) (k j : Int) (b c b' c' : Value) : TreeSpec w (call (.ref 186) [.ref y, .ref z]) 4
    (fun news => refIs w x y k b c news ∧ refIs w x z j b' c' news)
    (fun r _ tl => r = .bool (decide (k = j)) ∧ tl = []) := by
  unfold TreeSpec
  k_fill
  intro mean mg mb dp un gd cn nms ig ic mo a ccd cl outer A₀ base h₀ L m news s Q E B F X N T hdp hun pre0 post
  obtain ⟨⟨dy, u1, u2, u3, u4, u5, t, l, n, hm, hm'⟩, ⟨dz, u1', u2', u3', u4', u5', t', l', n', hk, hk'⟩⟩ := pre0
  k_steps
  all_goals exact post _ [] _ _ (by assumption) (by assumption) Apart.nil ⟨rfl, rfl⟩
end Mine
end

section
open PySem PySem.W PyProof.Rows
/-- between two texts: the walk forgets the lines of the text before, as a fresh process has none -/
theorem Mine.calm52 : ∀ (prog : Program) (w : World) (A : Around) (env : Env) (E : Value → Shared → Prop) (s : Shared) (Q : Flow → Shared → Prop), Q .next s → wpAny (model prog w) A (execs [] env) Q E s := by
  w_top off
  intro prog w A env E s Q h
  walk1
  exact h
end

section
open PySem PySem.W PyProof.Rows PySem.Calls
set_option Elab.async false
set_option maxRecDepth 100000
set_option maxHeartbeats 4000000
namespace Mine
abbrev anyNode : List Addr := [518, 540, 607, 629]
abbrev recNode : List Addr := [518, 540]
abbrev refNode : List Addr := [607, 629]
--
local macro_rules | `(tactic| walk_at "MINE spec") => `(tactic| ((case mB => k_asm); (case mF => k_asm); (case mX => k_asm); (case mN => k_asm); (case mT => k_asm); (case mhd => first | exact room2 (by assumption) (by rfl) | exact room1 (by assumption) (by rfl) | exact room3 (by assumption) (by rfl) | exact room4 (by assumption) (by rfl) | (simp only [m_dd, m_kd, m_1d, m_md, m_td]; omega)); (case mhu => first | exact room2 (by assumption) (by rfl) | exact room1 (by assumption) (by rfl) | exact room3 (by assumption) (by rfl) | exact room4 (by assumption) (by rfl) | (simp only [m_du, m_ku, m_1u, m_mu, m_tu]; omega))))
local macro_rules | `(tactic| walk_at "getAttr ref") => `(tactic| (k_here; k_dflt (first | ((with_reducible show wpAny _ _ (getAttr (Value.ref _) (PySem.Str.ofString "key_size") _) _ _ _); refine' TreeSpec.use (conf_key_size _ _ _ _) ?mB ?mF ?mX ?mN ?mT ?mhd ?mhu ?mp ?_) | ((with_reducible show wpAny _ _ (getAttr (Value.ref _) (PySem.Str.ofString "value_size") _) _ _ _); refine' TreeSpec.use (conf_value_size _ _ _ _) ?mB ?mF ?mX ?mN ?mT ?mhd ?mhu ?mp ?_) | ((with_reducible show wpAny _ _ (getAttr (Value.ref _) (PySem.Str.ofString "serializer") _) _ _ _); refine' TreeSpec.use (conf_serializer _ _ _ _) ?mB ?mF ?mX ?mN ?mT ?mhd ?mhu ?mp ?_) | ((with_reducible show wpAny _ _ (getAttr (Value.ref _) (PySem.Str.ofString "order") _) _ _ _); refine' TreeSpec.use (conf_order _ _ _ _) ?mB ?mF ?mX ?mN ?mT ?mhd ?mhu ?mp ?_) | ((with_reducible show wpAny _ _ (getAttr (Value.ref _) (PySem.Str.ofString "page_size") _) _ _ _); refine' TreeSpec.use (conf_page_size _ _ _ _) ?mB ?mF ?mX ?mN ?mT ?mhd ?mhu ?mp ?_)); (walk_at "MINE spec"); (case mp => exact ⟨_, by k_mem, by k_mem⟩); intro r' tl' h' tk' F' N' _ hp'; obtain ⟨e1', e2'⟩ := hp'; subst e1' e2'; (replace N' := news_sub N' sub_nil0); (try dsimp only); (try k_sweep)))
local macro_rules | `(tactic| ks_enter) => `(tactic| (refine' ks_code_super (hA := rfl) (hf := rfl) (hke := rfl) ?mB ?mF ?mX ?mN ?mT ?mho ?mhc ?mroom ?mbind ?mloc ?_ ?mcell ?mco ?mge ?mki; (case mB => k_asm); (case mF => k_asm); (case mX => k_asm); (case mN => k_asm); (case mT => k_asm); (case mho => k_is); (case mhc => k_is); (case mroom => k_room); (case mbind => first | exact BindsTo.of_eq rfl | exact binds_K (by k_in) rfl (by k_is) rfl rfl rfl); (case mcell => decide); (case mco => exact rfl); (case mge => exact rfl); (case mki => exact rfl); (case mloc => exact locs rfl); intro g' L' h' FG' F' N' B' X' T' l1; (try k_lt l1); (try dsimp only); (try k_lift B')))
local macro_rules | `(tactic| walk_at "wpAt") => `(tactic| (dsimp only))
local macro_rules | `(tactic| walk_at "wpAt") => `(tactic| k_dflt (first | (ks_step "exec Expr"; refine ks_wpAt_Expr_any ?_) | (ks_step "eval Call"; refine ks_wpAt_MethodCall ?_)))
local macro_rules | `(tactic| k_is) => `(tactic| (rename OneOf _ _ => q9; first | (clear q9; k_is) | ((first | with_reducible refine' OneOf.find4 q9 ?ma ?mb ?mc ?md | with_reducible refine' OneOf.over4 q9 ?ma ?mb ?mc ?md | with_reducible refine' OneOf.taker4 q9 ?ma ?mb ?mc ?md | with_reducible refine' OneOf.dict4 q9 ?ma ?mb ?mc ?md | with_reducible refine' OneOf.plain4 q9 ?ma ?mb ?mc ?md | with_reducible refine' OneOf.seq4 q9 ?ma ?mb ?mc ?md | with_reducible refine' OneOf.mro4 q9 ?ma ?mb ?mc ?md | with_reducible refine' OneOf.sub4 q9 ?ma ?mb ?mc ?md | with_reducible refine' OneOf.inst4 q9 ?ma ?mb ?mc ?md); (case ma => k_is); (case mb => k_is); (case mc => k_is); (case md => k_is)) | ((first | with_reducible refine' OneOf.find2 q9 ?ma ?mb | with_reducible refine' OneOf.over2 q9 ?ma ?mb | with_reducible refine' OneOf.taker2 q9 ?ma ?mb | with_reducible refine' OneOf.dict2 q9 ?ma ?mb | with_reducible refine' OneOf.plain2 q9 ?ma ?mb | with_reducible refine' OneOf.seq2 q9 ?ma ?mb | with_reducible refine' OneOf.mro2 q9 ?ma ?mb | with_reducible refine' OneOf.sub2 q9 ?ma ?mb | with_reducible refine' OneOf.inst2 q9 ?ma ?mb); (case ma => k_is); (case mb => k_is))))
local macro_rules | `(tactic| walk_at "call type:list") => `(tactic| (k_here; k_dflt (refine' list0 ?mF ?mN ?_; (case mF => k_asm); (case mN => k_asm); intro D' h' F' N' l1; (try k_lt l1); (try k_sweep))))
local macro_rules | `(tactic| walk_at "getMethod ref") => `(tactic| ((with_reducible rename HoldM => hM); refine' Held.out ?_))
local macro_rules | `(tactic| k_all) => `(tactic| assumption)
abbrev nodeDict (w : World) (u1 u2 u3 u4 u5 u6 u7 u8 u9 : Tok) (x : Addr) (nt mn mx : Value) (ec : Addr) (le : Addr) (page par nx : Value) (n : Nat) : Obj :=
  dictOf [en w "_node_type_int" u1 nt, en w "min_children" u2 mn, en w "max_children" u3 mx, en w "_entry_class" u4 (.ref ec), en w "_tree_conf" u5 (.ref x), en w "entries" u6 (.ref le), en w "page" u7 page, en w "parent" u8 par, en w "next_page" u9 nx] n
abbrev lst (vs : List Value) (n : Nat) : Obj := { cls := .type "list", data := .seq vs.toArray n }
/-- the call of a def, from any frame -/
def CodeSpec (w : World) (f : Value) (args : Args) (cost : Nat) (Pre : Led → Prop) (Post : Value → Led → Led → Prop) : Prop :=
  ∀ (mean : ExcName → Option Value) (mg mb : Str → Option Value) (A : Around) (env : Env) (outer : List Env) (A₀ : Around) (base h₀ : Heap) (L : Addr) (m : Str → Option Value) (news : Led) (s : Shared) (R : Result → Shared → Prop),
    A.handled = none → A.frames = some (env :: outer) → env.frame = some L → env.scope.kind = .function → Below A₀ base outer h₀ → Fr h₀ L s.heap m → (hd.heap_1 w.params).In h₀ → News h₀ L s.heap news → Top vw lsw mean mg mb h₀ → A.depth + cost < 400 → A.units + 8 * cost < 5000 → Pre news →
    (∀ r news' h' tk', Fr h₀ L h' m → News h₀ L h' news' → Post r news news' → R (.ok (.ret r)) { s with heap := h', toks := tk' }) →
    codeAny (model PySem.Challenge.rw_ke0002_02.row.prog w) A (.call f args) R s
theorem CodeSpec.use {w : World} {f : Value} {args : Args} {cost : Nat} {Pre : Led → Prop} {Post : Value → Led → Led → Prop} (S : CodeSpec w f args cost Pre Post)
    {mean : ExcName → Option Value} {mg mb : Str → Option Value} {A : Around} {env : Env} {outer : List Env} {A₀ : Around} {base h₀ : Heap} {L : Addr} {m : Str → Option Value} {news : Led} {s : Shared} {hs : Heap} {ks : Nat} {R : Result → Shared → Prop}
    (hh : A.handled = none) (hA : A.frames = some (env :: outer)) (hf : env.frame = some L) (hke : env.scope.kind = .function) (B : Below A₀ base outer h₀) (F : Fr h₀ L hs m) (X : (hd.heap_1 w.params).In h₀) (N : News h₀ L hs news) (T : Top vw lsw mean mg mb h₀) (hdd : A.depth + cost < 400) (hu : A.units + 8 * cost < 5000) (pre : Pre news)
    (k : ∀ r news' h' tk', Fr h₀ L h' m → News h₀ L h' news' → Post r news news' → R (.ok (.ret r)) { s with heap := h', toks := tk' }) :
    codeAny (model PySem.Challenge.rw_ke0002_02.row.prog w) A (.call f args) R { s with heap := hs, toks := ks } := S mean mg mb A env outer A₀ base h₀ L m news { s with heap := hs, toks := ks } R hh hA hf hke B F X N T hdd hu pre k
abbrev Kept (a : Addr) (news news' : Led) : Prop := ∀ q ∈ news, q.1 ≠ a → q ∈ news'
local macro_rules | `(tactic| ks_enter) => `(tactic| refine' Held.out ?_)
/-- what a node's dict bears behind Node.__init__ -/
def InitEnd (w : World) (dy x ec : Addr) (nt mn mx page nx : Value) (r : Value) (news news' : Led) : Prop :=
  r = .none ∧ (∃ le u1 u2 u3 u4 u5 u6 u7 u8 u9 n', (le, lst [] 0) ∈ news' ∧ (dy, nodeDict w u1 u2 u3 u4 u5 u6 u7 u8 u9 x nt mn mx ec le page .none nx n') ∈ news' ∧ ∀ q ∈ news, q.1 ≠ le) ∧ Kept dy news news'
theorem InitEnd.elim {w : World} {dy x ec : Addr} {nt mn mx page nx : Value} {r : Value} {news news' : Led} {G : Prop} (h : InitEnd w dy x ec nt mn mx page nx r news news')
    (c : r = .none → ∀ le u1 u2 u3 u4 u5 u6 u7 u8 u9 n', (le, lst [] 0) ∈ news' → (dy, nodeDict w u1 u2 u3 u4 u5 u6 u7 u8 u9 x nt mn mx ec le page .none nx n') ∈ news' → (∀ q ∈ news, q.1 ≠ le) → Kept dy news news' → G) : G := by
  obtain ⟨h0, ⟨le, u1, u2, u3, u4, u5, u6, u7, u8, u9, n, h1, h2, h3⟩, h4⟩ := h
  exact c h0 le u1 u2 u3 u4 u5 u6 u7 u8 u9 n h1 h2 h3 h4
theorem node_init6 (w : World) (C y dy x ec : Addr) (u1 u2 u3 u4 : Tok) (nt mn mx page nx : Value) (hC : OneOf recNode C) :
    CodeSpec w (.ref 318) ⟨[.ref y, .ref x, .none, page, .none, nx], []⟩ 6
    (fun news => (y, instObj C dy) ∈ news ∧ (dy, dictOf [en w "_node_type_int" u1 nt, en w "min_children" u2 mn, en w "max_children" u3 mx, en w "_entry_class" u4 (.ref ec)] 4) ∈ news)
    (InitEnd w dy x ec nt mn mx page nx) := by
  unfold CodeSpec
  k_fill
  intro mean mg mb A env outer A₀ base h₀ L m news s R hh hA hf hke B F X N T hdp hun pre post
  obtain ⟨hm, hm'⟩ := pre
  replace hm : (y, instObj C dy) ∈ rest dy news := mem_rest hm (news_ne N hm hm' fun e => nomatch congrArg Obj.cls e)
  have hr : ∀ p ∈ rest dy news, p.1 ≠ dy := rest_ne
  have hkeep : ∀ q ∈ news, q.1 ≠ dy → q ∈ rest dy news := fun q hq h9 => mem_rest hq h9
  replace N := news_rest N hm'
  clear hm'
  refine' code_own ?mB ?mF ?mX ?mN ?mT hA hf hke ?mho ?mhc ?mroom ?mbind ?mloc ?_ ?mcell ?mco ?mge ?mki
  case mB => k_asm
  case mF => k_asm
  case mX => k_asm
  case mN => k_asm
  case mT => k_asm
  case mho => k_is
  case mhc => k_is
  case mroom => first | exact room1 (by assumption) (by rfl) | exact room2 (by assumption) (by rfl) | exact room0 (by assumption) (by rfl) | (simp only [PySem.recursionLimit]; omega)
  case mbind => first | exact BindsTo.of_eq rfl | exact binds_K (by k_in) rfl (by k_is) rfl rfl rfl
  case mcell => decide
  case mco => exact rfl
  case mge => exact rfl
  case mki => exact rfl
  case mloc => exact locs rfl
  intro g' L' h' FG' F' N' B' X' T' Qb hQ
  try dsimp only
  try k_fold
  refine letA ?_
  intro A1
  refine letE ?_
  intro e1
  k_steps
  with_reducible rename _ ∧ AllLt _ _ => l9
  refine hQ _ _ ?_
  k_steps
  refine post _ _ _ _ (by assumption) (by assumption) ⟨rfl, ⟨_, _, _, _, _, _, _, _, _, _, _, .head _, .tail _ (.head _), fun q hq => ?_⟩, fun q hq n => .tail _ (.tail _ (hkeep q hq n))⟩
  by_cases e : q.1 = dy
  · rw [e]; exact Nat.ne_of_lt l9.1
  · exact Nat.ne_of_lt (ktn_ltOf l9.2 q (hkeep q hq e))
theorem node_init5 (w : World) (C y dy x ec : Addr) (u1 u2 u3 u4 : Tok) (nt mn mx page : Value) (hC : OneOf refNode C) :
    CodeSpec w (.ref 318) ⟨[.ref y, .ref x, .none, page, .none], []⟩ 6
    (fun news => (y, instObj C dy) ∈ news ∧ (dy, dictOf [en w "_node_type_int" u1 nt, en w "min_children" u2 mn, en w "max_children" u3 mx, en w "_entry_class" u4 (.ref ec)] 4) ∈ news)
    (InitEnd w dy x ec nt mn mx page .none) := by
  unfold CodeSpec
  k_fill
  intro mean mg mb A env outer A₀ base h₀ L m news s R hh hA hf hke B F X N T hdp hun pre post
  obtain ⟨hm, hm'⟩ := pre
  replace hm : (y, instObj C dy) ∈ rest dy news := mem_rest hm (news_ne N hm hm' fun e => nomatch congrArg Obj.cls e)
  have hr : ∀ p ∈ rest dy news, p.1 ≠ dy := rest_ne
  have hkeep : ∀ q ∈ news, q.1 ≠ dy → q ∈ rest dy news := fun q hq h9 => mem_rest hq h9
  replace N := news_rest N hm'
  clear hm'
  refine' code_own ?mB ?mF ?mX ?mN ?mT hA hf hke ?mho ?mhc ?mroom ?mbind ?mloc ?_ ?mcell ?mco ?mge ?mki
  case mB => k_asm
  case mF => k_asm
  case mX => k_asm
  case mN => k_asm
  case mT => k_asm
  case mho => k_is
  case mhc => k_is
  case mroom => first | exact room1 (by assumption) (by rfl) | exact room2 (by assumption) (by rfl) | exact room0 (by assumption) (by rfl) | (simp only [PySem.recursionLimit]; omega)
  case mbind => first | exact BindsTo.of_eq rfl | exact binds_K (by k_in) rfl (by k_is) rfl rfl rfl
  case mcell => decide
  case mco => exact rfl
  case mge => exact rfl
  case mki => exact rfl
  case mloc => exact locs rfl
  intro g' L' h' FG' F' N' B' X' T' Qb hQ
  try dsimp only
  try k_fold
  refine letA ?_
  intro A1
  refine letE ?_
  intro e1
  k_steps
  with_reducible rename _ ∧ AllLt _ _ => l9
  refine hQ _ _ ?_
  k_steps
  refine post _ _ _ _ (by assumption) (by assumption) ⟨rfl, ⟨_, _, _, _, _, _, _, _, _, _, _, .head _, .tail _ (.head _), fun q hq => ?_⟩, fun q hq n => .tail _ (.tail _ (hkeep q hq n))⟩
  by_cases e : q.1 = dy
  · rw [e]; exact Nat.ne_of_lt l9.1
  · exact Nat.ne_of_lt (ktn_ltOf l9.2 q (hkeep q hq e))
theorem rec_init6 (w : World) (C y dy x : Addr) (u1 u2 u3 : Tok) (nt mn mx page nx : Value) (hC : OneOf recNode C) :
    CodeSpec w (.ref 478) ⟨[.ref y, .ref x, .none, page, .none, nx], []⟩ 12
    (fun news => (y, instObj C dy) ∈ news ∧ (dy, dictOf [en w "_node_type_int" u1 nt, en w "min_children" u2 mn, en w "max_children" u3 mx] 3) ∈ news)
    (InitEnd w dy x 260 nt mn mx page nx) := by
  unfold CodeSpec
  k_fill
  intro mean mg mb A env outer A₀ base h₀ L m news s R hh hA hf hke B F X N T hdp hun pre post
  obtain ⟨hm, hm'⟩ := pre
  replace hm : (y, instObj C dy) ∈ rest dy news := mem_rest hm (news_ne N hm hm' fun e => nomatch congrArg Obj.cls e)
  have hr : ∀ p ∈ rest dy news, p.1 ≠ dy := rest_ne
  have hkeep : ∀ q ∈ news, q.1 ≠ dy → q ∈ rest dy news := fun q hq h9 => mem_rest hq h9
  replace N := news_rest N hm'
  clear hm'
  refine' own_super (hA := hA) (hf := hf) (hke := hke) ?mB ?mF ?mX ?mN ?mT ?mho ?mhc ?mroom ?mbind ?mloc ?_ ?mcell ?mco ?mge ?mki
  case mB => k_asm
  case mF => k_asm
  case mX => k_asm
  case mN => k_asm
  case mT => k_asm
  case mho => k_is
  case mhc => k_is
  case mroom => first | exact room1 (by assumption) (by rfl) | exact room2 (by assumption) (by rfl) | exact room0 (by assumption) (by rfl) | (simp only [PySem.recursionLimit]; omega)
  case mbind => first | exact BindsTo.of_eq rfl | exact binds_K (by k_in) rfl (by k_is) rfl rfl rfl
  case mcell => decide
  case mco => exact rfl
  case mge => exact rfl
  case mki => exact rfl
  case mloc => exact locs rfl
  intro g' L' h' FG' F' N' B' X' T' l1 Qb hQ
  try k_lt l1
  try dsimp only
  refine letAt ?_
  intro A1
  refine letEt ?_
  intro e1
  show _root_.PySem.wpAt _ _ _ _ _ _ { s with heap := h', toks := s.toks + 6 }
  have hM : HoldM := ⟨⟩
  k_steps
  refine ⟨?_⟩
  with_reducible rename HoldM => hM
  clear hM
  k_dflt (refine' ks_method ?k1 ?k2 ?k3 ?k4 ?k5 ?k6 ?k7 ?k8 ?k9 ?_; (case k1 => k_asm); (case k2 => k_asm); (case k3 => k_asm); (case k4 => k_mem); (case k5 => k_inst); (case k6 => k_is); (case k7 => exact OneOf.two (P := fun C => ks_superIn _ C _ _ = _) hC (by ks_is) (by ks_is)); (case k8 => k_is); (case k9 => decide); intro q' h' F' N' l1; (try k_lt l1))
  k_steps
  refine ⟨?_⟩
  refine' CodeSpec.use (node_init6 w C y dy x _ _ _ _ _ nt mn mx page nx hC) ?hh ?hA ?hf ?hke ?mB ?mF ?mX ?mN ?mT ?mhd ?mhu ?mp ?_
  case hA => exact Around.frames_deeper (Below.stack (by assumption))
  case hf => exact rfl
  case hke => exact rfl
  case hh => first | exact hh | exact rfl
  case mB => assumption
  case mF => assumption
  case mX => assumption
  case mN => assumption
  case mT => assumption
  case mhd => first | exact room2 (by assumption) (by rfl) | exact room1 (by assumption) (by rfl) | exact room3 (by assumption) (by rfl) | exact room4 (by assumption) (by rfl) | (simp only [m_dd, m_kd, m_1d, m_md, m_td]; omega)
  case mhu => first | exact room2 (by assumption) (by rfl) | exact room1 (by assumption) (by rfl) | exact room3 (by assumption) (by rfl) | exact room4 (by assumption) (by rfl) | (simp only [m_du, m_ku, m_1u, m_mu, m_tu]; omega)
  case mp => exact ⟨by k_mem, by k_mem⟩
  intro r1 nw1 h1 tk1 F1 N1 hp1
  refine InitEnd.elim hp1 ?_
  intro e1 le v1 v2 v3 v4 v5 v6 v7 v8 v9 n1 q1 q2 q4 q3
  subst e1
  k_steps
  refine hQ _ _ ?_
  k_steps
  exact post _ _ _ _ (by assumption) (by assumption) ⟨rfl, ⟨le, v1, v2, v3, v4, v5, v6, v7, v8, v9, n1, q1, q2, fun q hq => (Classical.em (q.1 = dy)).elim (fun e => by rw [e]; exact q4 (dy, _) (by k_mem)) fun e => q4 q (by have hq' := hkeep q hq e; k_mem)⟩, fun q hq n => q3 _ (by have hq' := hkeep q hq n; k_mem) n⟩
theorem rec_init5 (w : World) (C y dy x : Addr) (u1 u2 u3 : Tok) (nt mn mx page : Value) (hC : OneOf recNode C) :
    CodeSpec w (.ref 478) ⟨[.ref y, .ref x, .none, page, .none], []⟩ 12
    (fun news => (y, instObj C dy) ∈ news ∧ (dy, dictOf [en w "_node_type_int" u1 nt, en w "min_children" u2 mn, en w "max_children" u3 mx] 3) ∈ news)
    (InitEnd w dy x 260 nt mn mx page .none) := by
  unfold CodeSpec
  k_fill
  intro mean mg mb A env outer A₀ base h₀ L m news s R hh hA hf hke B F X N T hdp hun pre post
  obtain ⟨hm, hm'⟩ := pre
  replace hm : (y, instObj C dy) ∈ rest dy news := mem_rest hm (news_ne N hm hm' fun e => nomatch congrArg Obj.cls e)
  have hr : ∀ p ∈ rest dy news, p.1 ≠ dy := rest_ne
  have hkeep : ∀ q ∈ news, q.1 ≠ dy → q ∈ rest dy news := fun q hq h9 => mem_rest hq h9
  replace N := news_rest N hm'
  clear hm'
  refine' own_super (hA := hA) (hf := hf) (hke := hke) ?mB ?mF ?mX ?mN ?mT ?mho ?mhc ?mroom ?mbind ?mloc ?_ ?mcell ?mco ?mge ?mki
  case mB => k_asm
  case mF => k_asm
  case mX => k_asm
  case mN => k_asm
  case mT => k_asm
  case mho => k_is
  case mhc => k_is
  case mroom => first | exact room1 (by assumption) (by rfl) | exact room2 (by assumption) (by rfl) | exact room0 (by assumption) (by rfl) | (simp only [PySem.recursionLimit]; omega)
  case mbind => first | exact BindsTo.of_eq rfl | exact binds_K (by k_in) rfl (by k_is) rfl rfl rfl
  case mcell => decide
  case mco => exact rfl
  case mge => exact rfl
  case mki => exact rfl
  case mloc => exact locs rfl
  intro g' L' h' FG' F' N' B' X' T' l1 Qb hQ
  try k_lt l1
  try dsimp only
  refine letAt ?_
  intro A1
  refine letEt ?_
  intro e1
  show _root_.PySem.wpAt _ _ _ _ _ _ { s with heap := h', toks := s.toks + 6 }
  have hM : HoldM := ⟨⟩
  k_steps
  refine ⟨?_⟩
  with_reducible rename HoldM => hM
  clear hM
  k_dflt (refine' ks_method ?k1 ?k2 ?k3 ?k4 ?k5 ?k6 ?k7 ?k8 ?k9 ?_; (case k1 => k_asm); (case k2 => k_asm); (case k3 => k_asm); (case k4 => k_mem); (case k5 => k_inst); (case k6 => k_is); (case k7 => exact OneOf.two (P := fun C => ks_superIn _ C _ _ = _) hC (by ks_is) (by ks_is)); (case k8 => k_is); (case k9 => decide); intro q' h' F' N' l1; (try k_lt l1))
  k_steps
  refine ⟨?_⟩
  refine' CodeSpec.use (node_init6 w C y dy x _ _ _ _ _ nt mn mx page .none hC) ?hh ?hA ?hf ?hke ?mB ?mF ?mX ?mN ?mT ?mhd ?mhu ?mp ?_
  case hA => exact Around.frames_deeper (Below.stack (by assumption))
  case hf => exact rfl
  case hke => exact rfl
  case hh => first | exact hh | exact rfl
  case mB => assumption
  case mF => assumption
  case mX => assumption
  case mN => assumption
  case mT => assumption
  case mhd => first | exact room2 (by assumption) (by rfl) | exact room1 (by assumption) (by rfl) | exact room3 (by assumption) (by rfl) | exact room4 (by assumption) (by rfl) | (simp only [m_dd, m_kd, m_1d, m_md, m_td]; omega)
  case mhu => first | exact room2 (by assumption) (by rfl) | exact room1 (by assumption) (by rfl) | exact room3 (by assumption) (by rfl) | exact room4 (by assumption) (by rfl) | (simp only [m_du, m_ku, m_1u, m_mu, m_tu]; omega)
  case mp => exact ⟨by k_mem, by k_mem⟩
  intro r1 nw1 h1 tk1 F1 N1 hp1
  refine InitEnd.elim hp1 ?_
  intro e1 le v1 v2 v3 v4 v5 v6 v7 v8 v9 n1 q1 q2 q4 q3
  subst e1
  k_steps
  refine hQ _ _ ?_
  k_steps
  exact post _ _ _ _ (by assumption) (by assumption) ⟨rfl, ⟨le, v1, v2, v3, v4, v5, v6, v7, v8, v9, n1, q1, q2, fun q hq => (Classical.em (q.1 = dy)).elim (fun e => by rw [e]; exact q4 (dy, _) (by k_mem)) fun e => q4 q (by have hq' := hkeep q hq e; k_mem)⟩, fun q hq n => q3 _ (by have hq' := hkeep q hq n; k_mem) n⟩
theorem ref_init5 (w : World) (C y dy x : Addr) (u1 u2 u3 : Tok) (nt mn mx page : Value) (hC : OneOf refNode C) :
    CodeSpec w (.ref 559) ⟨[.ref y, .ref x, .none, page, .none], []⟩ 12
    (fun news => (y, instObj C dy) ∈ news ∧ (dy, dictOf [en w "_node_type_int" u1 nt, en w "min_children" u2 mn, en w "max_children" u3 mx] 3) ∈ news)
    (InitEnd w dy x 301 nt mn mx page .none) := by
  unfold CodeSpec
  k_fill
  intro mean mg mb A env outer A₀ base h₀ L m news s R hh hA hf hke B F X N T hdp hun pre post
  obtain ⟨hm, hm'⟩ := pre
  replace hm : (y, instObj C dy) ∈ rest dy news := mem_rest hm (news_ne N hm hm' fun e => nomatch congrArg Obj.cls e)
  have hr : ∀ p ∈ rest dy news, p.1 ≠ dy := rest_ne
  have hkeep : ∀ q ∈ news, q.1 ≠ dy → q ∈ rest dy news := fun q hq h9 => mem_rest hq h9
  replace N := news_rest N hm'
  clear hm'
  refine' own_super (hA := hA) (hf := hf) (hke := hke) ?mB ?mF ?mX ?mN ?mT ?mho ?mhc ?mroom ?mbind ?mloc ?_ ?mcell ?mco ?mge ?mki
  case mB => k_asm
  case mF => k_asm
  case mX => k_asm
  case mN => k_asm
  case mT => k_asm
  case mho => k_is
  case mhc => k_is
  case mroom => first | exact room1 (by assumption) (by rfl) | exact room2 (by assumption) (by rfl) | exact room0 (by assumption) (by rfl) | (simp only [PySem.recursionLimit]; omega)
  case mbind => first | exact BindsTo.of_eq rfl | exact binds_K (by k_in) rfl (by k_is) rfl rfl rfl
  case mcell => decide
  case mco => exact rfl
  case mge => exact rfl
  case mki => exact rfl
  case mloc => exact locs rfl
  intro g' L' h' FG' F' N' B' X' T' l1 Qb hQ
  try k_lt l1
  try dsimp only
  refine letAt ?_
  intro A1
  refine letEt ?_
  intro e1
  show _root_.PySem.wpAt _ _ _ _ _ _ { s with heap := h', toks := s.toks + 5 }
  have hM : HoldM := ⟨⟩
  k_steps
  refine ⟨?_⟩
  with_reducible rename HoldM => hM
  clear hM
  k_dflt (refine' ks_method ?k1 ?k2 ?k3 ?k4 ?k5 ?k6 ?k7 ?k8 ?k9 ?_; (case k1 => k_asm); (case k2 => k_asm); (case k3 => k_asm); (case k4 => k_mem); (case k5 => k_inst); (case k6 => k_is); (case k7 => exact OneOf.two (P := fun C => ks_superIn _ C _ _ = _) hC (by ks_is) (by ks_is)); (case k8 => k_is); (case k9 => decide); intro q' h' F' N' l1; (try k_lt l1))
  k_steps
  refine ⟨?_⟩
  refine' CodeSpec.use (node_init5 w C y dy x _ _ _ _ _ nt mn mx page hC) ?hh ?hA ?hf ?hke ?mB ?mF ?mX ?mN ?mT ?mhd ?mhu ?mp ?_
  case hA => exact Around.frames_deeper (Below.stack (by assumption))
  case hf => exact rfl
  case hke => exact rfl
  case hh => first | exact hh | exact rfl
  case mB => assumption
  case mF => assumption
  case mX => assumption
  case mN => assumption
  case mT => assumption
  case mhd => first | exact room2 (by assumption) (by rfl) | exact room1 (by assumption) (by rfl) | exact room3 (by assumption) (by rfl) | exact room4 (by assumption) (by rfl) | (simp only [m_dd, m_kd, m_1d, m_md, m_td]; omega)
  case mhu => first | exact room2 (by assumption) (by rfl) | exact room1 (by assumption) (by rfl) | exact room3 (by assumption) (by rfl) | exact room4 (by assumption) (by rfl) | (simp only [m_du, m_ku, m_1u, m_mu, m_tu]; omega)
  case mp => exact ⟨by k_mem, by k_mem⟩
  intro r1 nw1 h1 tk1 F1 N1 hp1
  refine InitEnd.elim hp1 ?_
  intro e1 le v1 v2 v3 v4 v5 v6 v7 v8 v9 n1 q1 q2 q4 q3
  subst e1
  k_steps
  refine hQ _ _ ?_
  k_steps
  exact post _ _ _ _ (by assumption) (by assumption) ⟨rfl, ⟨le, v1, v2, v3, v4, v5, v6, v7, v8, v9, n1, q1, q2, fun q hq => (Classical.em (q.1 = dy)).elim (fun e => by rw [e]; exact q4 (dy, _) (by k_mem)) fun e => q4 q (by have hq' := hkeep q hq e; k_mem)⟩, fun q hq n => q3 _ (by have hq' := hkeep q hq n; k_mem) n⟩
/-- the tree t at any frame of the text's own: it may change the ledger -/
def MutSpec (w : World) (t : Sem Value) (cost : Nat) (Pre : Led → Prop) (Post : Value → Led → Led → Prop) : Prop :=
  ∀ (mean : ExcName → Option Value) (mg mb : Str → Option Value) (dp un : Nat) (gd : Option (List Code)) (cn : Str) (nms : List (Str × NameKind)) (ig ic : Bool) (mo : List (Str × Const)) (a : Addr) (ccd : Value) (cl : List (Str × Addr)) (outer : List Env) (A₀ : Around) (base h₀ : Heap) (L : Addr)
    (m : Str → Option Value) (news : Led) (s : Shared) (Q E : Value → Shared → Prop),
    Below A₀ base outer h₀ → Fr h₀ L s.heap m → (hd.heap_1 w.params).In h₀ → News h₀ L s.heap news → Top vw lsw mean mg mb h₀ → dp + cost < 400 → un + 8 * cost < 5000 → Pre news →
    (∀ r news' h' tk', Fr h₀ L h' m → News h₀ L h' news' → Post r news news' → Q r { s with heap := h', toks := tk' }) →
    wpAny (model PySem.Challenge.rw_ke0002_02.row.prog w) (ktrTop dp un gd cn ⟨.function, nms, ig, ic, mo⟩ L a ccd cl outer) t Q E s
def nodeIs (w : World) (C y le x : Addr) (nt mn mx : Value) (ec : Addr) (page par nx : Value) (news : Led) : Prop :=
  ∃ dy u1 u2 u3 u4 u5 u6 u7 u8 u9 n, (y, instObj C dy) ∈ news ∧ (dy, nodeDict w u1 u2 u3 u4 u5 u6 u7 u8 u9 x nt mn mx ec le page par nx n) ∈ news
/-- a node was made -/
def Made (w : World) (C x ec : Addr) (page nx : Value) (P : Value → Value → Value → Prop) (r : Value) (news news' : Led) : Prop :=
  (∃ y dy le nt mn mx u1 u2 u3 u4 u5 u6 u7 u8 u9 n, r = .ref y ∧ (y, instObj C dy) ∈ news' ∧ (dy, nodeDict w u1 u2 u3 u4 u5 u6 u7 u8 u9 x nt mn mx ec le page .none nx n) ∈ news' ∧ (le, lst [] 0) ∈ news' ∧ (∀ q ∈ news, q.1 ≠ dy) ∧ (∀ q ∈ news, q.1 ≠ le) ∧ P nt mn mx) ∧ ∀ q ∈ news, q ∈ news'
theorem nodeIs.elim {w : World} {C y le x : Addr} {nt mn mx : Value} {ec : Addr} {page par nx : Value} {news : Led} {G : Prop} (h : nodeIs w C y le x nt mn mx ec page par nx news)
    (c : ∀ dy u1 u2 u3 u4 u5 u6 u7 u8 u9 n, (y, instObj C dy) ∈ news → (dy, nodeDict w u1 u2 u3 u4 u5 u6 u7 u8 u9 x nt mn mx ec le page par nx n) ∈ news → G) : G := by
  obtain ⟨dy, u1, u2, u3, u4, u5, u6, u7, u8, u9, n, h1, h2⟩ := h
  exact c dy u1 u2 u3 u4 u5 u6 u7 u8 u9 n h1 h2
theorem Made.elim {w : World} {C x ec : Addr} {page nx : Value} {P : Value → Value → Value → Prop} {r : Value} {news news' : Led} {G : Prop} (h : Made w C x ec page nx P r news news')
    (c : ∀ y dy le nt mn mx u1 u2 u3 u4 u5 u6 u7 u8 u9 n, r = .ref y → (y, instObj C dy) ∈ news' → (dy, nodeDict w u1 u2 u3 u4 u5 u6 u7 u8 u9 x nt mn mx ec le page .none nx n) ∈ news' → (le, lst [] 0) ∈ news' → (∀ q ∈ news, q.1 ≠ dy) → (∀ q ∈ news, q.1 ≠ le) → P nt mn mx → (∀ q ∈ news, q ∈ news') → G) : G := by
  obtain ⟨⟨y, dy, le, nt, mn, mx, u1, u2, u3, u4, u5, u6, u7, u8, u9, n, h1, h2, h3, h4, h5, h6, h7⟩, h8⟩ := h
  exact c y dy le nt mn mx u1 u2 u3 u4 u5 u6 u7 u8 u9 n h1 h2 h3 h4 h5 h6 h7 h8
theorem mk_LonelyRootNode (w : World) (x : Addr) (c : Cf) (page : Int) (t : Tok) : MutSpec w (call (.ref 518) [.ref x] [("page", .int page t)]) 24
    (fun news => confIs x c.vals news ∧ 1 ≤ c.od)
    (Made w 518 x 260 (.int page t) .none (fun nt mn mx => ∃ v1 v2 v3, nt = .int 1 v1 ∧ mn = .int 0 v2 ∧ mx = .int (c.od - 1) v3)) := by
  unfold MutSpec
  k_fill
  intro mean mg mb dp un gd cn nms ig ic mo a ccd cl outer A₀ base h₀ L m news s Q E B F X N T hdp hun pre post
  obtain ⟨⟨dc, hm, hm'⟩, hod⟩ := pre
  k_steps
  refine ⟨?_⟩
  with_reducible rename AllLt _ news => lnews
  refine' own_super (hA := rfl) (hf := rfl) (hke := rfl) ?mB ?mF ?mX ?mN ?mT ?mho ?mhc ?mroom ?mbind ?mloc ?_ ?mcell ?mco ?mge ?mki
  case mB => k_asm
  case mF => k_asm
  case mX => k_asm
  case mN => k_asm
  case mT => k_asm
  case mho => k_is
  case mhc => k_is
  case mroom => k_room
  case mbind => first | exact BindsTo.of_eq rfl | exact binds_K (by k_in) rfl (by k_is) rfl rfl rfl
  case mcell => decide
  case mco => exact rfl
  case mge => exact rfl
  case mki => exact rfl
  case mloc => exact locs rfl
  intro g' L' h' FG' F' N' B' X' T' l1 Qb hQ
  try k_lt l1
  try dsimp only
  refine letAt ?_
  intro A1
  refine letEt ?_
  intro e1
  show _root_.PySem.wpAt _ _ _ _ _ _ { s with heap := h', toks := s.toks + 5 }
  k_steps
  refine ⟨?_⟩
  refine' CodeSpec.use (rec_init5 w 518 _ _ x _ _ _ _ _ _ (.int page t) (.head _)) ?hh ?hA ?hf ?hke ?mB ?mF ?mX ?mN ?mT ?mhd ?mhu ?mp ?_
  case hA => exact Around.frames_deeper (Below.stack (by assumption))
  case hf => exact rfl
  case hke => exact rfl
  case hh => first | exact hh | exact rfl
  case mB => assumption
  case mF => assumption
  case mX => assumption
  case mN => assumption
  case mT => assumption
  case mhd => first | exact room2 (by assumption) (by rfl) | exact room1 (by assumption) (by rfl) | exact room3 (by assumption) (by rfl) | exact room4 (by assumption) (by rfl) | (simp only [m_dd, m_kd, m_1d, m_md, m_td]; omega)
  case mhu => first | exact room2 (by assumption) (by rfl) | exact room1 (by assumption) (by rfl) | exact room3 (by assumption) (by rfl) | exact room4 (by assumption) (by rfl) | (simp only [m_du, m_ku, m_1u, m_mu, m_tu]; omega)
  case mp => exact ⟨by k_mem, by k_mem⟩
  intro r1 nw1 h1 tk1 F1 N1 hp1
  refine InitEnd.elim hp1 ?_
  intro e1 le v1 v2 v3 v4 v5 v6 v7 v8 v9 n1 q1 q2 q4 q3
  subst e1
  k_steps
  refine hQ _ _ ?_
  k_steps
  exact post _ _ _ _ (by assumption) (by assumption) ⟨⟨_, _, le, _, _, _, v1, v2, v3, v4, v5, v6, v7, v8, v9, n1, rfl, q3 _ (by k_mem) (Nat.ne_of_gt (by assumption)), q2, q1, fun q hq => Nat.ne_of_lt (ktn_ltOf lnews q hq), fun q hq => q4 q (by k_mem), _, _, _, rfl, rfl, rfl⟩, fun q hq => q3 _ (by k_mem) (Nat.ne_of_lt (ktn_ltOf lnews q hq))⟩
theorem mk_LeafNode (w : World) (x : Addr) (c : Cf) (page : Int) (t : Tok) (nx : Value) : MutSpec w (call (.ref 540) [.ref x] [("page", .int page t), ("next_page", nx)]) 24
    (fun news => confIs x c.vals news ∧ 1 ≤ c.od)
    (Made w 540 x 260 (.int page t) nx (fun nt mn mx => ∃ v1 v2 v3, nt = .int 4 v1 ∧ mn = .int ((c.od + 1).fdiv 2 - 1) v2 ∧ mx = .int (c.od - 1) v3)) := by
  unfold MutSpec
  k_fill
  intro mean mg mb dp un gd cn nms ig ic mo a ccd cl outer A₀ base h₀ L m news s Q E B F X N T hdp hun pre post
  obtain ⟨⟨dc, hm, hm'⟩, hod⟩ := pre
  k_steps
  refine ⟨?_⟩
  with_reducible rename AllLt _ news => lnews
  refine' own_super (hA := rfl) (hf := rfl) (hke := rfl) ?mB ?mF ?mX ?mN ?mT ?mho ?mhc ?mroom ?mbind ?mloc ?_ ?mcell ?mco ?mge ?mki
  case mB => k_asm
  case mF => k_asm
  case mX => k_asm
  case mN => k_asm
  case mT => k_asm
  case mho => k_is
  case mhc => k_is
  case mroom => k_room
  case mbind => first | exact BindsTo.of_eq rfl | exact binds_K (by k_in) rfl (by k_is) rfl rfl rfl
  case mcell => decide
  case mco => exact rfl
  case mge => exact rfl
  case mki => exact rfl
  case mloc => exact locs rfl
  intro g' L' h' FG' F' N' B' X' T' l1 Qb hQ
  try k_lt l1
  try dsimp only
  refine letAt ?_
  intro A1
  refine letEt ?_
  intro e1
  show _root_.PySem.wpAt _ _ _ _ _ _ { s with heap := h', toks := s.toks + 6 }
  k_steps
  refine ⟨?_⟩
  refine' CodeSpec.use (rec_init6 w 540 _ _ x _ _ _ _ _ _ (.int page t) nx (.tail _ (.head _))) ?hh ?hA ?hf ?hke ?mB ?mF ?mX ?mN ?mT ?mhd ?mhu ?mp ?_
  case hA => exact Around.frames_deeper (Below.stack (by assumption))
  case hf => exact rfl
  case hke => exact rfl
  case hh => first | exact hh | exact rfl
  case mB => assumption
  case mF => assumption
  case mX => assumption
  case mN => assumption
  case mT => assumption
  case mhd => first | exact room2 (by assumption) (by rfl) | exact room1 (by assumption) (by rfl) | exact room3 (by assumption) (by rfl) | exact room4 (by assumption) (by rfl) | (simp only [m_dd, m_kd, m_1d, m_md, m_td]; omega)
  case mhu => first | exact room2 (by assumption) (by rfl) | exact room1 (by assumption) (by rfl) | exact room3 (by assumption) (by rfl) | exact room4 (by assumption) (by rfl) | (simp only [m_du, m_ku, m_1u, m_mu, m_tu]; omega)
  case mp => exact ⟨by k_mem, by k_mem⟩
  intro r1 nw1 h1 tk1 F1 N1 hp1
  refine InitEnd.elim hp1 ?_
  intro e1 le v1 v2 v3 v4 v5 v6 v7 v8 v9 n1 q1 q2 q4 q3
  subst e1
  k_steps
  refine hQ _ _ ?_
  k_steps
  exact post _ _ _ _ (by assumption) (by assumption) ⟨⟨_, _, le, _, _, _, v1, v2, v3, v4, v5, v6, v7, v8, v9, n1, rfl, q3 _ (by k_mem) (Nat.ne_of_gt (by assumption)), q2, q1, fun q hq => Nat.ne_of_lt (ktn_ltOf lnews q hq), fun q hq => q4 q (by k_mem), _, _, _, rfl, rfl, rfl⟩, fun q hq => q3 _ (by k_mem) (Nat.ne_of_lt (ktn_ltOf lnews q hq))⟩
theorem mk_LeafNode1 (w : World) (x : Addr) (c : Cf) (page : Int) (t : Tok) : MutSpec w (call (.ref 540) [.ref x] [("page", .int page t)]) 24
    (fun news => confIs x c.vals news ∧ 1 ≤ c.od)
    (Made w 540 x 260 (.int page t) .none (fun nt mn mx => ∃ v1 v2 v3, nt = .int 4 v1 ∧ mn = .int ((c.od + 1).fdiv 2 - 1) v2 ∧ mx = .int (c.od - 1) v3)) := by
  unfold MutSpec
  k_fill
  intro mean mg mb dp un gd cn nms ig ic mo a ccd cl outer A₀ base h₀ L m news s Q E B F X N T hdp hun pre post
  obtain ⟨⟨dc, hm, hm'⟩, hod⟩ := pre
  k_steps
  refine ⟨?_⟩
  with_reducible rename AllLt _ news => lnews
  refine' own_super (hA := rfl) (hf := rfl) (hke := rfl) ?mB ?mF ?mX ?mN ?mT ?mho ?mhc ?mroom ?mbind ?mloc ?_ ?mcell ?mco ?mge ?mki
  case mB => k_asm
  case mF => k_asm
  case mX => k_asm
  case mN => k_asm
  case mT => k_asm
  case mho => k_is
  case mhc => k_is
  case mroom => k_room
  case mbind => first | exact BindsTo.of_eq rfl | exact binds_K (by k_in) rfl (by k_is) rfl rfl rfl
  case mcell => decide
  case mco => exact rfl
  case mge => exact rfl
  case mki => exact rfl
  case mloc => exact locs rfl
  intro g' L' h' FG' F' N' B' X' T' l1 Qb hQ
  try k_lt l1
  try dsimp only
  refine letAt ?_
  intro A1
  refine letEt ?_
  intro e1
  show _root_.PySem.wpAt _ _ _ _ _ _ { s with heap := h', toks := s.toks + 6 }
  k_steps
  refine ⟨?_⟩
  refine' CodeSpec.use (rec_init6 w 540 _ _ x _ _ _ _ _ _ (.int page t) .none (.tail _ (.head _))) ?hh ?hA ?hf ?hke ?mB ?mF ?mX ?mN ?mT ?mhd ?mhu ?mp ?_
  case hA => exact Around.frames_deeper (Below.stack (by assumption))
  case hf => exact rfl
  case hke => exact rfl
  case hh => first | exact hh | exact rfl
  case mB => assumption
  case mF => assumption
  case mX => assumption
  case mN => assumption
  case mT => assumption
  case mhd => first | exact room2 (by assumption) (by rfl) | exact room1 (by assumption) (by rfl) | exact room3 (by assumption) (by rfl) | exact room4 (by assumption) (by rfl) | (simp only [m_dd, m_kd, m_1d, m_md, m_td]; omega)
  case mhu => first | exact room2 (by assumption) (by rfl) | exact room1 (by assumption) (by rfl) | exact room3 (by assumption) (by rfl) | exact room4 (by assumption) (by rfl) | (simp only [m_du, m_ku, m_1u, m_mu, m_tu]; omega)
  case mp => exact ⟨by k_mem, by k_mem⟩
  intro r1 nw1 h1 tk1 F1 N1 hp1
  refine InitEnd.elim hp1 ?_
  intro e1 le v1 v2 v3 v4 v5 v6 v7 v8 v9 n1 q1 q2 q4 q3
  subst e1
  k_steps
  refine hQ _ _ ?_
  k_steps
  exact post _ _ _ _ (by assumption) (by assumption) ⟨⟨_, _, le, _, _, _, v1, v2, v3, v4, v5, v6, v7, v8, v9, n1, rfl, q3 _ (by k_mem) (Nat.ne_of_gt (by assumption)), q2, q1, fun q hq => Nat.ne_of_lt (ktn_ltOf lnews q hq), fun q hq => q4 q (by k_mem), _, _, _, rfl, rfl, rfl⟩, fun q hq => q3 _ (by k_mem) (Nat.ne_of_lt (ktn_ltOf lnews q hq))⟩
theorem mk_RootNode (w : World) (x : Addr) (c : Cf) (page : Int) (t : Tok) : MutSpec w (call (.ref 607) [.ref x] [("page", .int page t)]) 24
    (fun news => confIs x c.vals news ∧ 1 ≤ c.od)
    (Made w 607 x 301 (.int page t) .none (fun nt mn mx => ∃ v1 v2 v3, nt = .int 2 v1 ∧ mn = .int 2 v2 ∧ mx = .int c.od v3)) := by
  unfold MutSpec
  k_fill
  intro mean mg mb dp un gd cn nms ig ic mo a ccd cl outer A₀ base h₀ L m news s Q E B F X N T hdp hun pre post
  obtain ⟨⟨dc, hm, hm'⟩, hod⟩ := pre
  k_steps
  refine ⟨?_⟩
  with_reducible rename AllLt _ news => lnews
  refine' own_super (hA := rfl) (hf := rfl) (hke := rfl) ?mB ?mF ?mX ?mN ?mT ?mho ?mhc ?mroom ?mbind ?mloc ?_ ?mcell ?mco ?mge ?mki
  case mB => k_asm
  case mF => k_asm
  case mX => k_asm
  case mN => k_asm
  case mT => k_asm
  case mho => k_is
  case mhc => k_is
  case mroom => k_room
  case mbind => first | exact BindsTo.of_eq rfl | exact binds_K (by k_in) rfl (by k_is) rfl rfl rfl
  case mcell => decide
  case mco => exact rfl
  case mge => exact rfl
  case mki => exact rfl
  case mloc => exact locs rfl
  intro g' L' h' FG' F' N' B' X' T' l1 Qb hQ
  try k_lt l1
  try dsimp only
  refine letAt ?_
  intro A1
  refine letEt ?_
  intro e1
  show _root_.PySem.wpAt _ _ _ _ _ _ { s with heap := h', toks := s.toks + 5 }
  k_steps
  refine ⟨?_⟩
  refine' CodeSpec.use (ref_init5 w 607 _ _ x _ _ _ _ _ _ (.int page t) (.head _)) ?hh ?hA ?hf ?hke ?mB ?mF ?mX ?mN ?mT ?mhd ?mhu ?mp ?_
  case hA => exact Around.frames_deeper (Below.stack (by assumption))
  case hf => exact rfl
  case hke => exact rfl
  case hh => first | exact hh | exact rfl
  case mB => assumption
  case mF => assumption
  case mX => assumption
  case mN => assumption
  case mT => assumption
  case mhd => first | exact room2 (by assumption) (by rfl) | exact room1 (by assumption) (by rfl) | exact room3 (by assumption) (by rfl) | exact room4 (by assumption) (by rfl) | (simp only [m_dd, m_kd, m_1d, m_md, m_td]; omega)
  case mhu => first | exact room2 (by assumption) (by rfl) | exact room1 (by assumption) (by rfl) | exact room3 (by assumption) (by rfl) | exact room4 (by assumption) (by rfl) | (simp only [m_du, m_ku, m_1u, m_mu, m_tu]; omega)
  case mp => exact ⟨by k_mem, by k_mem⟩
  intro r1 nw1 h1 tk1 F1 N1 hp1
  refine InitEnd.elim hp1 ?_
  intro e1 le v1 v2 v3 v4 v5 v6 v7 v8 v9 n1 q1 q2 q4 q3
  subst e1
  k_steps
  refine hQ _ _ ?_
  k_steps
  exact post _ _ _ _ (by assumption) (by assumption) ⟨⟨_, _, le, _, _, _, v1, v2, v3, v4, v5, v6, v7, v8, v9, n1, rfl, q3 _ (by k_mem) (Nat.ne_of_gt (by assumption)), q2, q1, fun q hq => Nat.ne_of_lt (ktn_ltOf lnews q hq), fun q hq => q4 q (by k_mem), _, _, _, rfl, rfl, rfl⟩, fun q hq => q3 _ (by k_mem) (Nat.ne_of_lt (ktn_ltOf lnews q hq))⟩
theorem mk_InternalNode (w : World) (x : Addr) (c : Cf) (page : Int) (t : Tok) : MutSpec w (call (.ref 629) [.ref x] [("page", .int page t)]) 24
    (fun news => confIs x c.vals news ∧ 1 ≤ c.od)
    (Made w 629 x 301 (.int page t) .none (fun nt mn mx => ∃ v1 v2 v3, nt = .int 3 v1 ∧ mn = .int ((c.od + 1).fdiv 2) v2 ∧ mx = .int c.od v3)) := by
  unfold MutSpec
  k_fill
  intro mean mg mb dp un gd cn nms ig ic mo a ccd cl outer A₀ base h₀ L m news s Q E B F X N T hdp hun pre post
  obtain ⟨⟨dc, hm, hm'⟩, hod⟩ := pre
  k_steps
  refine ⟨?_⟩
  with_reducible rename AllLt _ news => lnews
  refine' own_super (hA := rfl) (hf := rfl) (hke := rfl) ?mB ?mF ?mX ?mN ?mT ?mho ?mhc ?mroom ?mbind ?mloc ?_ ?mcell ?mco ?mge ?mki
  case mB => k_asm
  case mF => k_asm
  case mX => k_asm
  case mN => k_asm
  case mT => k_asm
  case mho => k_is
  case mhc => k_is
  case mroom => k_room
  case mbind => first | exact BindsTo.of_eq rfl | exact binds_K (by k_in) rfl (by k_is) rfl rfl rfl
  case mcell => decide
  case mco => exact rfl
  case mge => exact rfl
  case mki => exact rfl
  case mloc => exact locs rfl
  intro g' L' h' FG' F' N' B' X' T' l1 Qb hQ
  try k_lt l1
  try dsimp only
  refine letAt ?_
  intro A1
  refine letEt ?_
  intro e1
  show _root_.PySem.wpAt _ _ _ _ _ _ { s with heap := h', toks := s.toks + 5 }
  k_steps
  refine ⟨?_⟩
  refine' CodeSpec.use (ref_init5 w 629 _ _ x _ _ _ _ _ _ (.int page t) (.tail _ (.head _))) ?hh ?hA ?hf ?hke ?mB ?mF ?mX ?mN ?mT ?mhd ?mhu ?mp ?_
  case hA => exact Around.frames_deeper (Below.stack (by assumption))
  case hf => exact rfl
  case hke => exact rfl
  case hh => first | exact hh | exact rfl
  case mB => assumption
  case mF => assumption
  case mX => assumption
  case mN => assumption
  case mT => assumption
  case mhd => first | exact room2 (by assumption) (by rfl) | exact room1 (by assumption) (by rfl) | exact room3 (by assumption) (by rfl) | exact room4 (by assumption) (by rfl) | (simp only [m_dd, m_kd, m_1d, m_md, m_td]; omega)
  case mhu => first | exact room2 (by assumption) (by rfl) | exact room1 (by assumption) (by rfl) | exact room3 (by assumption) (by rfl) | exact room4 (by assumption) (by rfl) | (simp only [m_du, m_ku, m_1u, m_mu, m_tu]; omega)
  case mp => exact ⟨by k_mem, by k_mem⟩
  intro r1 nw1 h1 tk1 F1 N1 hp1
  refine InitEnd.elim hp1 ?_
  intro e1 le v1 v2 v3 v4 v5 v6 v7 v8 v9 n1 q1 q2 q4 q3
  subst e1
  k_steps
  refine hQ _ _ ?_
  k_steps
  exact post _ _ _ _ (by assumption) (by assumption) ⟨⟨_, _, le, _, _, _, v1, v2, v3, v4, v5, v6, v7, v8, v9, n1, rfl, q3 _ (by k_mem) (Nat.ne_of_gt (by assumption)), q2, q1, fun q hq => Nat.ne_of_lt (ktn_ltOf lnews q hq), fun q hq => q4 q (by k_mem), _, _, _, rfl, rfl, rfl⟩, fun q hq => q3 _ (by k_mem) (Nat.ne_of_lt (ktn_ltOf lnews q hq))⟩
end Mine
end

section
open PySem PySem.W PyProof.Rows
/-- between two texts: the walk forgets the lines of the text before, as a fresh process has none -/
theorem Mine.calm54 : ∀ (prog : Program) (w : World) (A : Around) (env : Env) (E : Value → Shared → Prop) (s : Shared) (Q : Flow → Shared → Prop), Q .next s → wpAny (model prog w) A (execs [] env) Q E s := by
  w_top off
  intro prog w A env E s Q h
  walk1
  exact h
end

section
open PySem PySem.W PyProof.Rows PySem.Calls
set_option Elab.async false
set_option maxRecDepth 100000
set_option maxHeartbeats 4000000
namespace Mine
theorem MutSpec.use {w : World} {t : Sem Value} {cost : Nat} {Pre : Led → Prop} {Post : Value → Led → Led → Prop} (S : MutSpec w t cost Pre Post)
    {mean : ExcName → Option Value} {mg mb : Str → Option Value} {dp un : Nat} {gd : Option (List Code)} {cn : Str} {nms : List (Str × NameKind)} {ig ic : Bool} {mo : List (Str × Const)} {a : Addr} {ccd : Value} {cl : List (Str × Addr)} {outer : List Env} {A₀ : Around} {base h₀ : Heap} {L : Addr}
    {m : Str → Option Value} {news : Led} {s : Shared} {hs : Heap} {ks : Nat} {Q E : Value → Shared → Prop}
    (B : Below A₀ base outer h₀) (F : Fr h₀ L hs m) (X : (hd.heap_1 w.params).In h₀) (N : News h₀ L hs news) (T : Top vw lsw mean mg mb h₀) (hd : dp + cost < 400) (hu : un + 8 * cost < 5000) (pre : Pre news)
    (k : ∀ r news' h' tk', Fr h₀ L h' m → News h₀ L h' news' → Post r news news' → Q r { s with heap := h', toks := tk' }) :
    wpAny (model PySem.Challenge.rw_ke0002_02.row.prog w) (ktrTop dp un gd cn ⟨.function, nms, ig, ic, mo⟩ L a ccd cl outer) t Q E { s with heap := hs, toks := ks } :=
  S mean mg mb dp un gd cn nms ig ic mo a ccd cl outer A₀ base h₀ L m news { s with heap := hs, toks := ks } Q E B F X N T hd hu pre k
def All2 {α : Type} (R : Value → α → Prop) : List Value → List α → Prop
  | [], [] => True
  | v :: vs, a :: as => R v a ∧ All2 R vs as
  | _, _ => False
theorem All2.len {α : Type} {R : Value → α → Prop} : ∀ {vs : List Value} {as : List α}, All2 R vs as → vs.length = as.length
  | [], [], _ => rfl
  | _ :: _, _ :: _, h => congrArg (· + 1) (All2.len h.2)
theorem All2.imp {α : Type} {R S : Value → α → Prop} (f : ∀ v a, R v a → S v a) : ∀ {vs : List Value} {as : List α}, All2 R vs as → All2 S vs as
  | [], [], _ => trivial
  | _ :: _, _ :: _, h => ⟨f _ _ h.1, All2.imp f h.2⟩
theorem All2.get {α : Type} {R : Value → α → Prop} : ∀ {vs : List Value} {as : List α} {i : Nat} {v : Value}, All2 R vs as → vs[i]? = some v → ∃ a, as[i]? = some a ∧ R v a
  | _ :: _, _ :: _, 0, _, h, e => by cases e; exact ⟨_, rfl, h.1⟩
  | _ :: _, _ :: _, i + 1, _, h, e => by
    simp only [List.getElem?_cons_succ] at e ⊢
    exact All2.get h.2 e
theorem All2.append {α : Type} {R : Value → α → Prop} : ∀ {vs vs' : List Value} {as as' : List α}, All2 R vs as → All2 R vs' as' → All2 R (vs ++ vs') (as ++ as')
  | [], _, [], _, _, h => h
  | _ :: _, _, _ :: _, _, h, h' => ⟨h.1, All2.append h.2 h'⟩
theorem All2.take {α : Type} {R : Value → α → Prop} : ∀ {vs : List Value} {as : List α} (n : Nat), All2 R vs as → All2 R (vs.take n) (as.take n)
  | [], [], n, _ => by simp [All2]
  | _ :: _, _ :: _, 0, _ => trivial
  | _ :: _, _ :: _, n + 1, h => ⟨h.1, All2.take n h.2⟩
theorem All2.drop {α : Type} {R : Value → α → Prop} : ∀ {vs : List Value} {as : List α} (n : Nat), All2 R vs as → All2 R (vs.drop n) (as.drop n)
  | [], [], n, _ => by simp [All2]
  | _ :: _, _ :: _, 0, h => h
  | _ :: _, _ :: _, n + 1, h => All2.drop n h.2
def RecsAre (w : World) (x : Addr) (news : Led) : List Value → List (Int × Value) → Prop := All2 fun v kv => ∃ y, v = .ref y ∧ recIs w x y kv.1 kv.2 news
theorem recIs.keep {w : World} {x y : Addr} {k : Int} {v : Value} {news news' : Led} {a : Addr} {o o' : Obj} {h₀ h : Heap} {L : Addr} (N : News h₀ L h news) (hm : (a, o) ∈ news) (ho : o.cls = .type "list") (c : Chg a o' news news') (r : recIs w x y k v news) : recIs w x y k v news' := by
  refine recIs.elim r ?_
  intro dy u1 u2 u3 u4 u5 t l ov n h1 h2
  refine ⟨dy, u1, u2, u3, u4, u5, t, l, ov, n, c.2 _ h1 ?_, c.2 _ h2 ?_⟩
  · exact (news_ne N h1 hm fun e => by rw [← e] at ho; exact absurd ho (fun q => nomatch q))
  · exact (news_ne N h2 hm fun e => by rw [← e] at ho; exact absurd ho (show ¬Value.type "dict" = Value.type "list" by decide))
end Mine
end

section
open PySem PySem.W PyProof.Rows
/-- between two texts: the walk forgets the lines of the text before, as a fresh process has none -/
theorem Mine.calm56 : ∀ (prog : Program) (w : World) (A : Around) (env : Env) (E : Value → Shared → Prop) (s : Shared) (Q : Flow → Shared → Prop), Q .next s → wpAny (model prog w) A (execs [] env) Q E s := by
  w_top off
  intro prog w A env E s Q h
  walk1
  exact h
end

section
open PySem PySem.W PyProof.Rows PySem.Calls
set_option Elab.async false
set_option maxRecDepth 100000
set_option maxHeartbeats 4000000
namespace Mine
abbrev entCls : List Addr := [260, 301]
structure EntC (C : Addr) : Prop where
  is : OneOf entCls C
def LtAt (w : World) (C : Addr) (l r : Value) (b : Bool) (news : Led) : Prop :=
  ∃ a d od, l = .ref a ∧ (a, instObj C d) ∈ news ∧ (d, od) ∈ news ∧ ∃ Pre : Led → Prop, TreeSpec w (call (.ref 193) [l, r]) 4 Pre (fun r' _ tl => r' = .bool b ∧ tl = []) ∧ Pre news
def EqAt2 (w : World) (C : Addr) (l r : Value) (b : Bool) (news : Led) : Prop :=
  ∃ a d od a' d' od', l = .ref a ∧ (a, instObj C d) ∈ news ∧ (d, od) ∈ news ∧ r = .ref a' ∧ (a', instObj C d') ∈ news ∧ (d', od') ∈ news ∧ ∃ Pre : Led → Prop, TreeSpec w (call (.ref 186) [l, r]) 4 Pre (fun r' _ tl => r' = .bool b ∧ tl = []) ∧ Pre news
theorem cls_facts (w : World) : PySem.Challenge.rw_ke0002_02.row.prog = PySem.Challenge.rw_ke0002_02.row.prog →
    (findIn (hd.heap_1 w.params) (.ref 260) "__lt__" = some (some (.ref 193)) ∧ findIn (hd.heap_1 w.params) (.ref 301) "__lt__" = some (some (.ref 193))) ∧
    (findIn (hd.heap_1 w.params) (.ref 260) "__eq__" = some (some (.ref 186)) ∧ findIn (hd.heap_1 w.params) (.ref 301) "__eq__" = some (some (.ref 186))) ∧
    (notFirst (hd.heap_1 w.params) 260 (.ref 260) = true ∧ notFirst (hd.heap_1 w.params) 301 (.ref 301) = true) ∧
    isFn (hd.heap_1 w.params) (.ref 193) = true ∧ isFn (hd.heap_1 w.params) (.ref 186) = true := by
  k_fill
  intro _
  refine ⟨⟨?_, ?_⟩, ⟨?_, ?_⟩, ⟨?_, ?_⟩, ?_, ?_⟩ <;> k_is
section
variable {w : World} {dp un : Nat} {gd : Option (List Code)} {cn : Str} {nms : List (Str × NameKind)} {ig ic : Bool} {mo : List (Str × Const)} {a : Addr} {ccd : Value} {cl : List (Str × Addr)} {outer : List Env} {A₀ : Around} {base h₀ : Heap} {L : Addr}
    {m : Str → Option Value} {news : Led} {mean : ExcName → Option Value} {mg mb : Str → Option Value} {C : Addr} {l r : Value} {b : Bool}
theorem LtAt.type (H : LtAt w C l r b news) : ∀ h', News h₀ L h' news → Looks (model PySem.Challenge.rw_ke0002_02.row.prog w) h' (typeOf l) (.ref C) := by
  obtain ⟨y, d, od, rfl, h1, h2, -⟩ := H
  exact fun h' N => (InstAt.of_news N h1 h2).type
theorem LtAt.answers (B : Below A₀ base outer h₀) (X : (hd.heap_1 w.params).In h₀) (T : Top vw lsw mean mg mb h₀) (hdp : dp + 4 < 400) (hu : un + 8 * 4 < 5000) (hC : EntC C) (H : LtAt w C l r b news) :
    Answers PySem.Challenge.rw_ke0002_02.row.prog w (ktrTop dp un gd cn ⟨.function, nms, ig, ic, mo⟩ L a ccd cl outer) h₀ L m news l r b := by
  intro Q E s F N h
  obtain ⟨y, d, od, rfl, h1, h2, Pre, S, hp⟩ := H
  have hs : findIn (hd.heap_1 w.params) (.ref C) "__lt__" = some (some (.ref 193)) := OneOf.two (P := fun C => findIn (hd.heap_1 w.params) (.ref C) "__lt__" = some (some (.ref 193))) hC.is (cls_facts w rfl).1.1 (cls_facts w rfl).1.2
  refine ifBound_K (X.keeps F.keep) (InstAt.of_news N h1 h2) hs (cls_facts w rfl).2.2.2.1 ?_
  refine S.use B F X N T hdp hu hp ?_
  rintro r' tl h' tk' F' N' - ⟨rfl, rfl⟩
  exact h h' tk' F' N'
theorem EqAt2.answers (B : Below A₀ base outer h₀) (X : (hd.heap_1 w.params).In h₀) (T : Top vw lsw mean mg mb h₀) (hdp : dp + 4 < 400) (hu : un + 8 * 4 < 5000) (hC : EntC C) (hne : (l == r) = false) (H : EqAt2 w C l r b news) :
    EqAnswers PySem.Challenge.rw_ke0002_02.row.prog w (ktrTop dp un gd cn ⟨.function, nms, ig, ic, mo⟩ L a ccd cl outer) h₀ L m news l r b := by
  intro Q E s F N h
  obtain ⟨y, d, od, y', d', od', rfl, h1, h2, rfl, h3, h4, Pre, S, hp⟩ := H
  have hs : findIn (hd.heap_1 w.params) (.ref C) "__eq__" = some (some (.ref 186)) := OneOf.two (P := fun C => findIn (hd.heap_1 w.params) (.ref C) "__eq__" = some (some (.ref 186))) hC.is (cls_facts w rfl).2.1.1 (cls_facts w rfl).2.1.2
  have hn : notFirst (hd.heap_1 w.params) C (.ref C) = true := OneOf.two (P := fun C => notFirst (hd.heap_1 w.params) C (.ref C) = true) hC.is (cls_facts w rfl).2.2.1.1 (cls_facts w rfl).2.2.1.2
  unfold eqBool
  refine wpAny_holding ?_
  rw [if_neg (by rw [hne]; decide)]
  dsimp only
  refine wpAny_bind (cmp_K (by simp only [m_tu, PySem.cLine]; omega) F X (InstAt.of_news N h1 h2) (InstAt.of_news N h3 h4).type hn hs (cls_facts w rfl).2.2.2.2 ?_)
  refine S.use B F X N T hdp hu hp ?_
  rintro r' tl h' tk' F' N' - ⟨rfl, rfl⟩
  exact wpAny_truthy_bool (h h' tk' F' N')
end
theorem LtAt.ofRec {w : World} {x y z : Addr} {k j : Int} {v v' : Value} {b : Bool} {news : Led} (h1 : recIs w x y k v news) (h2 : recIs w x z j v' news) (hb : decide (k < j) = b) : LtAt w 260 (.ref y) (.ref z) b news := by
  obtain ⟨dy, u1, u2, u3, u4, u5, t, l, ov, n, q1, q2⟩ := id h1
  subst hb
  exact ⟨y, dy, _, rfl, q1, q2, _, lt_rec w x y z k j v v', h1, h2⟩
theorem LtAt.ofRef {w : World} {x y z : Addr} {k j : Int} {v v' a a' : Value} {b : Bool} {news : Led} (h1 : refIs w x y k v a news) (h2 : refIs w x z j v' a' news) (hb : decide (k < j) = b) : LtAt w 301 (.ref y) (.ref z) b news := by
  obtain ⟨dy, u1, u2, u3, u4, u5, t, l, n, q1, q2⟩ := id h1
  subst hb
  exact ⟨y, dy, _, rfl, q1, q2, _, lt_ref w x y z k j v a v' a', h1, h2⟩
theorem recIs.sub {w : World} {x y : Addr} {k : Int} {v : Value} {news news' : Led} (r : recIs w x y k v news) (h : ∀ q ∈ news, q ∈ news') : recIs w x y k v news' := by
  refine recIs.elim r ?_
  intro dy u1 u2 u3 u4 u5 t l ov n h1 h2
  exact ⟨dy, u1, u2, u3, u4, u5, t, l, ov, n, h _ h1, h _ h2⟩
theorem refIs.sub {w : World} {x y : Addr} {k : Int} {v a : Value} {news news' : Led} (r : refIs w x y k v a news) (h : ∀ q ∈ news, q ∈ news') : refIs w x y k v a news' := by
  refine refIs.elim r ?_
  intro dy u1 u2 u3 u4 u5 t l n h1 h2
  exact ⟨dy, u1, u2, u3, u4, u5, t, l, n, h _ h1, h _ h2⟩
end Mine
end

section
open PySem PySem.W PyProof.Rows
/-- between two texts: the walk forgets the lines of the text before, as a fresh process has none -/
theorem Mine.calm58 : ∀ (prog : Program) (w : World) (A : Around) (env : Env) (E : Value → Shared → Prop) (s : Shared) (Q : Flow → Shared → Prop), Q .next s → wpAny (model prog w) A (execs [] env) Q E s := by
  w_top off
  intro prog w A env E s Q h
  walk1
  exact h
end

section
open PySem PySem.W PyProof.Rows PySem.Calls
set_option Elab.async false
set_option maxRecDepth 100000
set_option maxHeartbeats 4000000
namespace Mine
--
local macro_rules | `(tactic| k_is) => `(tactic| (rename OneOf _ _ => q9; first | (clear q9; k_is) | ((first | with_reducible refine' OneOf.find4 q9 ?ma ?mb ?mc ?md | with_reducible refine' OneOf.over4 q9 ?ma ?mb ?mc ?md | with_reducible refine' OneOf.taker4 q9 ?ma ?mb ?mc ?md | with_reducible refine' OneOf.dict4 q9 ?ma ?mb ?mc ?md | with_reducible refine' OneOf.plain4 q9 ?ma ?mb ?mc ?md | with_reducible refine' OneOf.seq4 q9 ?ma ?mb ?mc ?md | with_reducible refine' OneOf.mro4 q9 ?ma ?mb ?mc ?md | with_reducible refine' OneOf.sub4 q9 ?ma ?mb ?mc ?md | with_reducible refine' OneOf.inst4 q9 ?ma ?mb ?mc ?md); (case ma => k_is); (case mb => k_is); (case mc => k_is); (case md => k_is)) | ((first | with_reducible refine' OneOf.find2 q9 ?ma ?mb | with_reducible refine' OneOf.over2 q9 ?ma ?mb | with_reducible refine' OneOf.taker2 q9 ?ma ?mb | with_reducible refine' OneOf.dict2 q9 ?ma ?mb | with_reducible refine' OneOf.plain2 q9 ?ma ?mb | with_reducible refine' OneOf.seq2 q9 ?ma ?mb | with_reducible refine' OneOf.mro2 q9 ?ma ?mb | with_reducible refine' OneOf.sub2 q9 ?ma ?mb | with_reducible refine' OneOf.inst2 q9 ?ma ?mb); (case ma => k_is); (case mb => k_is))))
/-- the code of a def's call, from any frame of the text's own -/
def KSpec (w : World) (f : Value) (args : Args) (cost : Nat) (Pre : Led → Prop) (Post : Value → Led → Led → Prop) : Prop :=
  ∀ (mean : ExcName → Option Value) (mg mb : Str → Option Value) (dp un : Nat) (gd : Option (List Code)) (cn : Str) (nms : List (Str × NameKind)) (ig ic : Bool) (mo : List (Str × Const)) (a : Addr) (ccd : Value) (cl : List (Str × Addr)) (outer : List Env) (A₀ : Around) (base h₀ : Heap) (L : Addr)
    (m : Str → Option Value) (news : Led) (s : Shared) (R : Result → Shared → Prop),
    Below A₀ base outer h₀ → Fr h₀ L s.heap m → (hd.heap_1 w.params).In h₀ → News h₀ L s.heap news → Top vw lsw mean mg mb h₀ → dp + cost < 400 → un + 8 * cost < 5000 → Pre news →
    (∀ r news' h' tk', Fr h₀ L h' m → News h₀ L h' news' → Post r news news' → R (.ok (.ret r)) { s with heap := h', toks := tk' }) →
    codeAny (model PySem.Challenge.rw_ke0002_02.row.prog w) (ktrTop dp un gd cn ⟨.function, nms, ig, ic, mo⟩ L a ccd cl outer) (.call f args) R s
theorem KSpec.use {w : World} {f : Value} {args : Args} {cost : Nat} {Pre : Led → Prop} {Post : Value → Led → Led → Prop} (S : KSpec w f args cost Pre Post)
    {mean : ExcName → Option Value} {mg mb : Str → Option Value} {dp un : Nat} {gd : Option (List Code)} {cn : Str} {nms : List (Str × NameKind)} {ig ic : Bool} {mo : List (Str × Const)} {a : Addr} {ccd : Value} {cl : List (Str × Addr)} {outer : List Env} {A₀ : Around} {base h₀ : Heap} {L : Addr}
    {m : Str → Option Value} {news : Led} {s : Shared} {R : Result → Shared → Prop}
    (B : Below A₀ base outer h₀) (F : Fr h₀ L s.heap m) (X : (hd.heap_1 w.params).In h₀) (N : News h₀ L s.heap news) (T : Top vw lsw mean mg mb h₀) (hd : dp + cost < 400) (hu : un + 8 * cost < 5000) (pre : Pre news)
    (k : ∀ r news' h' tk', Fr h₀ L h' m → News h₀ L h' news' → Post r news news' → R (.ok (.ret r)) { s with heap := h', toks := tk' }) :
    codeAny (model PySem.Challenge.rw_ke0002_02.row.prog w) (ktrTop dp un gd cn ⟨.function, nms, ig, ic, mo⟩ L a ccd cl outer) (.call f args) R s :=
  S mean mg mb dp un gd cn nms ig ic mo a ccd cl outer A₀ base h₀ L m news s R B F X N T hd hu pre k
theorem KSpec.mut {w : World} {f : Value} {vs : List Value} {kw : List (Str × Value)} {cost : Nat} {Pre : Led → Prop} {Post : Value → Led → Led → Prop} (S : KSpec w f ⟨vs, kw⟩ cost Pre Post) : MutSpec w (call f vs kw) cost Pre Post :=
  fun _ _ _ _ _ _ _ _ _ _ _ _ _ _ _ _ _ _ _ _ _ _ _ _ B F X N T hd hu pre k => wpAny_call (S.use B F X N T hd hu pre k)
theorem node_insertK (w : World) (C C2 y z le x : Addr) (nt mn mx : Value) (ec : Addr) (page par nx : Value) (vs : List Value) (n p : Nat) (hC : OneOf anyNode C) (hC2 : EntC C2) :
    KSpec w (.ref 394) ⟨[.ref y, .ref z], []⟩ 8
    (fun news => nodeIs w C y le x nt mn mx ec page par nx news ∧ (le, lst vs n) ∈ news ∧ vs.length < 1000 ∧ p ≤ vs.length ∧ (∃ dz od, (z, instObj C2 dz) ∈ news ∧ (dz, od) ∈ news) ∧ (∀ v ∈ vs, ∃ a d od, v = .ref a ∧ (a, instObj C2 d) ∈ news ∧ (d, od) ∈ news) ∧ ∀ i v, vs[i]? = some v → LtAt w C2 (.ref z) v (decide (p ≤ i)) news)
    (fun r news news' => r = .none ∧ Chg le (lst (vs.take p ++ .ref z :: vs.drop p) (n + 1)) news news') := by
  unfold KSpec
  k_fill
  intro mean mg mb dp un gd cn nms ig ic mo a ccd cl outer A₀ base h₀ L m news s R B F X N T hdp hun pre0 post
  obtain ⟨hnode, hle, hlen, hp, ⟨dz, oz, hz, hz'⟩, hvs, hlt⟩ := pre0
  refine nodeIs.elim hnode ?_
  intro dy u1 u2 u3 u4 u5 u6 u7 u8 u9 n9 hm hm'
  k_dflt (refine' code_own ?k1 ?k2 ?k3 ?k4 ?k5 ?kA ?kF ?kK ?k6 ?k7 ?k8 ?k9 ?kB ?_ ?c5 ?c2 ?c3 ?c4; (case kA => exact rfl); (case kF => exact rfl); (case kK => exact rfl); (case k2 => k_asm); (case k1 => k_asm); (case k3 => k_asm); (case k4 => k_asm); (case k5 => k_asm); (case k6 => k_is); (case k7 => k_is); (case k8 => k_room); (case k9 => first | exact binds_K (by k_in) rfl (by k_is) rfl rfl rfl | exact BindsTo.of_eq rfl); (case kB => exact locs rfl); (case c5 => decide); (case c2 => exact rfl); (case c3 => exact rfl); (case c4 => exact rfl); k_whole; intro g' L' h' FG' F' N' B' X' T' Qb hQ; (try dsimp only); (try k_lift B'); (try k_fold))
  refine letA ?_
  intro A1
  refine letE ?_
  intro e1
  k_steps
  refine bis_insort (p := p) (T := .ref C2) (n := n) (by assumption) (by assumption) (by k_units) hle hlen hp (by simp) ?hTx ?hTv ?ask ?_
  case hTx => exact fun h' N' => (InstAt.of_news N' hz hz').type
  case hTv =>
    intro h' v hv N'
    obtain ⟨a', d', od', rfl, q1, q2⟩ := hvs v hv
    exact (InstAt.of_news N' q1 q2).type
  case ask => exact fun i v hv => (hlt i v hv).answers (by assumption) (by assumption) (by assumption) (by first | exact room2 (by assumption) (by rfl) | exact room1 (by assumption) (by rfl) | exact room3 (by assumption) (by rfl) | exact room4 (by assumption) (by rfl) | (simp only [m_dd, m_kd, m_1d, m_md, m_td]; omega)) (by first | exact room2 (by assumption) (by rfl) | exact room1 (by assumption) (by rfl) | exact room3 (by assumption) (by rfl) | exact room4 (by assumption) (by rfl) | (simp only [m_du, m_ku, m_1u, m_mu, m_tu]; omega)) hC2
  intro h2 tk2 F2 N2
  k_steps
  refine hQ _ _ ?_
  k_steps
  all_goals exact post _ _ _ _ (by assumption) (by assumption) ⟨rfl, chg_rest⟩
theorem node_insert (w : World) (C C2 y z le x : Addr) (nt mn mx : Value) (ec : Addr) (page par nx : Value) (vs : List Value) (n p : Nat) (hC : OneOf anyNode C) (hC2 : EntC C2) :
    MutSpec w (call (.ref 394) [.ref y, .ref z]) 8
    (fun news => nodeIs w C y le x nt mn mx ec page par nx news ∧ (le, lst vs n) ∈ news ∧ vs.length < 1000 ∧ p ≤ vs.length ∧ (∃ dz od, (z, instObj C2 dz) ∈ news ∧ (dz, od) ∈ news) ∧ (∀ v ∈ vs, ∃ a d od, v = .ref a ∧ (a, instObj C2 d) ∈ news ∧ (d, od) ∈ news) ∧ ∀ i v, vs[i]? = some v → LtAt w C2 (.ref z) v (decide (p ≤ i)) news)
    (fun r news news' => r = .none ∧ Chg le (lst (vs.take p ++ .ref z :: vs.drop p) (n + 1)) news news') := (node_insertK w C C2 y z le x nt mn mx ec page par nx vs n p hC hC2).mut
end Mine
end

section
open PySem PySem.W PyProof.Rows
/-- between two texts: the walk forgets the lines of the text before, as a fresh process has none -/
theorem Mine.calm60 : ∀ (prog : Program) (w : World) (A : Around) (env : Env) (E : Value → Shared → Prop) (s : Shared) (Q : Flow → Shared → Prop), Q .next s → wpAny (model prog w) A (execs [] env) Q E s := by
  w_top off
  intro prog w A env E s Q h
  walk1
  exact h
end

section
open PySem PySem.W PyProof.Rows PySem.Calls
set_option Elab.async false
set_option maxRecDepth 100000
set_option maxHeartbeats 4000000
namespace Mine
--
local macro_rules | `(tactic| k_is) => `(tactic| (rename OneOf _ _ => q9; first | (clear q9; k_is) | ((first | with_reducible refine' OneOf.find4 q9 ?ma ?mb ?mc ?md | with_reducible refine' OneOf.over4 q9 ?ma ?mb ?mc ?md | with_reducible refine' OneOf.taker4 q9 ?ma ?mb ?mc ?md | with_reducible refine' OneOf.dict4 q9 ?ma ?mb ?mc ?md | with_reducible refine' OneOf.plain4 q9 ?ma ?mb ?mc ?md | with_reducible refine' OneOf.seq4 q9 ?ma ?mb ?mc ?md | with_reducible refine' OneOf.mro4 q9 ?ma ?mb ?mc ?md | with_reducible refine' OneOf.sub4 q9 ?ma ?mb ?mc ?md | with_reducible refine' OneOf.inst4 q9 ?ma ?mb ?mc ?md); (case ma => k_is); (case mb => k_is); (case mc => k_is); (case md => k_is)) | ((first | with_reducible refine' OneOf.find2 q9 ?ma ?mb | with_reducible refine' OneOf.over2 q9 ?ma ?mb | with_reducible refine' OneOf.taker2 q9 ?ma ?mb | with_reducible refine' OneOf.dict2 q9 ?ma ?mb | with_reducible refine' OneOf.plain2 q9 ?ma ?mb | with_reducible refine' OneOf.seq2 q9 ?ma ?mb | with_reducible refine' OneOf.mro2 q9 ?ma ?mb | with_reducible refine' OneOf.sub2 q9 ?ma ?mb | with_reducible refine' OneOf.inst2 q9 ?ma ?mb); (case ma => k_is); (case mb => k_is))))
theorem inst_rest {h₀ h : Heap} {L le y C dy : Addr} {vs : List Value} {n : Nat} {o : Obj} {news : Led} (N : News h₀ L h news) (hle : (le, lst vs n) ∈ news) (hm : (y, instObj C dy) ∈ news) : (y, instObj C dy) ∈ (le, o) :: rest le news :=
  .tail _ (mem_rest hm (news_ne N hm hle fun e => nomatch congrArg Obj.cls e))
theorem dict_rest {h₀ h : Heap} {L le dy : Addr} {vs : List Value} {n k : Nat} {es : List DictEntry} {o : Obj} {news : Led} (N : News h₀ L h news) (hle : (le, lst vs n) ∈ news) (hm : (dy, dictOf es k) ∈ news) : (dy, dictOf es k) ∈ (le, o) :: rest le news :=
  .tail _ (mem_rest hm (news_ne N hm hle fun e => absurd (congrArg Obj.cls e) (show ¬Value.type "dict" = Value.type "list" by decide)))
theorem node_append (w : World) (C y z le x : Addr) (nt mn mx : Value) (ec : Addr) (page par nx : Value) (vs : List Value) (n : Nat) (hC : OneOf recNode C) :
    MutSpec w (call (.ref 401) [.ref y, .ref z]) 8
    (fun news => nodeIs w C y le x nt mn mx ec page par nx news ∧ (le, lst vs n) ∈ news ∧ vs.length < 1000)
    (fun r news news' => r = .none ∧ Chg le (lst (vs ++ [.ref z]) (n + 1)) news news') := by
  unfold MutSpec
  k_fill
  intro mean mg mb dp un gd cn nms ig ic mo a ccd cl outer A₀ base h₀ L m news s Q E B F X N T hdp hun pre0 post
  obtain ⟨hnode, hle, hlen⟩ := pre0
  refine nodeIs.elim hnode ?_
  intro dy u1 u2 u3 u4 u5 u6 u7 u8 u9 n9 hm hm'
  replace hm := inst_rest (o := lst vs n) N hle hm
  replace hm' := dict_rest (o := lst vs n) N hle hm'
  replace N := news_rest N hle
  have hr : ∀ p ∈ rest le news, p.1 ≠ le := rest_ne
  clear hle
  have hle : (le, lst vs n) ∈ (le, lst vs n) :: rest le news := .head _
  refine wpAny_call ?_
  k_dflt (refine' code_own ?k1 ?k2 ?k3 ?k4 ?k5 ?kA ?kF ?kK ?k6 ?k7 ?k8 ?k9 ?kB ?_ ?c5 ?c2 ?c3 ?c4; (case kA => exact rfl); (case kF => exact rfl); (case kK => exact rfl); (case k2 => k_asm); (case k1 => k_asm); (case k3 => k_asm); (case k4 => k_asm); (case k5 => k_asm); (case k6 => k_is); (case k7 => k_is); (case k8 => k_room); (case k9 => first | exact binds_K (by k_in) rfl (by k_is) rfl rfl rfl | exact BindsTo.of_eq rfl); (case kB => exact locs rfl); (case c5 => decide); (case c2 => exact rfl); (case c3 => exact rfl); (case c4 => exact rfl); k_whole; intro g' L' h' FG' F' N' B' X' T' Qb hQ; (try dsimp only); (try k_lift B'); (try k_fold))
  refine letA ?_
  intro A1
  refine letE ?_
  intro e1
  k_steps
  have e : lst (vs ++ [.ref z]) (n + 1) = { cls := .type "list", data := .seq (vs.toArray.push (.ref z)) (n + 1) } := by simp
  refine hQ _ _ ?_
  k_steps
  rename Fr _ _ _ _ => kF
  rename News _ _ _ _ => kN
  exact post _ _ _ _ kF kN ⟨rfl, e ▸ chg_rest⟩
theorem node_pop (w : World) (C y v le x : Addr) (nt mn mx : Value) (ec : Addr) (page par nx : Value) (vs : List Value) (n : Nat) (hC : OneOf anyNode C) :
    MutSpec w (call (.ref 387) [.ref y]) 8
    (fun news => nodeIs w C y le x nt mn mx ec page par nx news ∧ (le, lst (.ref v :: vs) n) ∈ news ∧ (.ref v :: vs : List Value).length < 1000)
    (fun r news news' => r = .ref v ∧ Chg le (lst vs (n + 1)) news news') := by
  unfold MutSpec
  k_fill
  intro mean mg mb dp un gd cn nms ig ic mo a ccd cl outer A₀ base h₀ L m news s Q E B F X N T hdp hun pre0 post
  obtain ⟨hnode, hle, hlen⟩ := pre0
  refine nodeIs.elim hnode ?_
  intro dy u1 u2 u3 u4 u5 u6 u7 u8 u9 n9 hm hm'
  refine wpAny_call ?_
  k_dflt (refine' code_own ?k1 ?k2 ?k3 ?k4 ?k5 ?kA ?kF ?kK ?k6 ?k7 ?k8 ?k9 ?kB ?_ ?c5 ?c2 ?c3 ?c4; (case kA => exact rfl); (case kF => exact rfl); (case kK => exact rfl); (case k2 => k_asm); (case k1 => k_asm); (case k3 => k_asm); (case k4 => k_asm); (case k5 => k_asm); (case k6 => k_is); (case k7 => k_is); (case k8 => k_room); (case k9 => first | exact binds_K (by k_in) rfl (by k_is) rfl rfl rfl | exact BindsTo.of_eq rfl); (case kB => exact locs rfl); (case c5 => decide); (case c2 => exact rfl); (case c3 => exact rfl); (case c4 => exact rfl); k_whole; intro g' L' h' FG' F' N' B' X' T' Qb hQ; (try dsimp only); (try k_lift B'); (try k_fold))
  refine letA ?_
  intro A1
  refine letE ?_
  intro e1
  k_steps
  refine pop_at (pre := []) (by assumption) (by assumption) hle rfl (by simpa using hlen) ?_
  intro h2 F2 N2
  k_steps
  refine hQ _ _ ?_
  k_steps
  exact post _ _ _ _ (by assumption) (by assumption) ⟨rfl, chg_rest⟩
end Mine
end

section
open PySem PySem.W PyProof.Rows
/-- between two texts: the walk forgets the lines of the text before, as a fresh process has none -/
theorem Mine.calm62 : ∀ (prog : Program) (w : World) (A : Around) (env : Env) (E : Value → Shared → Prop) (s : Shared) (Q : Flow → Shared → Prop), Q .next s → wpAny (model prog w) A (execs [] env) Q E s := by
  w_top off
  intro prog w A env E s Q h
  walk1
  exact h
end

section
open PySem PySem.W PyProof.Rows PySem.Calls
set_option Elab.async false
set_option maxRecDepth 100000
set_option maxHeartbeats 4000000
namespace Mine
--
local macro_rules | `(tactic| walk_at "MINE spec") => `(tactic| ((case mB => k_asm); (case mF => k_asm); (case mX => k_asm); (case mN => k_asm); (case mT => k_asm); (case mhd => first | exact room2 (by assumption) (by rfl) | exact room1 (by assumption) (by rfl) | exact room3 (by assumption) (by rfl) | exact room4 (by assumption) (by rfl) | (simp only [m_dd, m_kd, m_1d, m_md, m_td]; omega)); (case mhu => first | exact room2 (by assumption) (by rfl) | exact room1 (by assumption) (by rfl) | exact room3 (by assumption) (by rfl) | exact room4 (by assumption) (by rfl) | (simp only [m_du, m_ku, m_1u, m_mu, m_tu]; omega))))
local macro_rules | `(tactic| walk_at "getAttr ref") => `(tactic| (k_here; k_dflt (first | ((with_reducible show wpAny _ _ (getAttr (Value.ref _) (PySem.Str.ofString "key_size") _) _ _ _); refine' TreeSpec.use (conf_key_size _ _ _ _) ?mB ?mF ?mX ?mN ?mT ?mhd ?mhu ?mp ?_) | ((with_reducible show wpAny _ _ (getAttr (Value.ref _) (PySem.Str.ofString "value_size") _) _ _ _); refine' TreeSpec.use (conf_value_size _ _ _ _) ?mB ?mF ?mX ?mN ?mT ?mhd ?mhu ?mp ?_) | ((with_reducible show wpAny _ _ (getAttr (Value.ref _) (PySem.Str.ofString "serializer") _) _ _ _); refine' TreeSpec.use (conf_serializer _ _ _ _) ?mB ?mF ?mX ?mN ?mT ?mhd ?mhu ?mp ?_) | ((with_reducible show wpAny _ _ (getAttr (Value.ref _) (PySem.Str.ofString "order") _) _ _ _); refine' TreeSpec.use (conf_order _ _ _ _) ?mB ?mF ?mX ?mN ?mT ?mhd ?mhu ?mp ?_) | ((with_reducible show wpAny _ _ (getAttr (Value.ref _) (PySem.Str.ofString "page_size") _) _ _ _); refine' TreeSpec.use (conf_page_size _ _ _ _) ?mB ?mF ?mX ?mN ?mT ?mhd ?mhu ?mp ?_)); (walk_at "MINE spec"); (case mp => exact ⟨_, by k_mem, by k_mem⟩); intro r' tl' h' tk' F' N' _ hp'; obtain ⟨e1', e2'⟩ := hp'; subst e1' e2'; (replace N' := news_sub N' sub_nil0); (try dsimp only); (try k_sweep)))
local macro_rules | `(tactic| k_enter) => `(tactic| refine' Held.out ?_)
theorem rec_make_k (w : World) (x : Addr) (c : Cf) (k : Int) (t : Tok) : TreeSpec w (call (.ref 260) [.ref x] [("key", .int k t)]) 12
    (fun news => confIs x c.vals news)
    (fun r _ tl => ∃ y dy u1 u2 u3 u4 u5 l n, r = .ref y ∧ tl = [(y, instObj 260 dy), (dy, recDict w u1 u2 u3 u4 u5 x (.int k t) .none (.int (2 + c.ks + 2 + c.vz + 4) l) .none n)]) := by
  unfold TreeSpec
  k_fill
  intro mean mg mb dp un gd cn nms ig ic mo a ccd cl outer A₀ base h₀ L m news s Q E B F X N T hdp hun pre0 post
  obtain ⟨dc, hm, hm'⟩ := pre0
  k_steps
  refine ⟨?_⟩
  k_dflt (refine' code_own ?k1 ?k2 ?k3 ?k4 ?k5 ?kA ?kF ?kK ?k6 ?k7 ?k8 ?k9 ?kB ?_ ?c5 ?c2 ?c3 ?c4; (case kA => exact rfl); (case kF => exact rfl); (case kK => exact rfl); (case k2 => k_asm); (case k1 => k_asm); (case k3 => k_asm); (case k4 => k_asm); (case k5 => k_asm); (case k6 => k_is); (case k7 => k_is); (case k8 => k_room); (case k9 => first | exact binds_K (by k_in) rfl (by k_is) rfl rfl rfl | exact BindsTo.of_eq rfl); (case kB => exact locs rfl); (case c5 => decide); (case c2 => exact rfl); (case c3 => exact rfl); (case c4 => exact rfl); k_whole; intro g' L' h' FG' F' N' B' X' T' Qb hQ; (try dsimp only); (try k_lift B'); (try k_fold))
  refine letA ?_
  intro A1
  refine letE ?_
  intro e1
  k_steps
  all_goals (refine hQ _ _ ?_; k_steps)
  all_goals walk_at "MINE made"
end Mine
end

section
open PySem PySem.W PyProof.Rows
/-- between two texts: the walk forgets the lines of the text before, as a fresh process has none -/
theorem Mine.calm64 : ∀ (prog : Program) (w : World) (A : Around) (env : Env) (E : Value → Shared → Prop) (s : Shared) (Q : Flow → Shared → Prop), Q .next s → wpAny (model prog w) A (execs [] env) Q E s := by
  w_top off
  intro prog w A env E s Q h
  walk1
  exact h
end

section
open PySem PySem.W PyProof.Rows PySem.Calls
set_option Elab.async false
set_option maxRecDepth 100000
set_option maxHeartbeats 4000000
namespace Mine
--
local macro_rules | `(tactic| k_is) => `(tactic| (rename OneOf _ _ => q9; first | (clear q9; k_is) | ((first | with_reducible refine' OneOf.find4 q9 ?ma ?mb ?mc ?md | with_reducible refine' OneOf.over4 q9 ?ma ?mb ?mc ?md | with_reducible refine' OneOf.taker4 q9 ?ma ?mb ?mc ?md | with_reducible refine' OneOf.dict4 q9 ?ma ?mb ?mc ?md | with_reducible refine' OneOf.plain4 q9 ?ma ?mb ?mc ?md | with_reducible refine' OneOf.seq4 q9 ?ma ?mb ?mc ?md | with_reducible refine' OneOf.mro4 q9 ?ma ?mb ?mc ?md | with_reducible refine' OneOf.sub4 q9 ?ma ?mb ?mc ?md | with_reducible refine' OneOf.inst4 q9 ?ma ?mb ?mc ?md); (case ma => k_is); (case mb => k_is); (case mc => k_is); (case md => k_is)) | ((first | with_reducible refine' OneOf.find2 q9 ?ma ?mb | with_reducible refine' OneOf.over2 q9 ?ma ?mb | with_reducible refine' OneOf.taker2 q9 ?ma ?mb | with_reducible refine' OneOf.dict2 q9 ?ma ?mb | with_reducible refine' OneOf.plain2 q9 ?ma ?mb | with_reducible refine' OneOf.seq2 q9 ?ma ?mb | with_reducible refine' OneOf.mro2 q9 ?ma ?mb | with_reducible refine' OneOf.sub2 q9 ?ma ?mb | with_reducible refine' OneOf.inst2 q9 ?ma ?mb); (case ma => k_is); (case mb => k_is))))
local macro_rules | `(tactic| walk_at "call ref") => `(tactic| refine' Held.out ?_)
local macro_rules | `(tactic| walk_at "getMethod ref") => `(tactic| ((with_reducible rename HoldM => hM); refine' Held.out ?_))
local macro_rules
  | `(tactic| walk_at "subscriptTail") => `(tactic| refine' Held.out ?_)
  | `(tactic| walk_at "subscriptTail Name Slice ref ref") => `(tactic| refine' Held.out ?_)
  | `(tactic| walk_at "call builtin:len") => `(tactic| refine' Held.out ?_)
  | `(tactic| walk_at "subscriptTail Attribute") => `(tactic| k_dflt (refine kba_turn (value' := PySem.Expr.Name (PySem.Str.ofString "_") ⟨0, 0, 0, 0⟩) (fun _ => rfl) ?_))
theorem find_there (w : World) (C y le x : Addr) (c : Cf) (nt mn mx : Value) (page par nx : Value) (vs : List Value) (rs : List (Int × Value)) (n p : Nat) (k : Int) (t : Tok) (hC : OneOf recNode C) :
    TreeSpec w (call (.ref 422) [.ref y, .int k t]) 20
    (fun news => nodeIs w C y le x nt mn mx 260 page par nx news ∧ (le, lst vs n) ∈ news ∧ confIs x c.vals news ∧ vs.length < 1000 ∧ RecsAre w x news vs rs ∧ (∀ i r, rs[i]? = some r → (r.1 < k ↔ i < p)) ∧ (∃ r, rs[p]? = some r ∧ r.1 = k))
    (fun r news tl => ∃ t', r = .int p t') := by
  unfold TreeSpec
  k_fill
  intro mean mg mb dp un gd cn nms ig ic mo a ccd cl outer A₀ base h₀ L m news s Q E B F X N T hdp hun pre0 post
  obtain ⟨hnode, hle, ⟨dc, hc, hc'⟩, hlen, hrs, hlt, ⟨r, hr, hrk⟩⟩ := pre0
  refine nodeIs.elim hnode ?_
  intro dy u1 u2 u3 u4 u5 u6 u7 u8 u9 n9 hm hm'
  refine wpAny_call ?_
  k_dflt (refine' code_own ?k1 ?k2 ?k3 ?k4 ?k5 ?kA ?kF ?kK ?k6 ?k7 ?k8 ?k9 ?kB ?_ ?c5 ?c2 ?c3 ?c4; (case kA => exact rfl); (case kF => exact rfl); (case kK => exact rfl); (case k2 => k_asm); (case k1 => k_asm); (case k3 => k_asm); (case k4 => k_asm); (case k5 => k_asm); (case k6 => k_is); (case k7 => k_is); (case k8 => k_room); (case k9 => first | exact binds_K (by k_in) rfl (by k_is) rfl rfl rfl | exact BindsTo.of_eq rfl); (case kB => exact locs rfl); (case c5 => decide); (case c2 => exact rfl); (case c3 => exact rfl); (case c4 => exact rfl); k_whole; intro g' L' h' FG' F' N' B' X' T' Qb hQ; (try dsimp only); (try k_lift B'); (try k_fold))
  refine letA ?_
  intro A1
  refine letE ?_
  intro e1
  have hM : HoldM := ⟨⟩
  k_steps
  refine ⟨?_⟩
  with_reducible rename HoldM => hM
  clear hM
  refine' method_val ?k1 ?k2 ?k3 ?k4 ?k5 ?_
  case k1 => k_asm
  case k2 => k_asm
  case k3 => k_inst
  case k4 => k_is
  case k5 => k_is
  k_steps
  refine ⟨?_⟩
  refine' TreeSpec.use (rec_make_k w x c k t) ?mB ?mF ?mX ?mN ?mT ?mhd ?mhu ?mp ?_
  case mB => k_asm
  case mF => k_asm
  case mX => k_asm
  case mN => k_asm
  case mT => k_asm
  case mhd => first | exact room2 (by assumption) (by rfl) | exact room1 (by assumption) (by rfl) | exact room3 (by assumption) (by rfl) | (simp only [m_dd, m_kd, m_1d, m_md, m_td]; omega)
  case mhu => first | exact room2 (by assumption) (by rfl) | exact room1 (by assumption) (by rfl) | exact room3 (by assumption) (by rfl) | exact room4 (by assumption) (by rfl) | (simp only [m_du, m_ku, m_1u, m_mu, m_tu]; omega)
  case mp => exact ⟨_, hc, hc'⟩
  intro r1 tl h1 tk1 F1 N1 ap1 hp1
  obtain ⟨z, dz, v1, v2, v3, v4, v5, lz, nz, e1, e2⟩ := hp1
  subst e1 e2
  k_steps
  have hpl : p < vs.length := by
    rw [hrs.len]
    obtain ⟨h, -⟩ := List.getElem?_eq_some_iff.mp hr
    exact h
  have hz : recIs w x z k .none ([(z, instObj 260 dz), (dz, recDict w v1 v2 v3 v4 v5 x (.int k t) .none (.int (2 + c.ks + 2 + c.vz + 4) lz) .none nz)] ++ news) := ⟨dz, v1, v2, v3, v4, v5, t, _, _, nz, .head _, .tail _ (.head _)⟩
  refine bis_left (p := p) (T := .ref 260) (n := n) (by assumption) (by assumption) (by k_units) (List.mem_append_right _ hle) hlen (Nat.le_of_lt hpl) (by simp) ?hTx ?hTv ?ask ?_
  case hTx => exact fun h' N' => (InstAt.of_news N' (.head _) (.tail _ (.head _))).type
  case hTv =>
    intro h' v hv N'
    obtain ⟨i, hi⟩ := List.mem_iff_getElem?.mp hv
    obtain ⟨r', -, y', rfl, q⟩ := hrs.get hi
    obtain ⟨dy', u1, u2, u3, u4, u5, t, l, ov, n, q1, q2⟩ := q
    exact (InstAt.of_news N' (List.mem_append_right _ q1) (List.mem_append_right _ q2)).type
  case ask =>
    intro i v hv
    obtain ⟨r', hr', y', rfl, q⟩ := hrs.get hv
    refine LtAt.answers (by assumption) (by assumption) (by assumption) (by first | exact room2 (by assumption) (by rfl) | exact room1 (by assumption) (by rfl) | exact room3 (by assumption) (by rfl) | exact room4 (by assumption) (by rfl) | (simp only [m_dd, m_kd, m_1d, m_md, m_td]; omega)) (by first | exact room2 (by assumption) (by rfl) | exact room1 (by assumption) (by rfl) | exact room3 (by assumption) (by rfl) | exact room4 (by assumption) (by rfl) | (simp only [m_du, m_ku, m_1u, m_mu, m_tu]; omega)) ⟨.head _⟩ (.ofRec (q.sub fun _ h => List.mem_append_right _ h) hz ?_)
    exact decide_eq_decide.mpr (hlt i r' hr')
  intro h2 tk2 t2 F2 N2
  k_steps
  rename News _ _ _ _ => F2'
  refine ⟨?_⟩
  refine call_len_list (items := vs.toArray) (PySem.IsL.isList (n := n) (F2' _ (List.mem_append_right _ hle)).1) (by simp; omega) ?_
  rw [List.size_toArray]
  obtain ⟨y2, hy2, hrec2⟩ : ∃ y2, vs[p]? = some (.ref y2) ∧ recIs w x y2 k r.2 news := by
    obtain ⟨v, hv⟩ : ∃ v, vs[p]? = some v := ⟨vs[p], by simp⟩
    obtain ⟨r', hr', y', e, q⟩ := hrs.get hv
    rw [hr] at hr'
    cases hr'
    exact ⟨y', e ▸ hv, hrk ▸ q⟩
  obtain ⟨d2, w1, w2, w3, w4, w5, tt2, l2, ov2, n2, q1, q2⟩ := id hrec2
  k_steps
  rename News _ _ _ _ => F3'
  refine ⟨?_⟩
  refine item_at (n := n) F3' (List.mem_append_right _ hle) hy2 hlen ?_
  k_steps
  refine ⟨?_⟩
  refine' TreeSpec.use (eq_rec w x y2 z k k r.2 .none) ?mB ?mF ?mX ?mN ?mT ?mhd ?mhu ?mp ?_
  case mB => k_asm
  case mF => k_asm
  case mX => k_asm
  case mN => k_asm
  case mT => k_asm
  case mhd => first | exact room2 (by assumption) (by rfl) | exact room1 (by assumption) (by rfl) | exact room3 (by assumption) (by rfl) | (simp only [m_dd, m_kd, m_1d, m_md, m_td]; omega)
  case mhu => first | exact room2 (by assumption) (by rfl) | exact room1 (by assumption) (by rfl) | exact room3 (by assumption) (by rfl) | exact room4 (by assumption) (by rfl) | (simp only [m_du, m_ku, m_1u, m_mu, m_tu]; omega)
  case mp => exact ⟨hrec2.sub fun _ h => List.mem_append_right _ h, hz⟩
  intro r5 tl5 h5 tk5 F5 N5 ap5 hp5
  obtain ⟨e1, e2⟩ := hp5
  subst e1 e2
  rw [decide_eq_true rfl]
  show wpAny _ _ _ _ _ _
  k_steps
  refine hQ _ _ ?_
  k_steps
  exact post _ _ _ _ (by assumption) (by assumption) ap1 ⟨_, rfl⟩
end Mine
end

section
open PySem PySem.W PyProof.Rows
/-- between two texts: the walk forgets the lines of the text before, as a fresh process has none -/
theorem Mine.calm66 : ∀ (prog : Program) (w : World) (A : Around) (env : Env) (E : Value → Shared → Prop) (s : Shared) (Q : Flow → Shared → Prop), Q .next s → wpAny (model prog w) A (execs [] env) Q E s := by
  w_top off
  intro prog w A env E s Q h
  walk1
  exact h
end

section
open PySem PySem.W PyProof.Rows PySem.Calls
set_option Elab.async false
set_option linter.unusedSimpArgs false
set_option maxRecDepth 100000
set_option maxHeartbeats 4000000
namespace Mine
--
local macro_rules | `(tactic| k_is) => `(tactic| (rename OneOf _ _ => q9; first | (clear q9; k_is) | ((first | with_reducible refine' OneOf.find4 q9 ?ma ?mb ?mc ?md | with_reducible refine' OneOf.over4 q9 ?ma ?mb ?mc ?md | with_reducible refine' OneOf.taker4 q9 ?ma ?mb ?mc ?md | with_reducible refine' OneOf.dict4 q9 ?ma ?mb ?mc ?md | with_reducible refine' OneOf.plain4 q9 ?ma ?mb ?mc ?md | with_reducible refine' OneOf.seq4 q9 ?ma ?mb ?mc ?md | with_reducible refine' OneOf.mro4 q9 ?ma ?mb ?mc ?md | with_reducible refine' OneOf.sub4 q9 ?ma ?mb ?mc ?md | with_reducible refine' OneOf.inst4 q9 ?ma ?mb ?mc ?md); (case ma => k_is); (case mb => k_is); (case mc => k_is); (case md => k_is)) | ((first | with_reducible refine' OneOf.find2 q9 ?ma ?mb | with_reducible refine' OneOf.over2 q9 ?ma ?mb | with_reducible refine' OneOf.taker2 q9 ?ma ?mb | with_reducible refine' OneOf.dict2 q9 ?ma ?mb | with_reducible refine' OneOf.plain2 q9 ?ma ?mb | with_reducible refine' OneOf.seq2 q9 ?ma ?mb | with_reducible refine' OneOf.mro2 q9 ?ma ?mb | with_reducible refine' OneOf.sub2 q9 ?ma ?mb | with_reducible refine' OneOf.inst2 q9 ?ma ?mb); (case ma => k_is); (case mb => k_is))))
local macro_rules | `(tactic| walk_at "call ref") => `(tactic| refine' Held.out ?_)
local macro_rules
  | `(tactic| walk_at "subscriptTail") => `(tactic| refine' Held.out ?_)
  | `(tactic| walk_at "subscriptTail Name Slice ref ref") => `(tactic| refine' Held.out ?_)
  | `(tactic| walk_at "call builtin:len") => `(tactic| refine' Held.out ?_)
  | `(tactic| walk_at "subscriptTail Attribute") => `(tactic| k_dflt (refine kba_turn (value' := PySem.Expr.Name (PySem.Str.ofString "_") ⟨0, 0, 0, 0⟩) (fun _ => rfl) ?_))
/-- what stands when a key is asked for that is there, at place p -/
def AtKey (w : World) (C y le x : Addr) (c : Cf) (nt mn mx page par nx : Value) (vs : List Value) (rs : List (Int × Value)) (n p : Nat) (k : Int) (news : Led) : Prop :=
  nodeIs w C y le x nt mn mx 260 page par nx news ∧ (le, lst vs n) ∈ news ∧ confIs x c.vals news ∧ vs.length < 1000 ∧ RecsAre w x news vs rs ∧ (∀ i r, rs[i]? = some r → (r.1 < k ↔ i < p)) ∧ (∃ r, rs[p]? = some r ∧ r.1 = k)
theorem get_there (w : World) (C y le x v : Addr) (c : Cf) (nt mn mx : Value) (page par nx : Value) (vs : List Value) (rs : List (Int × Value)) (n p : Nat) (k : Int) (t : Tok) (hC : OneOf recNode C) (hv : vs[p]? = some (.ref v)) :
    TreeSpec w (call (.ref 415) [.ref y, .int k t]) 26
    (AtKey w C y le x c nt mn mx page par nx vs rs n p k)
    (fun r news tl => r = .ref v) := by
  unfold TreeSpec
  k_fill
  intro mean mg mb dp un gd cn nms ig ic mo a ccd cl outer A₀ base h₀ L m news s Q E B F X N T hdp hun pre post
  obtain ⟨hnode, hle, hc, hlen, hrs, hlt, hr⟩ := id pre
  refine nodeIs.elim hnode ?_
  intro dy u1 u2 u3 u4 u5 u6 u7 u8 u9 n9 hm hm'
  refine wpAny_call ?_
  k_dflt (refine' code_own ?k1 ?k2 ?k3 ?k4 ?k5 ?kA ?kF ?kK ?k6 ?k7 ?k8 ?k9 ?kB ?_ ?c5 ?c2 ?c3 ?c4; (case kA => exact rfl); (case kF => exact rfl); (case kK => exact rfl); (case k2 => k_asm); (case k1 => k_asm); (case k3 => k_asm); (case k4 => k_asm); (case k5 => k_asm); (case k6 => k_is); (case k7 => k_is); (case k8 => k_room); (case k9 => first | exact binds_K (by k_in) rfl (by k_is) rfl rfl rfl | exact BindsTo.of_eq rfl); (case kB => exact locs rfl); (case c5 => decide); (case c2 => exact rfl); (case c3 => exact rfl); (case c4 => exact rfl); k_whole; intro g' L' h' FG' F' N' B' X' T' Qb hQ; (try dsimp only); (try k_lift B'); (try k_fold))
  refine letA ?_
  intro A1
  refine letE ?_
  intro e1
  k_steps
  refine ⟨?_⟩
  refine' TreeSpec.use (find_there w C y le x c nt mn mx page par nx vs rs n p k t hC) ?mB ?mF ?mX ?mN ?mT ?mhd ?mhu ?mp ?_
  case mB => k_asm
  case mF => k_asm
  case mX => k_asm
  case mN => k_asm
  case mT => k_asm
  case mhd => first | exact room2 (by assumption) (by rfl) | exact room1 (by assumption) (by rfl) | exact room3 (by assumption) (by rfl) | exact room4 (by assumption) (by rfl) | (simp only [m_dd, m_kd, m_1d, m_md, m_td]; omega) | decide
  case mhu => first | exact room2 (by assumption) (by rfl) | exact room1 (by assumption) (by rfl) | exact room3 (by assumption) (by rfl) | exact room4 (by assumption) (by rfl) | (simp only [m_du, m_ku, m_1u, m_mu, m_tu]; omega) | decide
  case mp => exact pre
  intro r1 tl h1 tk1 F1 N1 ap1 hp1
  obtain ⟨t1, e1⟩ := hp1
  subst e1
  k_steps
  refine ⟨?_⟩
  refine item_at (n := n) N1 (List.mem_append_right _ hle) hv hlen ?_
  k_steps
  refine hQ _ _ ?_
  k_steps
  exact post _ _ _ _ (by assumption) (by assumption) ap1 rfl
theorem remove_there (w : World) (C y le x : Addr) (c : Cf) (nt mn mx : Value) (page par nx : Value) (vs : List Value) (rs : List (Int × Value)) (n p : Nat) (k : Int) (t : Tok) (hC : OneOf recNode C) :
    MutSpec w (call (.ref 408) [.ref y, .int k t]) 26
    (AtKey w C y le x c nt mn mx page par nx vs rs n p k)
    (fun r news news' => r = .none ∧ Chg le (lst (vs.take p ++ vs.drop (p + 1)) (n + 1)) news news') := by
  unfold MutSpec
  k_fill
  intro mean mg mb dp un gd cn nms ig ic mo a ccd cl outer A₀ base h₀ L m news s Q E B F X N T hdp hun pre post
  obtain ⟨hnode, hle, hc, hlen, hrs, hlt, hr⟩ := id pre
  refine nodeIs.elim hnode ?_
  intro dy u1 u2 u3 u4 u5 u6 u7 u8 u9 n9 hm hm'
  refine wpAny_call ?_
  k_dflt (refine' code_own ?k1 ?k2 ?k3 ?k4 ?k5 ?kA ?kF ?kK ?k6 ?k7 ?k8 ?k9 ?kB ?_ ?c5 ?c2 ?c3 ?c4; (case kA => exact rfl); (case kF => exact rfl); (case kK => exact rfl); (case k2 => k_asm); (case k1 => k_asm); (case k3 => k_asm); (case k4 => k_asm); (case k5 => k_asm); (case k6 => k_is); (case k7 => k_is); (case k8 => k_room); (case k9 => first | exact binds_K (by k_in) rfl (by k_is) rfl rfl rfl | exact BindsTo.of_eq rfl); (case kB => exact locs rfl); (case c5 => decide); (case c2 => exact rfl); (case c3 => exact rfl); (case c4 => exact rfl); k_whole; intro g' L' h' FG' F' N' B' X' T' Qb hQ; (try dsimp only); (try k_lift B'); (try k_fold))
  refine letA ?_
  intro A1
  refine letE ?_
  intro e1
  k_steps
  refine ⟨?_⟩
  refine' TreeSpec.use (find_there w C y le x c nt mn mx page par nx vs rs n p k t hC) ?mB ?mF ?mX ?mN ?mT ?mhd ?mhu ?mp ?_
  case mB => k_asm
  case mF => k_asm
  case mX => k_asm
  case mN => k_asm
  case mT => k_asm
  case mhd => first | exact room2 (by assumption) (by rfl) | exact room1 (by assumption) (by rfl) | exact room3 (by assumption) (by rfl) | exact room4 (by assumption) (by rfl) | (simp only [m_dd, m_kd, m_1d, m_md, m_td]; omega) | decide
  case mhu => first | exact room2 (by assumption) (by rfl) | exact room1 (by assumption) (by rfl) | exact room3 (by assumption) (by rfl) | exact room4 (by assumption) (by rfl) | (simp only [m_du, m_ku, m_1u, m_mu, m_tu]; omega) | decide
  case mp => exact pre
  intro r1 tl h1 tk1 F1 N1 ap1 hp1
  obtain ⟨t1, e1⟩ := hp1
  subst e1
  k_steps
  have hpl : p < vs.length := by
    rw [hrs.len]
    obtain ⟨r, hr, -⟩ := hr
    exact (List.getElem?_eq_some_iff.mp hr).1
  have ev : vs.take p ++ vs[p] :: vs.drop (p + 1) = vs := by
    rw [← List.drop_eq_getElem_cons hpl, List.take_append_drop]
  refine pop_at (pre := vs.take p) (q := vs.drop (p + 1)) (y := vs[p]) F1 N1 (n := n) (by rw [ev]; exact List.mem_append_right _ hle) (by rw [List.length_take]; omega) (by rw [ev]; exact hlen) ?_
  intro h2 F2 N2
  k_steps
  refine hQ _ _ ?_
  k_steps
  exact post _ _ _ _ (by assumption) (by assumption) ⟨rfl, .head _, fun _ hq n => .tail _ (mem_rest (List.mem_append_right _ hq) n)⟩
end Mine
end

section
open PySem PySem.W PyProof.Rows
/-- between two texts: the walk forgets the lines of the text before, as a fresh process has none -/
theorem Mine.calm68 : ∀ (prog : Program) (w : World) (A : Around) (env : Env) (E : Value → Shared → Prop) (s : Shared) (Q : Flow → Shared → Prop), Q .next s → wpAny (model prog w) A (execs [] env) Q E s := by
  w_top off
  intro prog w A env E s Q h
  walk1
  exact h
end

section
open PySem PySem.W PyProof.Rows PySem.Calls
set_option Elab.async false
set_option linter.unusedSimpArgs false
set_option maxRecDepth 100000
set_option maxHeartbeats 4000000
namespace Mine
--
local macro_rules | `(tactic| k_is) => `(tactic| (rename OneOf _ _ => q9; first | (clear q9; k_is) | ((first | with_reducible refine' OneOf.find4 q9 ?ma ?mb ?mc ?md | with_reducible refine' OneOf.over4 q9 ?ma ?mb ?mc ?md | with_reducible refine' OneOf.taker4 q9 ?ma ?mb ?mc ?md | with_reducible refine' OneOf.dict4 q9 ?ma ?mb ?mc ?md | with_reducible refine' OneOf.plain4 q9 ?ma ?mb ?mc ?md | with_reducible refine' OneOf.seq4 q9 ?ma ?mb ?mc ?md | with_reducible refine' OneOf.mro4 q9 ?ma ?mb ?mc ?md | with_reducible refine' OneOf.sub4 q9 ?ma ?mb ?mc ?md | with_reducible refine' OneOf.inst4 q9 ?ma ?mb ?mc ?md); (case ma => k_is); (case mb => k_is); (case mc => k_is); (case md => k_is)) | ((first | with_reducible refine' OneOf.find2 q9 ?ma ?mb | with_reducible refine' OneOf.over2 q9 ?ma ?mb | with_reducible refine' OneOf.taker2 q9 ?ma ?mb | with_reducible refine' OneOf.dict2 q9 ?ma ?mb | with_reducible refine' OneOf.plain2 q9 ?ma ?mb | with_reducible refine' OneOf.seq2 q9 ?ma ?mb | with_reducible refine' OneOf.mro2 q9 ?ma ?mb | with_reducible refine' OneOf.sub2 q9 ?ma ?mb | with_reducible refine' OneOf.inst2 q9 ?ma ?mb); (case ma => k_is); (case mb => k_is))))
local macro_rules | `(tactic| walk_at "call ref") => `(tactic| refine' Held.out ?_)
local macro_rules | `(tactic| walk_at "getMethod ref") => `(tactic| ((with_reducible rename HoldM => hM); refine' Held.out ?_))
local macro_rules
  | `(tactic| walk_at "subscriptTail") => `(tactic| refine' Held.out ?_)
  | `(tactic| walk_at "subscriptTail Name Slice ref ref") => `(tactic| refine' Held.out ?_)
  | `(tactic| walk_at "call builtin:len") => `(tactic| refine' Held.out ?_)
  | `(tactic| walk_at "subscriptTail Attribute") => `(tactic| k_dflt (refine kba_turn (value' := PySem.Expr.Name (PySem.Str.ofString "_") ⟨0, 0, 0, 0⟩) (fun _ => rfl) ?_))
/-- the tree t, at any frame of the text's own, raises a ValueError -/
def RaiseSpec (w : World) (t : Sem Value) (cost : Nat) (Pre : Led → Prop) : Prop :=
  ∀ (mean : ExcName → Option Value) (mg mb : Str → Option Value) (dp un : Nat) (gd : Option (List Code)) (cn : Str) (nms : List (Str × NameKind)) (ig ic : Bool) (mo : List (Str × Const)) (a : Addr) (ccd : Value) (cl : List (Str × Addr)) (outer : List Env) (A₀ : Around) (base h₀ : Heap) (L : Addr)
    (m : Str → Option Value) (news : Led) (s : Shared) (Q E : Value → Shared → Prop),
    Below A₀ base outer h₀ → Fr h₀ L s.heap m → (hd.heap_1 w.params).In h₀ → News h₀ L s.heap news → Top vw lsw mean mg mb h₀ → dp + cost < 400 → un + 8 * cost < 5000 → Pre news →
    (∀ g e tt vs led h' tk', Fr h₀ L g m → RaisedS base g (envX cn ⟨.function, nms, ig, ic, mo⟩ L a ccd cl :: outer) e (.type "ValueError") tt vs led h' → g.UpToSlots h' → (∀ q ∈ news, q ∈ led) → E (.ref e) { s with heap := h', toks := tk' }) →
    wpAny (model PySem.Challenge.rw_ke0002_02.row.prog w) (ktrTop dp un gd cn ⟨.function, nms, ig, ic, mo⟩ L a ccd cl outer) t Q E s
def NoKey (w : World) (C y le x : Addr) (c : Cf) (nt mn mx page par nx : Value) (vs : List Value) (rs : List (Int × Value)) (n p : Nat) (k : Int) (news : Led) : Prop :=
  nodeIs w C y le x nt mn mx 260 page par nx news ∧ (le, lst vs n) ∈ news ∧ confIs x c.vals news ∧ vs.length < 1000 ∧ RecsAre w x news vs rs ∧ (∀ i r, rs[i]? = some r → (r.1 < k ↔ i < p)) ∧ p ≤ vs.length ∧ (∀ r, rs[p]? = some r → r.1 ≠ k) ∧ 0 ≤ k ∧ k < 16
theorem find_absent (w : World) (C y le x : Addr) (c : Cf) (nt mn mx : Value) (page par nx : Value) (vs : List Value) (rs : List (Int × Value)) (n p : Nat) (k : Int) (t : Tok) (hC : OneOf recNode C) :
    RaiseSpec w (call (.ref 422) [.ref y, .int k t]) 20 (NoKey w C y le x c nt mn mx page par nx vs rs n p k) := by
  unfold RaiseSpec
  k_fill
  intro mean mg mb dp un gd cn nms ig ic mo a ccd cl outer A₀ base h₀ L m news s Q E B F X N T hdp hun pre0 post
  obtain ⟨hnode, hle, ⟨dc, hc, hc'⟩, hlen, hrs, hlt, hpl, hno, hk0, hk1⟩ := pre0
  refine nodeIs.elim hnode ?_
  intro dy u1 u2 u3 u4 u5 u6 u7 u8 u9 n9 hm hm'
  have kd0 : KtsDicts [] h₀ := ktsDicts_nil
  refine wpAny_call ?_
  k_dflt k_enter
  have hM : HoldM := ⟨⟩
  k_steps
  refine ⟨?_⟩
  with_reducible rename HoldM => hM
  clear hM
  refine' method_val ?k1 ?k2 ?k3 ?k4 ?k5 ?_
  case k1 => k_asm
  case k2 => k_asm
  case k3 => k_inst
  case k4 => k_is
  case k5 => k_is
  k_steps
  refine ⟨?_⟩
  refine' TreeSpec.use (rec_make_k w x c k t) ?mB ?mF ?mX ?mN ?mT ?mhd ?mhu ?mp ?_
  case mB => k_asm
  case mF => k_asm
  case mX => k_asm
  case mN => k_asm
  case mT => k_asm
  case mhd => first | exact room2 (by assumption) (by rfl) | exact room1 (by assumption) (by rfl) | exact room3 (by assumption) (by rfl) | exact room4 (by assumption) (by rfl) | (simp only [m_dd, m_kd, m_1d, m_md, m_td]; omega) | decide
  case mhu => first | exact room2 (by assumption) (by rfl) | exact room1 (by assumption) (by rfl) | exact room3 (by assumption) (by rfl) | exact room4 (by assumption) (by rfl) | (simp only [m_du, m_ku, m_1u, m_mu, m_tu]; omega) | decide
  case mp => exact ⟨_, hc, hc'⟩
  intro r1 tl h1 tk1 F1 N1 ap1 hp1
  obtain ⟨z, dz, v1, v2, v3, v4, v5, lz, nz, e1, e2⟩ := hp1
  subst e1 e2
  k_steps
  have hz : recIs w x z k .none ([(z, instObj 260 dz), (dz, recDict w v1 v2 v3 v4 v5 x (.int k t) .none (.int (2 + c.ks + 2 + c.vz + 4) lz) .none nz)] ++ news) := ⟨dz, v1, v2, v3, v4, v5, t, _, _, nz, .head _, .tail _ (.head _)⟩
  refine bis_left (p := p) (T := .ref 260) (n := n) (by assumption) (by assumption) (by k_units) (List.mem_append_right _ hle) hlen hpl (by simp) ?hTx ?hTv ?ask ?_
  case hTx => exact fun h' N' => (InstAt.of_news N' (.head _) (.tail _ (.head _))).type
  case hTv =>
    intro h' v hv N'
    obtain ⟨i, hi⟩ := List.mem_iff_getElem?.mp hv
    obtain ⟨r', -, y', rfl, q⟩ := hrs.get hi
    obtain ⟨dy', u1, u2, u3, u4, u5, t, l, ov, n, q1, q2⟩ := q
    exact (InstAt.of_news N' (List.mem_append_right _ q1) (List.mem_append_right _ q2)).type
  case ask =>
    intro i v hv
    obtain ⟨r', hr', y', rfl, q⟩ := hrs.get hv
    refine LtAt.answers (by assumption) (by assumption) (by assumption) (by first | exact room2 (by assumption) (by rfl) | exact room1 (by assumption) (by rfl) | exact room3 (by assumption) (by rfl) | exact room4 (by assumption) (by rfl) | (simp only [m_dd, m_kd, m_1d, m_md, m_td]; omega)) (by first | exact room2 (by assumption) (by rfl) | exact room1 (by assumption) (by rfl) | exact room3 (by assumption) (by rfl) | exact room4 (by assumption) (by rfl) | (simp only [m_du, m_ku, m_1u, m_mu, m_tu]; omega)) ⟨.head _⟩ (.ofRec (q.sub fun _ h => List.mem_append_right _ h) hz ?_)
    exact decide_eq_decide.mpr (hlt i r' hr')
  intro h2 tk2 t2 F2 N2
  k_steps
  rename News _ _ _ _ => F2'
  refine ⟨?_⟩
  refine call_len_list (items := vs.toArray) (PySem.IsL.isList (n := n) (F2' _ (List.mem_append_right _ hle)).1) (by simp; omega) ?_
  rw [List.size_toArray]
  k_steps
  rotate_left
  · refine post _ _ _ _ _ _ _ (by assumption) (by assumption) (by assumption) fun q hq => .tail _ (.tail _ hq)
  rename ¬(_ = _) => hpe
  obtain ⟨y2, r, hy2, hr, hrec2⟩ : ∃ y2 r, vs[p]? = some (.ref y2) ∧ rs[p]? = some r ∧ recIs w x y2 r.1 r.2 news := by
    obtain ⟨v, hv⟩ : ∃ v, vs[p]? = some v := ⟨vs[p]'(by omega), by simp⟩
    obtain ⟨r', hr', y', e, q⟩ := hrs.get hv
    exact ⟨y', r', e ▸ hv, hr', q⟩
  obtain ⟨d2, w1, w2, w3, w4, w5, tt2, l2, ov2, n2, q1, q2⟩ := id hrec2
  rename News _ _ _ _ => F3'
  refine ⟨?_⟩
  refine item_at (n := n) F3' (List.mem_append_right _ hle) hy2 hlen ?_
  k_steps
  refine ⟨?_⟩
  refine' TreeSpec.use (eq_rec w x y2 z r.1 k r.2 .none) ?mB ?mF ?mX ?mN ?mT ?mhd ?mhu ?mp ?_
  case mB => k_asm
  case mF => k_asm
  case mX => k_asm
  case mN => k_asm
  case mT => k_asm
  case mhd => first | exact room2 (by assumption) (by rfl) | exact room1 (by assumption) (by rfl) | exact room3 (by assumption) (by rfl) | exact room4 (by assumption) (by rfl) | (simp only [m_dd, m_kd, m_1d, m_md, m_td]; omega) | decide
  case mhu => first | exact room2 (by assumption) (by rfl) | exact room1 (by assumption) (by rfl) | exact room3 (by assumption) (by rfl) | exact room4 (by assumption) (by rfl) | (simp only [m_du, m_ku, m_1u, m_mu, m_tu]; omega) | decide
  case mp => exact ⟨hrec2.sub fun _ h => List.mem_append_right _ h, hz⟩
  intro r5 tl5 h5 tk5 F5 N5 ap5 hp5
  obtain ⟨e1, e2⟩ := hp5
  subst e1 e2
  rw [decide_eq_false (hno r hr)]
  show wpAny _ _ _ _ _ _
  k_steps
  refine post _ _ _ _ _ _ _ (by assumption) (by assumption) (by assumption) fun q hq => .tail _ (.tail _ hq)
end Mine
end

section
open PySem PySem.W PyProof.Rows
/-- between two texts: the walk forgets the lines of the text before, as a fresh process has none -/
theorem Mine.calm70 : ∀ (prog : Program) (w : World) (A : Around) (env : Env) (E : Value → Shared → Prop) (s : Shared) (Q : Flow → Shared → Prop), Q .next s → wpAny (model prog w) A (execs [] env) Q E s := by
  w_top off
  intro prog w A env E s Q h
  walk1
  exact h
end

section
open PySem PySem.W PyProof.Rows PySem.Calls
set_option Elab.async false
set_option linter.unusedSimpArgs false
set_option maxRecDepth 100000
set_option maxHeartbeats 4000000
namespace Mine
--
local macro_rules | `(tactic| k_is) => `(tactic| (rename OneOf _ _ => q9; first | (clear q9; k_is) | ((first | with_reducible refine' OneOf.find4 q9 ?ma ?mb ?mc ?md | with_reducible refine' OneOf.over4 q9 ?ma ?mb ?mc ?md | with_reducible refine' OneOf.taker4 q9 ?ma ?mb ?mc ?md | with_reducible refine' OneOf.dict4 q9 ?ma ?mb ?mc ?md | with_reducible refine' OneOf.plain4 q9 ?ma ?mb ?mc ?md | with_reducible refine' OneOf.seq4 q9 ?ma ?mb ?mc ?md | with_reducible refine' OneOf.mro4 q9 ?ma ?mb ?mc ?md | with_reducible refine' OneOf.sub4 q9 ?ma ?mb ?mc ?md | with_reducible refine' OneOf.inst4 q9 ?ma ?mb ?mc ?md); (case ma => k_is); (case mb => k_is); (case mc => k_is); (case md => k_is)) | ((first | with_reducible refine' OneOf.find2 q9 ?ma ?mb | with_reducible refine' OneOf.over2 q9 ?ma ?mb | with_reducible refine' OneOf.taker2 q9 ?ma ?mb | with_reducible refine' OneOf.dict2 q9 ?ma ?mb | with_reducible refine' OneOf.plain2 q9 ?ma ?mb | with_reducible refine' OneOf.seq2 q9 ?ma ?mb | with_reducible refine' OneOf.mro2 q9 ?ma ?mb | with_reducible refine' OneOf.sub2 q9 ?ma ?mb | with_reducible refine' OneOf.inst2 q9 ?ma ?mb); (case ma => k_is); (case mb => k_is))))
local macro_rules | `(tactic| walk_at "call ref") => `(tactic| refine' Held.out ?_)
theorem RaiseSpec.use {w : World} {t : Sem Value} {cost : Nat} {Pre : Led → Prop} (S : RaiseSpec w t cost Pre)
    {mean : ExcName → Option Value} {mg mb : Str → Option Value} {dp un : Nat} {gd : Option (List Code)} {cn : Str} {nms : List (Str × NameKind)} {ig ic : Bool} {mo : List (Str × Const)} {a : Addr} {ccd : Value} {cl : List (Str × Addr)} {outer : List Env} {A₀ : Around} {base h₀ : Heap} {L : Addr}
    {m : Str → Option Value} {news : Led} {s : Shared} {Q E : Value → Shared → Prop}
    (B : Below A₀ base outer h₀) (F : Fr h₀ L s.heap m) (X : (hd.heap_1 w.params).In h₀) (N : News h₀ L s.heap news) (T : Top vw lsw mean mg mb h₀) (hd : dp + cost < 400) (hu : un + 8 * cost < 5000) (pre : Pre news)
    (k : ∀ g e tt vs led h' tk', Fr h₀ L g m → RaisedS base g (envX cn ⟨.function, nms, ig, ic, mo⟩ L a ccd cl :: outer) e (.type "ValueError") tt vs led h' → g.UpToSlots h' → (∀ q ∈ news, q ∈ led) → E (.ref e) { s with heap := h', toks := tk' }) :
    wpAny (model PySem.Challenge.rw_ke0002_02.row.prog w) (ktrTop dp un gd cn ⟨.function, nms, ig, ic, mo⟩ L a ccd cl outer) t Q E s :=
  S mean mg mb dp un gd cn nms ig ic mo a ccd cl outer A₀ base h₀ L m news s Q E B F X N T hd hu pre k
theorem get_absent (w : World) (C y le x : Addr) (c : Cf) (nt mn mx : Value) (page par nx : Value) (vs : List Value) (rs : List (Int × Value)) (n p : Nat) (k : Int) (t : Tok) (hC : OneOf recNode C) :
    RaiseSpec w (call (.ref 415) [.ref y, .int k t]) 26 (NoKey w C y le x c nt mn mx page par nx vs rs n p k) := by
  unfold RaiseSpec
  k_fill
  intro mean mg mb dp un gd cn nms ig ic mo a ccd cl outer A₀ base h₀ L m news s Q E B F X N T hdp hun pre post
  obtain ⟨hnode, hle, hc, hlen, hrs, hlt, hr⟩ := id pre
  refine nodeIs.elim hnode ?_
  intro dy u1 u2 u3 u4 u5 u6 u7 u8 u9 n9 hm hm'
  have kd0 : KtsDicts [] h₀ := ktsDicts_nil
  refine wpAny_call ?_
  k_dflt k_enter
  k_steps
  refine ⟨?_⟩
  refine' RaiseSpec.use (find_absent w C y le x c nt mn mx page par nx vs rs n p k t hC) ?mB ?mF ?mX ?mN ?mT ?mhd ?mhu ?mp ?_
  case mB => k_asm
  case mF => k_asm
  case mX => k_asm
  case mN => k_asm
  case mT => k_asm
  case mhd => first | exact room2 (by assumption) (by rfl) | exact room1 (by assumption) (by rfl) | exact room3 (by assumption) (by rfl) | exact room4 (by assumption) (by rfl) | (simp only [m_dd, m_kd, m_1d, m_md, m_td]; omega) | decide
  case mhu => first | exact room2 (by assumption) (by rfl) | exact room1 (by assumption) (by rfl) | exact room3 (by assumption) (by rfl) | exact room4 (by assumption) (by rfl) | (simp only [m_du, m_ku, m_1u, m_mu, m_tu]; omega) | decide
  case mp => exact pre
  intro g e tt ws led h1 tk1 F1 R1 U1 S1
  k_steps
  exact post _ _ _ _ _ _ _ (by assumption) (by assumption) (by assumption) S1
theorem remove_absent (w : World) (C y le x : Addr) (c : Cf) (nt mn mx : Value) (page par nx : Value) (vs : List Value) (rs : List (Int × Value)) (n p : Nat) (k : Int) (t : Tok) (hC : OneOf recNode C) :
    RaiseSpec w (call (.ref 408) [.ref y, .int k t]) 26 (NoKey w C y le x c nt mn mx page par nx vs rs n p k) := by
  unfold RaiseSpec
  k_fill
  intro mean mg mb dp un gd cn nms ig ic mo a ccd cl outer A₀ base h₀ L m news s Q E B F X N T hdp hun pre post
  obtain ⟨hnode, hle, hc, hlen, hrs, hlt, hr⟩ := id pre
  refine nodeIs.elim hnode ?_
  intro dy u1 u2 u3 u4 u5 u6 u7 u8 u9 n9 hm hm'
  have kd0 : KtsDicts [] h₀ := ktsDicts_nil
  refine wpAny_call ?_
  k_dflt k_enter
  k_steps
  refine ⟨?_⟩
  refine' RaiseSpec.use (find_absent w C y le x c nt mn mx page par nx vs rs n p k t hC) ?mB ?mF ?mX ?mN ?mT ?mhd ?mhu ?mp ?_
  case mB => k_asm
  case mF => k_asm
  case mX => k_asm
  case mN => k_asm
  case mT => k_asm
  case mhd => first | exact room2 (by assumption) (by rfl) | exact room1 (by assumption) (by rfl) | exact room3 (by assumption) (by rfl) | exact room4 (by assumption) (by rfl) | (simp only [m_dd, m_kd, m_1d, m_md, m_td]; omega) | decide
  case mhu => first | exact room2 (by assumption) (by rfl) | exact room1 (by assumption) (by rfl) | exact room3 (by assumption) (by rfl) | exact room4 (by assumption) (by rfl) | (simp only [m_du, m_ku, m_1u, m_mu, m_tu]; omega) | decide
  case mp => exact pre
  intro g e tt ws led h1 tk1 F1 R1 U1 S1
  k_steps
  exact post _ _ _ _ _ _ _ (by assumption) (by assumption) (by assumption) S1
end Mine
end

section
open PySem PySem.W PyProof.Rows
/-- between two texts: the walk forgets the lines of the text before, as a fresh process has none -/
theorem Mine.calm72 : ∀ (prog : Program) (w : World) (A : Around) (env : Env) (E : Value → Shared → Prop) (s : Shared) (Q : Flow → Shared → Prop), Q .next s → wpAny (model prog w) A (execs [] env) Q E s := by
  w_top off
  intro prog w A env E s Q h
  walk1
  exact h
end

section
open PySem PySem.W PyProof.Rows PySem.Calls
set_option Elab.async false
set_option linter.unusedSimpArgs false
set_option maxRecDepth 100000
set_option maxHeartbeats 4000000
namespace Mine
/-- the ground under a frame, which a caught exception may have turned -/
structure Gr (w : World) (mean : ExcName → Option Value) (mg mb : Str → Option Value) (outer : List Env) (A₀ : Around) (base g₀ h₀ : Heap) : Prop where
  T : KtsTurn (outer.filterMap (·.frame)) g₀ h₀
  B : Below A₀ base outer h₀
  X : (hd.heap_1 w.params).In h₀
  P : Top vw lsw mean mg mb h₀
  D : KtsDicts (outer.filterMap (·.frame)) h₀
/-- the tree t at any frame of the text's own: it may change the ledger, and may catch -/
def TurnSpec (w : World) (t : Sem Value) (cost : Nat) (Pre : Led → Prop) (Post : Value → Led → Led → Prop) : Prop :=
  ∀ (mean : ExcName → Option Value) (mg mb : Str → Option Value) (dp un : Nat) (gd : Option (List Code)) (cn : Str) (nms : List (Str × NameKind)) (ig ic : Bool) (mo : List (Str × Const)) (a : Addr) (ccd : Value) (cl : List (Str × Addr)) (outer : List Env) (A₀ : Around) (base g₀ h₀ : Heap) (L : Addr)
    (m : Str → Option Value) (news : Led) (s : Shared) (Q E : Value → Shared → Prop),
    (hd.heap_1 w.params).In base → Top vw lsw mean mg mb base → Gr w mean mg mb outer A₀ base g₀ h₀ → Fr h₀ L s.heap m → News h₀ L s.heap news → dp + cost < 400 → un + 8 * cost < 5000 → Pre news →
    (∀ r news' h₀' h' tk', Gr w mean mg mb outer A₀ base g₀ h₀' → Fr h₀' L h' m → News h₀' L h' news' → Post r news news' → Q r { s with heap := h', toks := tk' }) →
    wpAny (model PySem.Challenge.rw_ke0002_02.row.prog w) (ktrTop dp un gd cn ⟨.function, nms, ig, ic, mo⟩ L a ccd cl outer) t Q E s
theorem TurnSpec.use {w : World} {t : Sem Value} {cost : Nat} {Pre : Led → Prop} {Post : Value → Led → Led → Prop} (S : TurnSpec w t cost Pre Post)
    {mean : ExcName → Option Value} {mg mb : Str → Option Value} {dp un : Nat} {gd : Option (List Code)} {cn : Str} {nms : List (Str × NameKind)} {ig ic : Bool} {mo : List (Str × Const)} {a : Addr} {ccd : Value} {cl : List (Str × Addr)} {outer : List Env} {A₀ : Around} {base g₀ h₀ : Heap} {L : Addr}
    {m : Str → Option Value} {news : Led} {s : Shared} {hs : Heap} {ks : Nat} {Q E : Value → Shared → Prop}
    (XB : (hd.heap_1 w.params).In base) (TB : Top vw lsw mean mg mb base) (T0 : KtsTurn (outer.filterMap (·.frame)) g₀ h₀) (D : KtsDicts (outer.filterMap (·.frame)) h₀)
    (B : Below A₀ base outer h₀) (F : Fr h₀ L hs m) (X : (hd.heap_1 w.params).In h₀) (N : News h₀ L hs news) (T : Top vw lsw mean mg mb h₀) (hdd : dp + cost < 400) (hu : un + 8 * cost < 5000) (pre : Pre news)
    (k : ∀ r news' h₀' h' tk', KtsTurn (outer.filterMap (·.frame)) g₀ h₀' → Below A₀ base outer h₀' → (hd.heap_1 w.params).In h₀' → Top vw lsw mean mg mb h₀' → KtsDicts (outer.filterMap (·.frame)) h₀' → Fr h₀' L h' m → News h₀' L h' news' → Post r news news' → Q r { s with heap := h', toks := tk' }) :
    wpAny (model PySem.Challenge.rw_ke0002_02.row.prog w) (ktrTop dp un gd cn ⟨.function, nms, ig, ic, mo⟩ L a ccd cl outer) t Q E { s with heap := hs, toks := ks } :=
  S mean mg mb dp un gd cn nms ig ic mo a ccd cl outer A₀ base g₀ h₀ L m news { s with heap := hs, toks := ks } Q E XB TB ⟨T0, B, X, T, D⟩ F N hdd hu pre fun r news' h₀' h' tk' G F' N' p => k r news' h₀' h' tk' G.T G.B G.X G.P G.D F' N' p
theorem TreeSpec.turn {w : World} {t : Sem Value} {cost : Nat} {Pre : Led → Prop} {Post : Value → Led → Led → Prop} (S : TreeSpec w t cost Pre Post) : TurnSpec w t cost Pre (fun r news news' => ∃ tl, news' = tl ++ news ∧ Apart tl news ∧ Post r news tl) :=
  fun mean mg mb dp un gd cn nms ig ic mo a ccd cl outer A₀ base g₀ h₀ L m news s Q E _ _ G F N hdd hu pre k =>
    S mean mg mb dp un gd cn nms ig ic mo a ccd cl outer A₀ base h₀ L m news s Q E G.B F G.X N G.P hdd hu pre fun r tl h' tk' F' N' ap p => k r _ h₀ h' tk' G F' N' ⟨tl, rfl, ap, p⟩
theorem MutSpec.turn {w : World} {t : Sem Value} {cost : Nat} {Pre : Led → Prop} {Post : Value → Led → Led → Prop} (S : MutSpec w t cost Pre Post) : TurnSpec w t cost Pre Post :=
  fun mean mg mb dp un gd cn nms ig ic mo a ccd cl outer A₀ base g₀ h₀ L m news s Q E _ _ G F N hdd hu pre k =>
    S mean mg mb dp un gd cn nms ig ic mo a ccd cl outer A₀ base h₀ L m news s Q E G.B F G.X N G.P hdd hu pre fun r news' h' tk' F' N' p => k r _ h₀ h' tk' G F' N' p
end Mine
end

section
open PySem PySem.W PyProof.Rows
/-- between two texts: the walk forgets the lines of the text before, as a fresh process has none -/
theorem Mine.calm74 : ∀ (prog : Program) (w : World) (A : Around) (env : Env) (E : Value → Shared → Prop) (s : Shared) (Q : Flow → Shared → Prop), Q .next s → wpAny (model prog w) A (execs [] env) Q E s := by
  w_top off
  intro prog w A env E s Q h
  walk1
  exact h
end

section
open PySem PySem.W PyProof.Rows PySem.Calls
set_option Elab.async false
set_option linter.unusedSimpArgs false
set_option maxRecDepth 100000
set_option maxHeartbeats 4000000
namespace Mine
--
local macro_rules | `(tactic| k_is) => `(tactic| (rename OneOf _ _ => q9; first | (clear q9; k_is) | ((first | with_reducible refine' OneOf.find4 q9 ?ma ?mb ?mc ?md | with_reducible refine' OneOf.over4 q9 ?ma ?mb ?mc ?md | with_reducible refine' OneOf.taker4 q9 ?ma ?mb ?mc ?md | with_reducible refine' OneOf.dict4 q9 ?ma ?mb ?mc ?md | with_reducible refine' OneOf.plain4 q9 ?ma ?mb ?mc ?md | with_reducible refine' OneOf.seq4 q9 ?ma ?mb ?mc ?md | with_reducible refine' OneOf.mro4 q9 ?ma ?mb ?mc ?md | with_reducible refine' OneOf.sub4 q9 ?ma ?mb ?mc ?md | with_reducible refine' OneOf.inst4 q9 ?ma ?mb ?mc ?md); (case ma => k_is); (case mb => k_is); (case mc => k_is); (case md => k_is)) | ((first | with_reducible refine' OneOf.find2 q9 ?ma ?mb | with_reducible refine' OneOf.over2 q9 ?ma ?mb | with_reducible refine' OneOf.taker2 q9 ?ma ?mb | with_reducible refine' OneOf.dict2 q9 ?ma ?mb | with_reducible refine' OneOf.plain2 q9 ?ma ?mb | with_reducible refine' OneOf.seq2 q9 ?ma ?mb | with_reducible refine' OneOf.mro2 q9 ?ma ?mb | with_reducible refine' OneOf.sub2 q9 ?ma ?mb | with_reducible refine' OneOf.inst2 q9 ?ma ?mb); (case ma => k_is); (case mb => k_is))))
local macro_rules | `(tactic| walk_at "call ref") => `(tactic| refine' Held.out ?_)
theorem lget_absent (w : World) (C y le x : Addr) (c : Cf) (nt mn mx : Value) (page par nx : Value) (vs : List Value) (rs : List (Int × Value)) (n p : Nat) (k : Int) (t : Tok) (hC : OneOf recNode C) :
    TurnSpec w (call (.ref 685) [.ref y, .int k t]) 32 (NoKey w C y le x c nt mn mx page par nx vs rs n p k) (fun r news news' => r = .none ∧ ∀ q ∈ news, q ∈ news') := by
  unfold TurnSpec
  k_fill
  intro mean mg mb dp un gd cn nms ig ic mo a ccd cl outer A₀ base g₀ h₀ L m news s Q E XB TB gr0 F N hdp hun pre post
  obtain ⟨T0, B, X, T, D⟩ := gr0
  obtain ⟨⟨dy, u1, u2, u3, u4, u5, u6, u7, u8, u9, n9, hm, hm'⟩, hle, hc, hlen, hrs, hlt, hr⟩ := id pre
  refine wpAny_call ?_
  k_dflt (refine' code_turn ?k1 ?k2 ?k3 ?k4 ?k5 ?XB ?TB ?D ?T0 ?kA ?kF ?kK ?k6 ?k7 ?k8 ?k9 ?kB ?_ ?c5 ?c2 ?c3 ?c4; (case kA => exact rfl); (case kF => exact rfl); (case kK => exact rfl); (case k2 => k_asm); (case k1 => k_asm); (case XB => assumption); (case TB => assumption); (case D => assumption); (case T0 => first | assumption | exact KtsTurn.refl); (case k3 => k_asm); (case k4 => k_asm); (case k5 => k_asm); (case k6 => k_is); (case k7 => k_is); (case k8 => k_room); (case k9 => first | exact binds_K (by k_in) rfl (by k_is) rfl rfl rfl | exact BindsTo.of_eq rfl); (case kB => exact locs rfl); (case c5 => decide); (case c2 => exact rfl); (case c3 => exact rfl); (case c4 => exact rfl); k_whole; intro g' L' h' FG' F' N' B' X' T' D' Qb hQ; (try dsimp only); (try k_lift B'); (try k_fold))
  refine letA ?_
  intro A1
  refine letE ?_
  intro e1
  k_steps
  refine ⟨?_⟩
  refine' RaiseSpec.use (get_absent w C y le x c nt mn mx page par nx vs rs n p k t hC) ?mB ?mF ?mX ?mN ?mT ?mhd ?mhu ?mp ?_
  case mB => k_asm
  case mF => k_asm
  case mX => k_asm
  case mN => k_asm
  case mT => k_asm
  case mhd => first | exact room2 (by assumption) (by rfl) | exact room1 (by assumption) (by rfl) | exact room3 (by assumption) (by rfl) | exact room4 (by assumption) (by rfl) | (simp only [m_dd, m_kd, m_1d, m_md, m_td]; omega) | decide
  case mhu => first | exact room2 (by assumption) (by rfl) | exact room1 (by assumption) (by rfl) | exact room3 (by assumption) (by rfl) | exact room4 (by assumption) (by rfl) | (simp only [m_du, m_ku, m_1u, m_mu, m_tu]; omega) | decide
  case mp => exact pre
  intro g e tt ws led h1 tk1 F1 R1 U1 S1
  k_steps
  refine hQ _ _ ?_
  k_steps
  refine' post _ _ _ _ _ ⟨?zt, ?zb, ?zx, ?zp, ?zd⟩ ?zf ?zn ?_
  case zf => assumption
  case zn => assumption
  case zb => assumption
  case zt => first | assumption | exact KtsTurn.refl
  case zx => assumption
  case zp => assumption
  case zd => assumption
  exact ⟨rfl, S1⟩
theorem lget_there (w : World) (C y le x v : Addr) (c : Cf) (nt mn mx : Value) (page par nx : Value) (vs : List Value) (rs : List (Int × Value)) (n p : Nat) (k : Int) (t : Tok) (b : Array UInt8) (ub : Tok) (hC : OneOf recNode C) (hv : vs[p]? = some (.ref v)) :
    TurnSpec w (call (.ref 685) [.ref y, .int k t]) 32 (fun news => AtKey w C y le x c nt mn mx page par nx vs rs n p k news ∧ recIs w x v k (.bytes b ub) news) (fun r news news' => r = .bytes b ub ∧ ∀ q ∈ news, q ∈ news') := by
  unfold TurnSpec
  k_fill
  intro mean mg mb dp un gd cn nms ig ic mo a ccd cl outer A₀ base g₀ h₀ L m news s Q E XB TB gr0 F N hdp hun pre0 post
  obtain ⟨T0, B, X, T, D⟩ := gr0
  obtain ⟨pre, hrec⟩ := pre0
  obtain ⟨⟨dy, u1, u2, u3, u4, u5, u6, u7, u8, u9, n9, hm, hm'⟩, hle, hc, hlen, hrs, hlt, hr⟩ := id pre
  refine wpAny_call ?_
  k_dflt (refine' code_turn ?k1 ?k2 ?k3 ?k4 ?k5 ?XB ?TB ?D ?T0 ?kA ?kF ?kK ?k6 ?k7 ?k8 ?k9 ?kB ?_ ?c5 ?c2 ?c3 ?c4; (case kA => exact rfl); (case kF => exact rfl); (case kK => exact rfl); (case k2 => k_asm); (case k1 => k_asm); (case XB => assumption); (case TB => assumption); (case D => assumption); (case T0 => first | assumption | exact KtsTurn.refl); (case k3 => k_asm); (case k4 => k_asm); (case k5 => k_asm); (case k6 => k_is); (case k7 => k_is); (case k8 => k_room); (case k9 => first | exact binds_K (by k_in) rfl (by k_is) rfl rfl rfl | exact BindsTo.of_eq rfl); (case kB => exact locs rfl); (case c5 => decide); (case c2 => exact rfl); (case c3 => exact rfl); (case c4 => exact rfl); k_whole; intro g' L' h' FG' F' N' B' X' T' D' Qb hQ; (try dsimp only); (try k_lift B'); (try k_fold))
  refine letA ?_
  intro A1
  refine letE ?_
  intro e1
  k_steps
  refine ⟨?_⟩
  refine' TreeSpec.use (get_there w C y le x v c nt mn mx page par nx vs rs n p k t hC hv) ?mB ?mF ?mX ?mN ?mT ?mhd ?mhu ?mp ?_
  case mB => k_asm
  case mF => k_asm
  case mX => k_asm
  case mN => k_asm
  case mT => k_asm
  case mhd => first | exact room2 (by assumption) (by rfl) | exact room1 (by assumption) (by rfl) | exact room3 (by assumption) (by rfl) | exact room4 (by assumption) (by rfl) | (simp only [m_dd, m_kd, m_1d, m_md, m_td]; omega) | decide
  case mhu => first | exact room2 (by assumption) (by rfl) | exact room1 (by assumption) (by rfl) | exact room3 (by assumption) (by rfl) | exact room4 (by assumption) (by rfl) | (simp only [m_du, m_ku, m_1u, m_mu, m_tu]; omega) | decide
  case mp => exact pre
  intro r1 tl h1 tk1 F1 N1 ap1 hp1
  subst hp1
  obtain ⟨d2, w1, w2, w3, w4, w5, tt2, l2, ov2, n2, q1, q2⟩ := hrec
  replace q1 : (v, instObj 260 d2) ∈ tl ++ news := List.mem_append_right _ q1
  replace q2 : (d2, recDict w w1 w2 w3 w4 w5 x (.int k tt2) (.bytes b ub) l2 ov2 n2) ∈ tl ++ news := List.mem_append_right _ q2
  k_steps
  refine hQ _ _ ?_
  k_steps
  refine' post _ _ _ _ _ ⟨?zt, ?zb, ?zx, ?zp, ?zd⟩ ?zf ?zn ?_
  case zf => assumption
  case zn => assumption
  case zb => assumption
  case zt => first | assumption | exact KtsTurn.refl
  case zx => assumption
  case zp => assumption
  case zd => assumption
  exact ⟨rfl, fun q hq => List.mem_append_right _ hq⟩
theorem ltake_absent (w : World) (C y le x : Addr) (c : Cf) (nt mn mx : Value) (page par nx : Value) (vs : List Value) (rs : List (Int × Value)) (n p : Nat) (k : Int) (t : Tok) (hC : OneOf recNode C) :
    TurnSpec w (call (.ref 692) [.ref y, .int k t]) 32 (NoKey w C y le x c nt mn mx page par nx vs rs n p k) (fun r news news' => r = .bool false ∧ ∀ q ∈ news, q ∈ news') := by
  unfold TurnSpec
  k_fill
  intro mean mg mb dp un gd cn nms ig ic mo a ccd cl outer A₀ base g₀ h₀ L m news s Q E XB TB gr0 F N hdp hun pre post
  obtain ⟨T0, B, X, T, D⟩ := gr0
  obtain ⟨⟨dy, u1, u2, u3, u4, u5, u6, u7, u8, u9, n9, hm, hm'⟩, hle, hc, hlen, hrs, hlt, hr⟩ := id pre
  refine wpAny_call ?_
  k_dflt (refine' code_turn ?k1 ?k2 ?k3 ?k4 ?k5 ?XB ?TB ?D ?T0 ?kA ?kF ?kK ?k6 ?k7 ?k8 ?k9 ?kB ?_ ?c5 ?c2 ?c3 ?c4; (case kA => exact rfl); (case kF => exact rfl); (case kK => exact rfl); (case k2 => k_asm); (case k1 => k_asm); (case XB => assumption); (case TB => assumption); (case D => assumption); (case T0 => first | assumption | exact KtsTurn.refl); (case k3 => k_asm); (case k4 => k_asm); (case k5 => k_asm); (case k6 => k_is); (case k7 => k_is); (case k8 => k_room); (case k9 => first | exact binds_K (by k_in) rfl (by k_is) rfl rfl rfl | exact BindsTo.of_eq rfl); (case kB => exact locs rfl); (case c5 => decide); (case c2 => exact rfl); (case c3 => exact rfl); (case c4 => exact rfl); k_whole; intro g' L' h' FG' F' N' B' X' T' D' Qb hQ; (try dsimp only); (try k_lift B'); (try k_fold))
  refine letA ?_
  intro A1
  refine letE ?_
  intro e1
  k_steps
  refine ⟨?_⟩
  refine' RaiseSpec.use (remove_absent w C y le x c nt mn mx page par nx vs rs n p k t hC) ?mB ?mF ?mX ?mN ?mT ?mhd ?mhu ?mp ?_
  case mB => k_asm
  case mF => k_asm
  case mX => k_asm
  case mN => k_asm
  case mT => k_asm
  case mhd => first | exact room2 (by assumption) (by rfl) | exact room1 (by assumption) (by rfl) | exact room3 (by assumption) (by rfl) | exact room4 (by assumption) (by rfl) | (simp only [m_dd, m_kd, m_1d, m_md, m_td]; omega) | decide
  case mhu => first | exact room2 (by assumption) (by rfl) | exact room1 (by assumption) (by rfl) | exact room3 (by assumption) (by rfl) | exact room4 (by assumption) (by rfl) | (simp only [m_du, m_ku, m_1u, m_mu, m_tu]; omega) | decide
  case mp => exact pre
  intro g e tt ws led h1 tk1 F1 R1 U1 S1
  k_steps
  refine hQ _ _ ?_
  k_steps
  refine' post _ _ _ _ _ ⟨?zt, ?zb, ?zx, ?zp, ?zd⟩ ?zf ?zn ?_
  case zf => assumption
  case zn => assumption
  case zb => assumption
  case zt => first | assumption | exact KtsTurn.refl
  case zx => assumption
  case zp => assumption
  case zd => assumption
  exact ⟨rfl, S1⟩
theorem ltake_there (w : World) (C y le x : Addr) (c : Cf) (nt mn mx : Value) (page par nx : Value) (vs : List Value) (rs : List (Int × Value)) (n p : Nat) (k : Int) (t : Tok) (hC : OneOf recNode C) :
    TurnSpec w (call (.ref 692) [.ref y, .int k t]) 32 (AtKey w C y le x c nt mn mx page par nx vs rs n p k) (fun r news news' => r = .bool true ∧ Chg le (lst (vs.take p ++ vs.drop (p + 1)) (n + 1)) news news') := by
  unfold TurnSpec
  k_fill
  intro mean mg mb dp un gd cn nms ig ic mo a ccd cl outer A₀ base g₀ h₀ L m news s Q E XB TB gr0 F N hdp hun pre post
  obtain ⟨T0, B, X, T, D⟩ := gr0
  obtain ⟨⟨dy, u1, u2, u3, u4, u5, u6, u7, u8, u9, n9, hm, hm'⟩, hle, hc, hlen, hrs, hlt, hr⟩ := id pre
  refine wpAny_call ?_
  k_dflt (refine' code_turn ?k1 ?k2 ?k3 ?k4 ?k5 ?XB ?TB ?D ?T0 ?kA ?kF ?kK ?k6 ?k7 ?k8 ?k9 ?kB ?_ ?c5 ?c2 ?c3 ?c4; (case kA => exact rfl); (case kF => exact rfl); (case kK => exact rfl); (case k2 => k_asm); (case k1 => k_asm); (case XB => assumption); (case TB => assumption); (case D => assumption); (case T0 => first | assumption | exact KtsTurn.refl); (case k3 => k_asm); (case k4 => k_asm); (case k5 => k_asm); (case k6 => k_is); (case k7 => k_is); (case k8 => k_room); (case k9 => first | exact binds_K (by k_in) rfl (by k_is) rfl rfl rfl | exact BindsTo.of_eq rfl); (case kB => exact locs rfl); (case c5 => decide); (case c2 => exact rfl); (case c3 => exact rfl); (case c4 => exact rfl); k_whole; intro g' L' h' FG' F' N' B' X' T' D' Qb hQ; (try dsimp only); (try k_lift B'); (try k_fold))
  refine letA ?_
  intro A1
  refine letE ?_
  intro e1
  k_steps
  refine ⟨?_⟩
  refine' MutSpec.use (remove_there w C y le x c nt mn mx page par nx vs rs n p k t hC) ?mB ?mF ?mX ?mN ?mT ?mhd ?mhu ?mp ?_
  case mB => k_asm
  case mF => k_asm
  case mX => k_asm
  case mN => k_asm
  case mT => k_asm
  case mhd => first | exact room2 (by assumption) (by rfl) | exact room1 (by assumption) (by rfl) | exact room3 (by assumption) (by rfl) | exact room4 (by assumption) (by rfl) | (simp only [m_dd, m_kd, m_1d, m_md, m_td]; omega) | decide
  case mhu => first | exact room2 (by assumption) (by rfl) | exact room1 (by assumption) (by rfl) | exact room3 (by assumption) (by rfl) | exact room4 (by assumption) (by rfl) | (simp only [m_du, m_ku, m_1u, m_mu, m_tu]; omega) | decide
  case mp => exact pre
  intro r1 news1 h1 tk1 F1 N1 hp1
  obtain ⟨e1, hchg⟩ := hp1
  subst e1
  k_steps
  refine hQ _ _ ?_
  k_steps
  refine' post _ _ _ _ _ ⟨?zt, ?zb, ?zx, ?zp, ?zd⟩ ?zf ?zn ?_
  case zf => assumption
  case zn => assumption
  case zb => assumption
  case zt => first | assumption | exact KtsTurn.refl
  case zx => assumption
  case zp => assumption
  case zd => assumption
  exact ⟨rfl, hchg⟩
end Mine
end

section
open PySem PySem.W PyProof.Rows
/-- between two texts: the walk forgets the lines of the text before, as a fresh process has none -/
theorem Mine.calm76 : ∀ (prog : Program) (w : World) (A : Around) (env : Env) (E : Value → Shared → Prop) (s : Shared) (Q : Flow → Shared → Prop), Q .next s → wpAny (model prog w) A (execs [] env) Q E s := by
  w_top off
  intro prog w A env E s Q h
  walk1
  exact h
end

section
open PySem PySem.W PyProof.Rows PySem.Calls
set_option Elab.async false
set_option linter.unusedSimpArgs false
set_option maxRecDepth 100000
set_option maxHeartbeats 4000000
namespace Mine
--
local macro_rules | `(tactic| walk_at "call ref") => `(tactic| refine' Held.out ?_)
local macro_rules | `(tactic| walk_at "eval ListComp") => `(tactic| refine' Held.out ?_)
abbrev tup (vs : List Value) : Obj := { cls := .type "tuple", data := .seq vs.toArray }
/-- pairs of a key and a value -/
def PairsAre (news : Led) : List Value → List (Int × Value) → Prop := All2 fun v kv => ∃ a t, v = .ref a ∧ (a, tup [.int kv.1 t, kv.2]) ∈ news
def AreBytes (rs : List (Int × Value)) : Prop := ∀ r ∈ rs, ∃ b u, r.2 = .bytes b u
theorem PairsAre.mono {a b : Led} (h : ∀ q ∈ a, q ∈ b) {us : List Value} {rs : List (Int × Value)} (p : PairsAre a us rs) : PairsAre b us rs := All2.imp (fun _ _ ⟨x, t, e, m⟩ => ⟨x, t, e, h _ m⟩) p
theorem PairsAre.snoc {a : Led} {us : List Value} {rs : List (Int × Value)} {i : Nat} {x : Addr} {t : Tok} {kv : Int × Value} (p : PairsAre a us (rs.take i)) (e : rs[i]? = some kv) (hm : (x, tup [.int kv.1 t, kv.2]) ∈ a) : PairsAre a (us ++ [.ref x]) (rs.take (i + 1)) := by
  rw [List.take_add_one, e]
  exact All2.append p ⟨⟨x, t, rfl, hm⟩, trivial⟩
/-- two rows of pairs with one content -/
theorem pairs_same {a b news : Led} {us ys : List Value} {rs : List (Int × Value)} (p : PairsAre a us rs) (q : PairsAre b ys rs) (ha : ∀ x ∈ a, x ∈ news) (hb : ∀ x ∈ b, x ∈ news) :
    us.length = ys.length ∧ ∀ (i : Nat) x y, us[i]? = some x → ys[i]? = some y → SameN news 1 x y := by
  refine ⟨p.len.trans q.len.symm, fun i x y e f => ?_⟩
  obtain ⟨r, hr, z1, t1, rfl, m1⟩ := p.get e
  obtain ⟨r', hr', z2, t2, rfl, m2⟩ := q.get f
  rw [hr] at hr'
  cases hr'
  unfold SameN
  exact .inr ⟨z1, z2, _, _, 0, 0, "tuple", rfl, rfl, .inl rfl, ha _ m1, hb _ m2, rfl, pair_same⟩
theorem off1_ne {D : Addr} {l : Led} (h : LCg.Off1 D l) : ∀ q ∈ l, q.1 ≠ D := by
  induction l with
  | nil => exact fun _ hq => nomatch hq
  | cons p r ih =>
    intro q hq
    rcases List.mem_cons.mp hq with rfl | hq
    · exact h.1
    · exact ih h.2 q hq
/-- an element's tuple goes onto the ledger -/
theorem comp_end1 {h₀ h' : Heap} {L I C D : Addr} {m : Str → Option Value} {s₁ : Shared} {oI oC oD : Obj} {S : Led → Prop} {rest : Value → Led → Prop} {y : Value} {tk : Nat} {p : Addr × Obj} {nw : Led}
    (F : Fr h₀ L h' m) (N : News h₀ L h' (p :: (I, oI) :: (C, oC) :: (D, oD) :: nw)) (off : LCg.Off3 I C D nw) (lt : @LT.lt Nat _ I p.1 ∧ @LT.lt Nat _ C p.1 ∧ @LT.lt Nat _ D p.1 ∧ AllLt p.1 nw) (hS : S (p :: nw)) (r : rest y (p :: nw)) :
    LCg.CompEnd h₀ L m s₁ I oI C oC D oD S rest y { s₁ with heap := h', toks := tk } := by
  refine LCg.CompEnd.intro F N (p :: nw) (fun q hq => ?_) ⟨⟨Nat.ne_of_gt lt.1, Nat.ne_of_gt lt.2.1, Nat.ne_of_gt lt.2.2.1⟩, off⟩ hS r
  simp only [List.mem_cons] at hq ⊢
  rcases hq with h | h | h | h | h
  · exact .inr (.inl h)
  · exact .inr (.inr (.inl h))
  · exact .inr (.inr (.inr (.inl h)))
  · exact .inl h
  · exact .inr (.inr (.inr (.inr h)))
theorem lrecs (w : World) (le x : Addr) (vs : List Value) (rs : List (Int × Value)) (n : Nat) (hb : AreBytes rs) :
    TreeSpec w (call (.ref 697) [.ref le]) 12 (fun news => (le, lst vs n) ∈ news ∧ vs.length < 1000 ∧ RecsAre w x news vs rs)
    (fun r news tl => ∃ D us, r = .ref D ∧ (D, lst us us.length) ∈ tl ∧ PairsAre tl us rs) := by
  unfold TreeSpec
  k_fill
  intro mean mg mb dp un gd cn nms ig ic mo a ccd cl outer A₀ base h₀ L m news s Q E B F X N T hdp hun pre0 post
  obtain ⟨hle, hlen, hrs⟩ := pre0
  refine wpAny_call ?_
  k_dflt (refine' code_own ?k1 ?k2 ?k3 ?k4 ?k5 ?kA ?kF ?kK ?k6 ?k7 ?k8 ?k9 ?kB ?_ ?c5 ?c2 ?c3 ?c4; (case kA => exact rfl); (case kF => exact rfl); (case kK => exact rfl); (case k2 => k_asm); (case k1 => k_asm); (case k3 => k_asm); (case k4 => k_asm); (case k5 => k_asm); (case k6 => k_is); (case k7 => k_is); (case k8 => k_room); (case k9 => first | exact binds_K (by k_in) rfl (by k_is) rfl rfl rfl | exact BindsTo.of_eq rfl); (case kB => exact locs rfl); (case c5 => decide); (case c2 => exact rfl); (case c3 => exact rfl); (case c4 => exact rfl); k_whole; intro g' L' h' FG' F' N' B' X' T' Qb hQ; (try dsimp only); (try k_lift B'); (try k_fold))
  refine letA ?_
  intro A1
  refine letE ?_
  intro e1
  k_steps
  refine ⟨?_⟩
  rename Fr _ _ _ _ => kF
  rename News _ _ _ _ => kN
  k_dflt (refine LCg.ListComp_U kF (by rfl) (by decide) (by rfl) (by decide) (by rfl) ?_)
  k_dflt (refine ld kF (by rfl) ?_)
  k_dflt (refine LCg.CompSrc.ledger (by rfl) kF kN hle (by size_fits) ?_)
  intro g9
  refine comp_rest (fun i ys nw => ∃ tl, nw = tl ++ news ∧ Apart tl news ∧ PairsAre tl ys (rs.take i)) ⟨[], rfl, Apart.nil, trivial⟩ ?_ ?_
  · rintro i v ys nw I oI C oC D m₂ h tk E' hi hv ⟨tl, rfl, ap, hp⟩ hC hx F' N' off n1 n2 n3
    obtain ⟨r, hr, y, rfl, hrec⟩ := hrs.get (i := i) (by simpa using hv)
    obtain ⟨b, u, hbu⟩ := hb r (List.mem_of_getElem? hr)
    rw [hbu] at hrec
    obtain ⟨dy, u1, u2, u3, u4, u5, t, l, ov, n9, q1, q2⟩ := hrec
    have q1' : (y, instObj 260 dy) ∈ tl ++ news := List.mem_append_right _ q1
    have q2' : (dy, recDict w u1 u2 u3 u4 u5 x (.int r.1 t) (.bytes b u) l ov n9) ∈ tl ++ news := List.mem_append_right _ q2
    k_steps
    with_reducible rename _ ∧ _ ∧ _ ∧ AllLt _ _ => l9
    rename News _ _ _ _ => kN9
    refine comp_end1 (by assumption) kN9 off l9 (.inr ⟨_, .tail _ (List.mem_append_right _ hle), rfl, _, rfl⟩) ⟨_ :: tl, rfl, Apart.cons (fun q hq => Nat.ne_of_lt (ktn_ltOf l9.2.2.2 q (List.mem_append_right _ hq))) ap, ?_⟩
    exact (hp.mono fun q hq => .tail _ hq).snoc hr (by rw [hbu]; exact .head _)
  · rintro ys nw ⟨tl, rfl, ap, hp⟩ D h tk F' N' o1
    rw [List.take_of_length_le (by rw [← hrs.len]; simp)] at hp
    k_steps
    refine hQ _ _ ?_
    k_steps
    exact post _ (_ :: tl) _ _ (by assumption) (by assumption) (Apart.cons (fun q hq => off1_ne o1 q (List.mem_append_right _ hq)) ap) ⟨D, ys, rfl, .head _, hp.mono fun q hq => .tail _ hq⟩
end Mine
end

section
open PySem PySem.W PyProof.Rows
/-- between two texts: the walk forgets the lines of the text before, as a fresh process has none -/
theorem Mine.calm78 : ∀ (prog : Program) (w : World) (A : Around) (env : Env) (E : Value → Shared → Prop) (s : Shared) (Q : Flow → Shared → Prop), Q .next s → wpAny (model prog w) A (execs [] env) Q E s := by
  w_top off
  intro prog w A env E s Q h
  walk1
  exact h
end

section
open PySem PySem.W PyProof.Rows PySem.Calls
set_option Elab.async false
set_option linter.unusedSimpArgs false
set_option maxRecDepth 100000
set_option maxHeartbeats 4000000
namespace Mine
--
local macro_rules | `(tactic| k_is) => `(tactic| (rename OneOf _ _ => q9; first | (clear q9; k_is) | ((first | with_reducible refine' OneOf.find4 q9 ?ma ?mb ?mc ?md | with_reducible refine' OneOf.over4 q9 ?ma ?mb ?mc ?md | with_reducible refine' OneOf.taker4 q9 ?ma ?mb ?mc ?md | with_reducible refine' OneOf.dict4 q9 ?ma ?mb ?mc ?md | with_reducible refine' OneOf.plain4 q9 ?ma ?mb ?mc ?md | with_reducible refine' OneOf.seq4 q9 ?ma ?mb ?mc ?md | with_reducible refine' OneOf.mro4 q9 ?ma ?mb ?mc ?md | with_reducible refine' OneOf.sub4 q9 ?ma ?mb ?mc ?md | with_reducible refine' OneOf.inst4 q9 ?ma ?mb ?mc ?md); (case ma => k_is); (case mb => k_is); (case mc => k_is); (case md => k_is)) | ((first | with_reducible refine' OneOf.find2 q9 ?ma ?mb | with_reducible refine' OneOf.over2 q9 ?ma ?mb | with_reducible refine' OneOf.taker2 q9 ?ma ?mb | with_reducible refine' OneOf.dict2 q9 ?ma ?mb | with_reducible refine' OneOf.plain2 q9 ?ma ?mb | with_reducible refine' OneOf.seq2 q9 ?ma ?mb | with_reducible refine' OneOf.mro2 q9 ?ma ?mb | with_reducible refine' OneOf.sub2 q9 ?ma ?mb | with_reducible refine' OneOf.inst2 q9 ?ma ?mb); (case ma => k_is); (case mb => k_is))))
local macro_rules
  | `(tactic| walk_at "subscriptTail") => `(tactic| refine' Held.out ?_)
  | `(tactic| walk_at "subscriptTail Name Slice ref ref") => `(tactic| refine' Held.out ?_)
  | `(tactic| walk_at "call builtin:len") => `(tactic| refine' Held.out ?_)
  | `(tactic| walk_at "subscriptTail Attribute") => `(tactic| k_dflt (refine kba_turn (value' := PySem.Expr.Name (PySem.Str.ofString "_") ⟨0, 0, 0, 0⟩) (fun _ => rfl) ?_))
local macro_rules
  | `(tactic| walk_at "setAttr ref") => `(tactic| refine' Held.out ?_)
theorem node_split (w : World) (C y le x : Addr) (nt mn mx : Value) (ec : Addr) (page par nx : Value) (vs : List Value) (n : Nat) (hC : OneOf anyNode C) :
    MutSpec w (call (.ref 429) [.ref y]) 12
    (fun news => nodeIs w C y le x nt mn mx ec page par nx news ∧ (le, lst vs n) ∈ news ∧ vs.length < 1000)
    (fun r news news' => ∃ B1 B2, r = .ref B1 ∧ (B1, lst (vs.drop (vs.length / 2)) 0) ∈ news' ∧ (B2, lst (vs.take (vs.length / 2)) 0) ∈ news' ∧ nodeIs w C y B2 x nt mn mx ec page par nx news' ∧
      ∀ q ∈ news, (∀ es n, q.2 = dictOf es n → es.length ≠ 9) → q ∈ news') := by
  unfold MutSpec
  k_fill
  intro mean mg mb dp un gd cn nms ig ic mo a ccd cl outer A₀ base h₀ L m news s Q E B F X N T hdp hun pre0 post
  obtain ⟨hnode, hle, hlen⟩ := pre0
  refine nodeIs.elim hnode ?_
  intro dy u1 u2 u3 u4 u5 u6 u7 u8 u9 n9 hm hm'
  have hm0 := hm
  have hle0 := hle
  replace hm : (y, instObj C dy) ∈ rest dy news := mem_rest hm (news_ne N hm hm' fun e => nomatch congrArg Obj.cls e)
  replace hle : (le, lst vs n) ∈ rest dy news := mem_rest hle (news_ne N hle hm' fun e => absurd (congrArg Obj.cls e) (show ¬Value.type "list" = Value.type "dict" by decide))
  have hkeep : ∀ q ∈ news, (∀ es n, q.2 = dictOf es n → es.length ≠ 9) → q ∈ rest dy news := fun q hq h9 => mem_rest hq fun e => by
    have := news_eq N (a := dy) (o := q.2) (by rw [← e]; exact hq) hm'
    exact h9 _ _ this rfl
  replace N := news_rest N hm'
  have hr : ∀ p ∈ rest dy news, p.1 ≠ dy := rest_ne
  clear hm' hm0 hle0
  refine wpAny_call ?_
  k_dflt (refine' code_own ?k1 ?k2 ?k3 ?k4 ?k5 ?kA ?kF ?kK ?k6 ?k7 ?k8 ?k9 ?kB ?_ ?c5 ?c2 ?c3 ?c4; (case kA => exact rfl); (case kF => exact rfl); (case kK => exact rfl); (case k2 => k_asm); (case k1 => k_asm); (case k3 => k_asm); (case k4 => k_asm); (case k5 => k_asm); (case k6 => k_is); (case k7 => k_is); (case k8 => k_room); (case k9 => first | exact binds_K (by k_in) rfl (by k_is) rfl rfl rfl | exact BindsTo.of_eq rfl); (case kB => exact locs rfl); (case c5 => decide); (case c2 => exact rfl); (case c3 => exact rfl); (case c4 => exact rfl); k_whole; intro g' L' h' FG' F' N' B' X' T' Qb hQ; (try dsimp only); (try k_lift B'); (try k_fold))
  refine letA ?_
  intro A1
  refine letE ?_
  intro e1
  k_steps
  rename News _ _ _ _ => kN9
  refine ⟨?_⟩
  refine call_len_list (items := vs.toArray) (PySem.IsL.isList (n := n) (kN9 _ (.tail _ hle)).1) (by simp; omega) ?_
  rw [List.size_toArray]
  k_steps
  have e2 : (vs.length : Int).fdiv 2 = ((vs.length / 2 : Nat) : Int) := by
    rw [Int.fdiv_eq_ediv_of_nonneg _ (by decide)]; omega
  rw [e2]
  rename News _ _ _ _ => kN8
  rename Fr _ _ _ _ => kF8
  refine ⟨?_⟩
  refine slice_from (n := n) kF8 kN8 (.tail _ hle) (by omega) hlen rfl ?_
  intro B1 h1 F1 N1 l1
  dsimp only
  k_steps
  rw [e2]
  rename News _ _ _ _ => kN7
  rename Fr _ _ _ _ => kF7
  refine ⟨?_⟩
  refine slice_upto (n := n) kF7 kN7 (.tail _ (.tail _ hle)) (by omega) hlen rfl ?_
  intro B2 h2 F2 N2 l2
  have n2 : B2 ≠ dy := Nat.ne_of_gt (l2 _ (.tail _ (.head _)))
  have n1 : B1 ≠ dy := Nat.ne_of_gt (l1 _ (.head _))
  k_lt l2
  k_lt l1
  dsimp only
  k_steps
  rename News _ _ _ _ => kN6
  rename Fr _ _ _ _ => kF6
  refine ⟨?_⟩
  refine' set_dict (dx := dy) (news' := (B2, lst (vs.take (vs.length / 2)) 0) :: (B1, lst (vs.drop (vs.length / 2)) 0) :: (dy, nodeDict w u1 u2 u3 u4 u5 u6 u7 u8 u9 x nt mn mx ec B2 page par nx n9) :: rest dy news) kF6 ?k2 kN6 (InstAt.of_news kN6 (.tail _ (.tail _ (.tail _ hm))) (.tail _ (.tail _ (.head _)))) rfl ?k6 ?k7 ?k8 ?k9 rfl rfl (.tail n2 (.tail n1 (.head hr))) (Nat.le_of_ble_eq_true rfl) ?_
  case k2 => k_asm
  case k6 => k_is
  case k7 => k_is
  case k8 => k_is
  case k9 => k_is
  intro h5 F5 N5
  k_steps
  rename News _ _ _ _ => kN5
  refine ⟨?_⟩
  refine call_len_list (items := (vs.take (vs.length / 2)).toArray) (PySem.IsL.isList (n := 0) (kN5 _ (.head _)).1) (by simp; omega) ?_
  rw [List.size_toArray, List.length_take, Nat.min_eq_left (by omega)]
  k_steps
  rename News _ _ _ _ => kN4
  refine ⟨?_⟩
  refine call_len_list (items := (vs.drop (vs.length / 2)).toArray) (PySem.IsL.isList (n := 0) (kN4 _ (.tail _ (.head _))).1) (by simp; omega) ?_
  rw [List.size_toArray, List.length_drop]
  have hsum : ((vs.length / 2 : Nat) : Int) + ((vs.length - vs.length / 2 : Nat) : Int) = (vs.length : Int) := by omega
  k_steps
  all_goals first
    | (refine hQ _ _ ?_; k_steps; exact post _ _ _ _ (by assumption) (by assumption) ⟨B1, B2, rfl, .tail _ (.head _), .head _, ⟨dy, u1, u2, u3, u4, u5, u6, u7, u8, u9, n9, .tail _ (.tail _ (.tail _ hm)), .tail _ (.tail _ (.head _))⟩, fun q hq h9 => .tail _ (.tail _ (.tail _ (hkeep q hq h9)))⟩)
    | (exfalso; omega)
end Mine
end

section
open PySem PySem.W PyProof.Rows
/-- between two texts: the walk forgets the lines of the text before, as a fresh process has none -/
theorem Mine.calm80 : ∀ (prog : Program) (w : World) (A : Around) (env : Env) (E : Value → Shared → Prop) (s : Shared) (Q : Flow → Shared → Prop), Q .next s → wpAny (model prog w) A (execs [] env) Q E s := by
  w_top off
  intro prog w A env E s Q h
  walk1
  exact h
end

section
open PySem PySem.W PyProof.Rows PySem.Calls
set_option Elab.async false
set_option linter.unusedSimpArgs false
set_option maxRecDepth 100000
set_option maxHeartbeats 4000000
namespace Mine
/-- the walk stops at an if -/
structure HoldIf : Prop where
/-- a dict whose first key is a text -/
def StrDict (o : Obj) : Prop := ∃ h s t v es n, o = dictOf (⟨h, .str s t, v⟩ :: es) n
/-- at a stands neither an object of a class nor a dict of attributes -/
structure Loner (a : Addr) (news : Led) : Prop where
  inst : ∀ y C dy, (y, instObj C dy) ∈ news → y ≠ a
  dict : ∀ d o, (d, o) ∈ news → StrDict o → d ≠ a
  conf : ∀ x C dx vs, (x, confObj C dx vs) ∈ news → x ≠ a
theorem Loner.list {h₀ h : Heap} {L le : Addr} {vs : List Value} {n : Nat} {news : Led} (N : News h₀ L h news) (hm : (le, lst vs n) ∈ news) : Loner le news where
  inst := fun _ _ _ q => news_ne N q hm fun e => nomatch congrArg Obj.cls e
  dict := fun _ _ q ⟨_, _, _, _, _, _, e⟩ => news_ne N q hm fun e' => absurd (congrArg Obj.cls (e.symm.trans e')) (show ¬Value.type "dict" = Value.type "list" by decide)
  conf := fun _ _ _ _ q => news_ne N q hm fun e => nomatch congrArg Obj.cls e
theorem Loner.ints {prog : Program} {w : World} {h₀ h : Heap} {L hd : Addr} {o : Obj} {kvs : List Kv} {news : Led} (N : News h₀ L h news) (hm : (hd, o) ∈ news) (hd' : o.IsDictOf (intKind prog w) kvs) : Loner hd news where
  inst := fun _ _ _ q => news_ne N q hm fun e => by
    obtain ⟨es, ep, ⟨hc, _⟩, _⟩ := hd'
    rw [← e] at hc; cases hc
  dict := fun _ _ q ⟨_, _, _, _, _, _, e⟩ => news_ne N q hm fun e' => by
    obtain ⟨es, ep, _, hda, _, hp, _⟩ := hd'
    rw [← e', e] at hda
    obtain ⟨rfl, -⟩ := Data.dict.inj hda
    cases hp with
    | cons hk _ => exact absurd hk (by simp [intKind, Value.isInt])
  conf := fun _ _ _ _ q => news_ne N q hm fun e => by
    obtain ⟨es, ep, ⟨hc, _⟩, _⟩ := hd'
    rw [← e] at hc; cases hc
theorem nodeIs.kept {w : World} {C y le x a : Addr} {nt mn mx page par nx : Value} {ec : Addr} {news news' : Led} (l : Loner a news) (k : Kept a news news') (h : nodeIs w C y le x nt mn mx ec page par nx news) : nodeIs w C y le x nt mn mx ec page par nx news' := by
  refine nodeIs.elim h ?_
  intro dy u1 u2 u3 u4 u5 u6 u7 u8 u9 n h1 h2
  exact ⟨dy, u1, u2, u3, u4, u5, u6, u7, u8, u9, n, k _ h1 (l.inst _ _ _ h1), k _ h2 (l.dict _ _ h2 ⟨_, _, _, _, _, _, rfl⟩)⟩
theorem recIs.kept {w : World} {x y a : Addr} {kk : Int} {v : Value} {news news' : Led} (l : Loner a news) (k : Kept a news news') (h : recIs w x y kk v news) : recIs w x y kk v news' := by
  refine recIs.elim h ?_
  intro dy u1 u2 u3 u4 u5 t ll ov n h1 h2
  exact ⟨dy, u1, u2, u3, u4, u5, t, ll, ov, n, k _ h1 (l.inst _ _ _ h1), k _ h2 (l.dict _ _ h2 ⟨_, _, _, _, _, _, rfl⟩)⟩
theorem refIs.kept {w : World} {x y a : Addr} {kk : Int} {b c : Value} {news news' : Led} (l : Loner a news) (k : Kept a news news') (h : refIs w x y kk b c news) : refIs w x y kk b c news' := by
  refine refIs.elim h ?_
  intro dy u1 u2 u3 u4 u5 t ll n h1 h2
  exact ⟨dy, u1, u2, u3, u4, u5, t, ll, n, k _ h1 (l.inst _ _ _ h1), k _ h2 (l.dict _ _ h2 ⟨_, _, _, _, _, _, rfl⟩)⟩
theorem RecsAre.kept {w : World} {x a : Addr} {vs : List Value} {rs : List Kv} {news news' : Led} (l : Loner a news) (k : Kept a news news') (h : RecsAre w x news vs rs) : RecsAre w x news' vs rs := All2.imp (fun _ _ ⟨y, e, r⟩ => ⟨y, e, r.kept l k⟩) h
theorem RecsAre.sub {w : World} {x : Addr} {vs : List Value} {rs : List Kv} {news news' : Led} (k : ∀ q ∈ news, q ∈ news') (h : RecsAre w x news vs rs) : RecsAre w x news' vs rs := All2.imp (fun _ _ ⟨y, e, r⟩ => ⟨y, e, r.sub k⟩) h
theorem nodeIs.sub {w : World} {C y le x : Addr} {nt mn mx page par nx : Value} {ec : Addr} {news news' : Led} (k : ∀ q ∈ news, q ∈ news') (h : nodeIs w C y le x nt mn mx ec page par nx news) : nodeIs w C y le x nt mn mx ec page par nx news' := by
  refine nodeIs.elim h ?_
  intro dy u1 u2 u3 u4 u5 u6 u7 u8 u9 n h1 h2
  exact ⟨dy, u1, u2, u3, u4, u5, u6, u7, u8, u9, n, k _ h1, k _ h2⟩
/-- a node of records and a dict of ints, on the ledger -/
structure LeafG (w : World) (C y le x hd : Addr) (c : Cf) (nt mn mx page par nx : Value) (o : Obj) (kvs rs : List Kv) (vs : List Value) (n : Nat) (news : Led) : Prop where
  node : nodeIs w C y le x nt mn mx 260 page par nx news
  ent : (le, lst vs n) ∈ news
  conf : ∃ dx, (x, confObj 169 dx c.vals) ∈ news ∧ (dx, emptyDict) ∈ news ∧ dx ≠ hd
  recs : RecsAre w x news vs rs
  held : (hd, o) ∈ news
  dict : o.IsDictOf (intKind PySem.Challenge.rw_ke0002_02.row.prog w) kvs
  low : (hd == sysModules) = false
/-- the dict holds the rows -/
structure RowsOk (kvs rs : List Kv) : Prop where
  bears : Bears kvs rs
  bytes : ∀ r ∈ rs, ∃ b u, r.2 = .bytes b u
  keys : ∀ r ∈ rs, 0 ≤ r.1 ∧ r.1 < 16
theorem rising_len {rs : List Kv} (h : Rising rs) {a b : Nat} (hb : ∀ r ∈ rs, (a : Int) ≤ r.1 ∧ r.1 < (b : Int)) : rs.length ≤ b - a := by
  induction rs generalizing a with
  | nil => exact Nat.zero_le _
  | cons r rs ih =>
    obtain ⟨h1, h2⟩ := List.pairwise_cons.mp h
    have q := hb r (.head _)
    have := ih (a := r.1.toNat + 1) h2 fun s hs => by
      have p := h1 s hs
      have p' : r.1 < s.1 := p
      have := hb s (.tail _ hs)
      omega
    simp only [List.length_cons]
    omega
theorem RowsOk.short {kvs rs : List Kv} (R : RowsOk kvs rs) : rs.length ≤ 16 := rising_len (a := 0) (b := 16) R.bears.rise R.keys
theorem RowsOk.put {kvs rs : List Kv} (R : RowsOk kvs rs) {k : Int} {b : Array UInt8} {u : Tok} (h : valueAt kvs k = none) (h0 : 0 ≤ k) (h1 : k < 16) : RowsOk (stored kvs k (.bytes b u)) (rs.take (place k rs) ++ (k, .bytes b u) :: rs.drop (place k rs)) :=
  ⟨R.bears.put h, fun r hr => (List.mem_cons.mp (ins_perm.mem_iff.mp hr)).elim (fun e => e ▸ ⟨b, u, rfl⟩) (R.bytes r), fun r hr => (List.mem_cons.mp (ins_perm.mem_iff.mp hr)).elim (fun e => e ▸ ⟨h0, h1⟩) (R.keys r)⟩
theorem mem_del {rs : List Kv} {p : Nat} {r : Kv} (h : r ∈ rs.take p ++ rs.drop (p + 1)) : r ∈ rs := (List.mem_append.mp h).elim List.mem_of_mem_take List.mem_of_mem_drop
theorem RowsOk.take {kvs rs : List Kv} (R : RowsOk kvs rs) {k : Int} {v : Value} (h : valueAt kvs k = some v) : RowsOk (without kvs k) (rs.take (place k rs) ++ rs.drop (place k rs + 1)) :=
  ⟨R.bears.take h, fun r hr => R.bytes r (mem_del hr), fun r hr => R.keys r (mem_del hr)⟩
section
variable {w : World} {C y le x hd : Addr} {c : Cf} {nt mn mx page par nx : Value} {o : Obj} {kvs rs : List Kv} {vs : List Value} {n : Nat} {news news' : Led} {h₀ h : Heap} {L : Addr}
theorem LeafG.cf (S : LeafG w C y le x hd c nt mn mx page par nx o kvs rs vs n news) : confIs x c.vals news := let ⟨dx, h1, h2, _⟩ := S.conf; ⟨dx, h1, h2⟩
theorem LeafG.sub (S : LeafG w C y le x hd c nt mn mx page par nx o kvs rs vs n news) (k : ∀ q ∈ news, q ∈ news') : LeafG w C y le x hd c nt mn mx page par nx o kvs rs vs n news' :=
  ⟨S.node.sub k, k _ S.ent, let ⟨dx, h1, h2, h3⟩ := S.conf; ⟨dx, k _ h1, k _ h2, h3⟩, S.recs.sub k, k _ S.held, S.dict, S.low⟩
theorem LeafG.len (S : LeafG w C y le x hd c nt mn mx page par nx o kvs rs vs n news) : vs.length = rs.length := S.recs.len
theorem LeafG.apart (S : LeafG w C y le x hd c nt mn mx page par nx o kvs rs vs n news) (N : News h₀ L h news) : hd ≠ le := news_ne N S.held S.ent fun e => by
    obtain ⟨es, ep, ⟨hc, _⟩, _⟩ := S.dict
    rw [e] at hc
    exact absurd hc (show ¬Value.type "list" = Value.type "dict" by decide)
/-- the entries turned -/
theorem LeafG.turnE (S : LeafG w C y le x hd c nt mn mx page par nx o kvs rs vs n news) (N : News h₀ L h news) {vs' : List Value} {n' : Nat} (g : Chg le (lst vs' n') news news') {rs' : List Kv} (hr : RecsAre w x news vs' rs') :
    LeafG w C y le x hd c nt mn mx page par nx o kvs rs' vs' n' news' := by
  have l := Loner.list N S.ent
  obtain ⟨dx, h1, h2, h3⟩ := S.conf
  exact ⟨S.node.kept l g.2, g.1, ⟨dx, g.2 _ h1 (l.conf _ _ _ _ h1), g.2 _ h2 (news_ne N h2 S.ent fun e => absurd (congrArg Obj.cls e) (show ¬Value.type "dict" = Value.type "list" by decide)), h3⟩, hr.kept l g.2, g.2 _ S.held (S.apart N), S.dict, S.low⟩
/-- the dict turned -/
theorem LeafG.turnD (S : LeafG w C y le x hd c nt mn mx page par nx o kvs rs vs n news) (N : News h₀ L h news) {o' : Obj} (g : Chg hd o' news news') {kvs' : List Kv} (hd' : o'.IsDictOf (intKind PySem.Challenge.rw_ke0002_02.row.prog w) kvs') :
    LeafG w C y le x hd c nt mn mx page par nx o' kvs' rs vs n news' := by
  have l := Loner.ints N S.held S.dict
  obtain ⟨dx, h1, h2, h3⟩ := S.conf
  exact ⟨S.node.kept l g.2, g.2 _ S.ent (Ne.symm (S.apart N)), ⟨dx, g.2 _ h1 (l.conf _ _ _ _ h1), g.2 _ h2 h3, h3⟩, S.recs.kept l g.2, g.1, hd', S.low⟩
theorem RecsAre.ins {z : Addr} {k : Int} {v : Value} (p : Nat) (h : RecsAre w x news vs rs) (hz : recIs w x z k v news) : RecsAre w x news (vs.take p ++ .ref z :: vs.drop p) (rs.take p ++ (k, v) :: rs.drop p) :=
  All2.append (h.take p) ⟨⟨z, rfl, hz⟩, All2.drop p h⟩
theorem RecsAre.del (p : Nat) (h : RecsAre w x news vs rs) : RecsAre w x news (vs.take p ++ vs.drop (p + 1)) (rs.take p ++ rs.drop (p + 1)) := All2.append (All2.take p h) (All2.drop (p + 1) h)
theorem RowsOk.szl {kvs rs : List Kv} (R : RowsOk kvs rs) : kvs.length ≤ sizeLine := by
  have := R.bears.len
  have := R.short
  rw [sizeLine_eq]; omega
theorem LeafG.lt (S : LeafG w C y le x hd c nt mn mx page par nx o kvs rs vs n news) {kvs0 : List Kv} (R : RowsOk kvs0 rs) {z : Addr} {k : Int} {v : Value} (hz : recIs w x z k v news) (hn : ∀ r ∈ rs, r.1 ≠ k) {i : Nat} {u : Value} (hu : vs[i]? = some u) : LtAt w 260 (.ref z) u (decide (place k rs ≤ i)) news := by
  obtain ⟨r, hr, y', rfl, q⟩ := S.recs.get hu
  refine .ofRec hz q ?_
  have h1 := place_lt R.bears.rise hr (k := k)
  have h2 := hn r (List.mem_of_getElem? hr)
  exact decide_eq_decide.mpr (by omega)
theorem LeafG.inst (S : LeafG w C y le x hd c nt mn mx page par nx o kvs rs vs n news) : ∀ v ∈ vs, ∃ a d od, v = .ref a ∧ (a, instObj 260 d) ∈ news ∧ (d, od) ∈ news := by
  intro v hv
  obtain ⟨i, hi⟩ := List.mem_iff_getElem?.mp hv
  obtain ⟨r, -, y', rfl, dy', u1, u2, u3, u4, u5, t, l, ov, n, q1, q2⟩ := S.recs.get hi
  exact ⟨y', dy', _, rfl, q1, q2⟩
end
end Mine
end

section
open PySem PySem.W PyProof.Rows
/-- between two texts: the walk forgets the lines of the text before, as a fresh process has none -/
theorem Mine.calm82 : ∀ (prog : Program) (w : World) (A : Around) (env : Env) (E : Value → Shared → Prop) (s : Shared) (Q : Flow → Shared → Prop), Q .next s → wpAny (model prog w) A (execs [] env) Q E s := by
  w_top off
  intro prog w A env E s Q h
  walk1
  exact h
end

section
open PySem PySem.W PyProof.Rows PySem.Calls
set_option Elab.async false
set_option linter.unusedSimpArgs false
set_option maxRecDepth 100000
set_option maxHeartbeats 4000000
namespace Mine
--
local macro_rules | `(tactic| k_is) => `(tactic| (rename OneOf _ _ => q9; first | (clear q9; k_is) | ((first | with_reducible refine' OneOf.find4 q9 ?ma ?mb ?mc ?md | with_reducible refine' OneOf.over4 q9 ?ma ?mb ?mc ?md | with_reducible refine' OneOf.taker4 q9 ?ma ?mb ?mc ?md | with_reducible refine' OneOf.dict4 q9 ?ma ?mb ?mc ?md | with_reducible refine' OneOf.plain4 q9 ?ma ?mb ?mc ?md | with_reducible refine' OneOf.seq4 q9 ?ma ?mb ?mc ?md | with_reducible refine' OneOf.mro4 q9 ?ma ?mb ?mc ?md | with_reducible refine' OneOf.sub4 q9 ?ma ?mb ?mc ?md | with_reducible refine' OneOf.inst4 q9 ?ma ?mb ?mc ?md); (case ma => k_is); (case mb => k_is); (case mc => k_is); (case md => k_is)) | ((first | with_reducible refine' OneOf.find2 q9 ?ma ?mb | with_reducible refine' OneOf.over2 q9 ?ma ?mb | with_reducible refine' OneOf.taker2 q9 ?ma ?mb | with_reducible refine' OneOf.dict2 q9 ?ma ?mb | with_reducible refine' OneOf.plain2 q9 ?ma ?mb | with_reducible refine' OneOf.seq2 q9 ?ma ?mb | with_reducible refine' OneOf.mro2 q9 ?ma ?mb | with_reducible refine' OneOf.sub2 q9 ?ma ?mb | with_reducible refine' OneOf.inst2 q9 ?ma ?mb); (case ma => k_is); (case mb => k_is))))
local macro_rules | `(tactic| walk_at "call ref") => `(tactic| refine' Held.out ?_)
local macro_rules | `(tactic| walk_at "eval ListComp") => `(tactic| refine' Held.out ?_)
local macro_rules | `(tactic| walk_at "exec If") => `(tactic| ((with_reducible rename HoldIf => hIf); refine' Held.out ?_))
local macro_rules | `(tactic| walk_at "compareOp NotEq ref ref") => `(tactic| refine' Held.out ?_)
local macro_rules | `(tactic| walk_at "compareOp Eq ref ref") => `(tactic| refine' Held.out ?_)
--
local macro_rules
  | `(tactic| walk_at "subscriptTail") => `(tactic| refine' Held.out ?_)
  | `(tactic| walk_at "subscriptTail Name Slice ref ref") => `(tactic| refine' Held.out ?_)
  | `(tactic| walk_at "call builtin:len") => `(tactic| refine' Held.out ?_)
  | `(tactic| walk_at "subscriptTail Attribute") => `(tactic| k_dflt (refine kba_turn (value' := PySem.Expr.Name (PySem.Str.ofString "_") ⟨0, 0, 0, 0⟩) (fun _ => rfl) ?_))
local macro_rules | `(tactic| walk_at "getMethod ref") => `(tactic| ((with_reducible rename HoldM => hM); refine' Held.out ?_))
local macro_rules
  | `(tactic| walk_at "compareOp In int ref") => `(tactic| refine' Held.out ?_)
  | `(tactic| walk_at "compareOp NotIn int ref") => `(tactic| refine' Held.out ?_)
  | `(tactic| walk_at "truthy ref") => `(tactic| refine' Held.out ?_)
/-- behind the deed's ifs -/
def DeedMid (w : World) (C y le x hd ch L : Addr) (c : Cf) (nt mn mx page par nx : Value) (oH : Obj) (news₀ : Led) (G : Heap → Prop) (X : Heap → Nat → Prop) : Prop :=
  ∀ h₀ h tk m news o kvs rs vs n, (G h₀) → (Fr h₀ L h m) → (News h₀ L h news) → (m "node" = some (.ref y)) → ((ch, oH) ∈ news) → (LeafG w C y le x hd c nt mn mx page par nx o kvs rs vs n news) → (RowsOk kvs rs) → (∀ q ∈ news₀, q.1 ≠ le → q.1 ≠ hd → q ∈ news) → X h tk
theorem fmod5 (i : Int) : i.fmod 5 = 0 ∨ i.fmod 5 = 1 ∨ i.fmod 5 = 2 ∨ i.fmod 5 = 3 ∨ i.fmod 5 = 4 := by
  have h1 := Int.fmod_nonneg_of_pos i (b := 5) (by decide)
  have h2 := Int.fmod_lt_of_pos i (b := 5) (by decide)
  omega
theorem take_all {kvs : List Kv} {i : Nat} {p : Kv} {k : Int} (e : kvs[i]? = some p) : (∀ q ∈ kvs.take (i + 1), q.1 < k) ↔ (∀ q ∈ kvs.take i, q.1 < k) ∧ p.1 < k := by
  rw [List.take_add_one, e]
  constructor
  · exact fun h => ⟨fun q hq => h q (List.mem_append_left _ hq), h p (List.mem_append_right _ (.head _))⟩
  · rintro ⟨h1, h2⟩ q hq
    rcases List.mem_append.mp hq with hq | hq
    · exact h1 q hq
    · simp at hq; subst hq; exact h2
theorem deed (w : World) (C y le x hd : Addr) (c : Cf) (nt mn mx page par nx : Value) (o : Obj) (kvs rs : List Kv) (vs : List Value) (n : Nat) (i : Int) (t : Tok) (hC : OneOf recNode C) (hvz : c.vz = 1) (hks : c.ks = 2) :
    TurnSpec w (call (.ref 712) [.ref x, .ref y, .ref hd, .int i t]) 60 (fun news => LeafG w C y le x hd c nt mn mx page par nx o kvs rs vs n news ∧ RowsOk kvs rs)
    (fun r news news' => r = .bool true ∧ (∃ o' kvs' rs' vs' n', LeafG w C y le x hd c nt mn mx page par nx o' kvs' rs' vs' n' news' ∧ RowsOk kvs' rs') ∧ ∀ q ∈ news, q.1 ≠ le → q.1 ≠ hd → q ∈ news') := by
  unfold TurnSpec
  k_fill
  intro mean mg mb dp un gd cn nms ig ic mo a ccd cl outer A₀ base g₀ h₀ L m news s Q E XB TB gr0 F N hdp hun pre0 post
  obtain ⟨T0, B, X, T, D⟩ := gr0
  obtain ⟨pre, rok⟩ := pre0
  refine wpAny_call ?_
  k_dflt (refine' code_turnC ?k1 ?k2 ?k3 ?k4 ?k5 ?XB ?TB ?D ?T0 ?kA ?kF ?kK ?k6 ?k7 ?k8 ?k9 ?kB ?kD ?_ ?c2 ?c3 ?c4; (case kA => exact rfl); (case kF => exact rfl); (case kK => exact rfl); (case k2 => k_asm); (case k1 => k_asm); (case XB => assumption); (case TB => assumption); (case D => assumption); (case T0 => first | assumption | exact KtsTurn.refl); (case k3 => k_asm); (case k4 => k_asm); (case k5 => k_asm); (case k6 => k_is); (case k7 => k_is); (case k8 => k_room); (case k9 => first | exact BindsTo.of_eq rfl | exact binds_K (by k_in) rfl (by k_is) rfl rfl rfl); (case kB => exact rfl); (case kD => decide +kernel); (case c2 => exact rfl); (case c3 => exact rfl); (case c4 => exact rfl); k_whole; intro g' L' h' tk' cells' FG' F' N' Y' B' X' T' D' l1 Qb hQ; (try k_lt l1); k_cells Y'; (try simp only [List.cons_append, List.nil_append] at N'); (try dsimp only); (try k_lift B'); (try k_fold))
  refine letA ?_
  intro A1
  refine letE ?_
  intro e1
  have hIf : HoldIf := ⟨⟩
  k_steps
  rename News _ _ _ _ => kN
  refine storeX_C (by assumption) kN rfl (.head fun p hp => ?hne) (by assumption) ?_
  case hne =>
    rcases List.mem_cons.mp hp with rfl | hp
    · exact Nat.ne_of_lt (Nat.lt_succ_self _)
    · exact Nat.ne_of_lt (Nat.lt_trans (ktn_ltOf l1 p hp) (Nat.lt_succ_of_lt (Nat.lt_succ_self _)))
  intro h1 ok F1 N1 hok
  dsimp only at hok ⊢
  k_steps
  refine ⟨?_⟩
  with_reducible rename HoldIf => hIf
  clear hIf
  rename Fr _ _ _ _ => kF
  rename News _ _ _ _ => kN2
  rename Heap => hA
  refine gen (fun X => ∀ (m1 : Str → Option Value) (u1 t1 : Tok), (m1 "conf" = some (.ref x)) → (m1 "node" = some (.ref y)) → (m1 "value" = some (.bytes #[((i.fdiv 80).fmod 256).toNat.toUInt8] u1)) → (m1 "deed" = some (.int (i.fmod 5) t1)) → (Fr g' L' hA m1) → X) (fun _ k => k _ _ _ rfl rfl rfl rfl kF) ?_
  intro m1 u1 t1 hmc hmn hmv hmd kF1
  clear kF
  generalize ((i.fdiv 80).fmod 256).toNat.toUInt8 = b1 at hmv
  obtain ⟨tk1, hok⟩ : ∃ t, ok.data = .cell (some (.int ((i.fdiv 5).fmod 16) t)) := ⟨_, hok⟩
  have hk0 : 0 ≤ (i.fdiv 5).fmod 16 := Int.fmod_nonneg_of_pos _ (by decide)
  have hk1 : (i.fdiv 5).fmod 16 < 16 := Int.fmod_lt_of_pos _ (by decide)
  generalize (i.fdiv 5).fmod 16 = k at hok hk0 hk1
  have h5 := fmod5 i
  generalize i.fmod 5 = dd at hmd h5
  refine gen (fun X => ∀ (news1 : Led) (oH : Obj), ((L' + 1 + 1, ok) ∈ news1) → ((L' + 1, oH) ∈ news1) → (oH.data = .cell (some (.ref hd))) → ((∀ q ∈ news, q ∈ news1)) → (News g' L' hA news1) → X) (fun _ k => k _ _ (.tail _ (.head _)) (.tail _ (.tail _ (.head _))) (by assumption) (fun _ h => .tail _ (.tail _ (.tail _ h))) kN2) ?_
  intro news1 oH hcK hcH hoH hsub kN3
  clear kN2
  have G := pre.sub hsub
  have hKne : L' + 1 + 1 ≠ le ∧ L' + 1 + 1 ≠ hd ∧ L' + 1 ≠ le ∧ L' + 1 ≠ hd := by
    have h2 : @LT.lt Nat _ le L' := ktn_ltOf l1 _ pre.ent
    have h3 : @LT.lt Nat _ hd L' := ktn_ltOf l1 _ pre.held
    exact ⟨Nat.ne_of_gt (Nat.lt_succ_of_lt (Nat.lt_succ_of_lt h2)), Nat.ne_of_gt (Nat.lt_succ_of_lt (Nat.lt_succ_of_lt h3)), Nat.ne_of_gt (Nat.lt_succ_of_lt h2), Nat.ne_of_gt (Nat.lt_succ_of_lt h3)⟩
  refine cutG (fun X => DeedMid w C y le x hd (L' + 1) L' c nt mn mx page par nx oH news (Gr w mean mg mb (envX cn ⟨.function, nms, ig, ic, mo⟩ L a ccd cl :: outer) (ktrTop dp un gd cn ⟨.function, nms, ig, ic, mo⟩ L a ccd cl outer) base g') (X .next)) ?main ?rest
  case main =>
    intro Qb hQ
    by_cases h01 : dd = 0 ∨ dd = 1
    · refine wpAny_If (wpAny_mono (Q := fun b s' => Held (b = true ∧ ∃ tk, s' = { s with heap := hA, toks := tk })) ?test (fun b s' hb => ?body) (fun _ _ e => e))
      case test =>
        rcases h01 with rfl | rfl
        · k_steps
          exact ⟨⟨by trivial, _, rfl⟩⟩
        · k_steps
          exact ⟨⟨by trivial, _, rfl⟩⟩
      case body =>
        obtain ⟨rfl, tk2, rfl⟩ := hb.out
        rw [if_pos rfl]
        refine cut (fun X => ∀ h tk m b nw, (Fr g' L' h m) → (News g' L' h nw) → ((∀ q ∈ news1, q ∈ nw)) → (m "least" = some (.bool b)) → ((b = true → ∀ r ∈ rs, r.1 < k)) → (m "conf" = some (.ref x)) → (m "node" = some (.ref y)) → (m "value" = some (.bytes #[b1] u1)) → X h tk) ?asg ?put
        case asg =>
          intro Qb hQ
          rcases h01 with rfl | rfl
          · k_steps
            rename Fr _ _ _ _ => kFs
            rename News _ _ _ _ => kNs
            exact hQ _ _ _ false news1 kFs kNs (fun _ h => h) rfl (fun h => nomatch h) hmc hmn hmv
          · k_steps
            refine ⟨?_⟩
            k_dflt (refine ListComp_dictT (d := hd) (o := o) (kvs := kvs) (by rfl) (by rfl) (by decide) (by rfl) (by decide) (by rfl) ?hit kF1 kN3 G.held G.dict G.low ?hz ?R)
            case hit => k_dflt (refine nameX_C kN3 (by rfl) hcH hoH ⟨rfl, rfl⟩)
            case hz =>
              have := rok.bears.len
              have := rok.short
              omega
            case R =>
              intro g9
              refine comp_restT (fun i ys nw => nw = news1 ∧ ys.length ≤ i ∧ (ys = [] ↔ ∀ p ∈ kvs.take i, p.1 < k)) ⟨rfl, Nat.le_refl _, by simp⟩ ?_ ?_
              · rintro i v ys nw I oI C' oC D m₂ h tk E' hi ⟨kk, tt, hkk, rfl⟩ ⟨rfl, hJl, hJ⟩ hC' hx F' N' off n1 n2 n3
                obtain ⟨p9, hp9, rfl⟩ := Option.map_eq_some_iff.mp hkk
                k_steps
                · refine LCg.CompEnd.intro (by assumption) N' nw (fun _ h => h) off G.held ⟨by trivial, by simpa using hJl, ?_⟩
                  rw [take_all hp9]
                  constructor
                  · intro q; simp at q
                  · rintro ⟨-, q⟩; omega
                · refine LCg.CompEnd.intro (by assumption) N' nw (fun _ h => h) off G.held ⟨by trivial, Nat.le_succ_of_le hJl, ?_⟩
                  rw [take_all hp9, hJ]
                  exact ⟨fun q => ⟨q, by omega⟩, fun q => q.1⟩
              · rintro ys nw ⟨rfl, hJl, hJ⟩ D h tk F' N' o1
                rw [List.take_length] at hJ
                have hkl : kvs.length < 1000 := by
                  have := rok.bears.len
                  have := rok.short
                  omega
                k_steps
                refine ⟨?_⟩
                refine call_len_list (items := ys.toArray) (PySem.IsL.isList (n := ys.length) (N' _ (.head _)).1) (by simp; omega) ?_
                rw [List.size_toArray]
                k_steps
                rename Fr _ _ _ _ => kFs
                rename News _ _ _ _ => kNs
                refine hQ _ _ _ _ _ kFs kNs (fun _ h => .tail _ h) rfl (fun hb r hr => ?_) hmc hmn hmv
                have hy : ys = [] := by simpa using hb
                exact hJ.mp hy _ (rok.bears.perm.mem_iff.mpr hr)
        case put =>
          intro h2 tk3 m2 b nw kF2 kN4 hsub2 hml hlt hmc2 hmn2 hmv2
          have hcK2 := hsub2 _ hcK
          have hcH2 := hsub2 _ hcH
          have G2 := G.sub hsub2
          show wpAny _ _ (execs _ _) _ _ _
          clear kF1 kN3
          have hGr : Gr w mean mg mb (envX cn ⟨.function, nms, ig, ic, mo⟩ L a ccd cl :: outer) (ktrTop dp un gd cn ⟨.function, nms, ig, ic, mo⟩ L a ccd cl outer) base g' g' := ⟨KtsTurn.refl, B', X', T', D'⟩
          k_steps
          refine ⟨?_⟩
          refine wpAny_notIn_of (knd := intKind _ w) (intKind_is _ _ _ _) G2.low (kda_dict kN4 G2.held G2.dict).mapOf ?_
          cases hv : valueAt kvs k with
          | some v =>
            dsimp only [Option.isSome, Bool.not]
            k_steps
            exact hQ _ _ _ _ _ _ _ _ _ _ hGr kF2 kN4 hmn2 hcH2 G2 rok (fun q hq _ _ => hsub2 q (hsub q hq))
          | none =>
            have hno : ∀ r ∈ rs, r.1 ≠ k := fun r hr => rok.bears.absent hv hr
            dsimp only [Option.isSome, Bool.not]
            k_steps
            refine kda_set kF2 (news_rest kN4 G2.held) (.head rest_ne) G2.dict (intKind_is _ _ _ _) rok.szl ?_
            intro h3 o3 kF3 kN5 hd3
            try dsimp only
            have G3 := G2.turnD kN4 (o' := o3) chg_rest hd3
            have hcK3 : (L' + 1 + 1, ok) ∈ (hd, o3) :: rest hd nw := .tail _ (mem_rest hcK2 hKne.2.1)
            have hcH3 : (L' + 1, oH) ∈ (hd, o3) :: rest hd nw := .tail _ (mem_rest hcH2 hKne.2.2.2)
            have hkeep3 : ∀ q ∈ nw, q.1 ≠ hd → q ∈ (hd, o3) :: rest hd nw := fun q hq hn => .tail _ (mem_rest hq hn)
            generalize (hd, o3) :: rest hd nw = nw3 at kN5 G3 hcK3 hcH3 hkeep3
            refine nodeIs.elim G3.node ?_
            intro dy w1 w2 w3 w4 w5 w6 w7 w8 w9 n9 hy1 hy2
            have hend : ∀ (h5 : Heap) (tk5 : Nat) (nw4 nw5 : Led) (vs5 : List Value) (n5 : Nat), News g' L' h3 nw4 ∨ True → Fr g' L' h5 m2 → News g' L' h5 nw5 → (∀ q ∈ nw3, q ∈ nw4) → Chg le (lst vs5 n5) nw4 nw5 →
                LeafG w C y le x hd c nt mn mx page par nx o3 (stored kvs k (.bytes #[b1] u1)) (rs.take (place k rs) ++ (k, .bytes #[b1] u1) :: rs.drop (place k rs)) vs5 n5 nw5 →
                Qb .next { s with heap := h5, toks := tk5 } := by
              intro h5 tk5 nw4 nw5 vs5 n5 _ F5 N5 hsub4 hchg G5
              exact hQ _ _ _ _ nw5 o3 _ _ _ _ hGr F5 N5 hmn2 (hchg.2 _ (hsub4 _ hcH3) hKne.2.2.1) G5 (rok.put hv hk0 hk1) (fun q hq n1 n2 => hchg.2 _ (hsub4 _ (hkeep3 _ (hsub2 _ (hsub _ hq)) n2)) n1)
            cases b with
            | true =>
              have hp := place_last (hlt rfl)
              k_steps
              refine ⟨?_⟩
              refine' TreeSpec.use (rec_make_v w x c k tk1 #[b1] u1) ?mB ?mF ?mX ?mN ?mT ?mhd ?mhu ?mp ?_
              (case mB => k_asm); (case mF => k_asm); (case mX => k_asm); (case mN => k_asm); (case mT => k_asm); (case mhd => first | exact room2 (by assumption) (by rfl) | exact room1 (by assumption) (by rfl) | exact room3 (by assumption) (by rfl) | exact room4 (by assumption) (by rfl) | (simp only [m_dd, m_kd, m_1d, m_md, m_td]; omega) | decide); (case mhu => first | exact room2 (by assumption) (by rfl) | exact room1 (by assumption) (by rfl) | exact room3 (by assumption) (by rfl) | exact room4 (by assumption) (by rfl) | (simp only [m_du, m_ku, m_1u, m_mu, m_tu]; omega) | decide)
              case mp => exact ⟨G3.cf, by rw [hvz]; exact Int.le_refl 1, by rw [hvz]; decide, by rw [hks]; decide, by rw [hks]; decide⟩
              intro r4 tl4 h4 tk4 F4 N4 ap4 hp4
              obtain ⟨z, dz, v1, v2, v3, v4, v5, lz, nz, e1, e2⟩ := hp4
              subst e1 e2
              refine gen (fun X => ∀ nw4, (News g' L' h4 nw4) → ((∀ q ∈ nw3, q ∈ nw4)) → (recIs w x z k (.bytes #[b1] u1) nw4) → X) (fun _ k => k _ N4 (fun _ h => List.mem_append_right _ h) ⟨dz, v1, v2, v3, v4, v5, tk1, _, _, nz, .head _, .tail _ (.head _)⟩) ?_
              intro nw4 N4' hsub4 hz
              clear N4
              have G4 := G3.sub hsub4
              k_steps
              refine ⟨?_⟩
              refine' MutSpec.use (node_append w C y z le x nt mn mx 260 page par nx vs n hC) ?mB ?mF ?mX ?mN ?mT ?mhd ?mhu ?mp ?_
              (case mB => k_asm); (case mF => k_asm); (case mX => k_asm); (case mN => k_asm); (case mT => k_asm); (case mhd => first | exact room2 (by assumption) (by rfl) | exact room1 (by assumption) (by rfl) | exact room3 (by assumption) (by rfl) | exact room4 (by assumption) (by rfl) | (simp only [m_dd, m_kd, m_1d, m_md, m_td]; omega) | decide); (case mhu => first | exact room2 (by assumption) (by rfl) | exact room1 (by assumption) (by rfl) | exact room3 (by assumption) (by rfl) | exact room4 (by assumption) (by rfl) | (simp only [m_du, m_ku, m_1u, m_mu, m_tu]; omega) | decide)
              case mp => exact ⟨G4.node, G4.ent, by rw [G4.len]; have := rok.short; omega⟩
              intro r5 nw5 h5 tk5 F5 N5 hp5
              obtain ⟨e5, hchg⟩ := hp5
              subst e5
              k_steps
              have hr : RecsAre w x nw4 (vs ++ [.ref z]) (rs.take (place k rs) ++ (k, .bytes #[b1] u1) :: rs.drop (place k rs)) := by
                have q := G4.recs.ins (place k rs) hz
                have e1 : vs.take (place k rs) = vs := List.take_of_length_le (by rw [hp, G4.len]; exact Nat.le_refl _)
                have e2 : vs.drop (place k rs) = [] := List.drop_of_length_le (by rw [hp, G4.len]; exact Nat.le_refl _)
                rwa [e1, e2] at q
              exact hend _ _ nw4 nw5 _ _ (.inr trivial) (by assumption) (by assumption) hsub4 hchg (G4.turnE N4' hchg hr)
            | false =>
              k_steps
              refine ⟨?_⟩
              refine' TreeSpec.use (rec_make_v w x c k tk1 #[b1] u1) ?mB ?mF ?mX ?mN ?mT ?mhd ?mhu ?mp ?_
              (case mB => k_asm); (case mF => k_asm); (case mX => k_asm); (case mN => k_asm); (case mT => k_asm); (case mhd => first | exact room2 (by assumption) (by rfl) | exact room1 (by assumption) (by rfl) | exact room3 (by assumption) (by rfl) | exact room4 (by assumption) (by rfl) | (simp only [m_dd, m_kd, m_1d, m_md, m_td]; omega) | decide); (case mhu => first | exact room2 (by assumption) (by rfl) | exact room1 (by assumption) (by rfl) | exact room3 (by assumption) (by rfl) | exact room4 (by assumption) (by rfl) | (simp only [m_du, m_ku, m_1u, m_mu, m_tu]; omega) | decide)
              case mp => exact ⟨G3.cf, by rw [hvz]; exact Int.le_refl 1, by rw [hvz]; decide, by rw [hks]; decide, by rw [hks]; decide⟩
              intro r4 tl4 h4 tk4 F4 N4 ap4 hp4
              obtain ⟨z, dz, v1, v2, v3, v4, v5, lz, nz, e1, e2⟩ := hp4
              subst e1 e2
              refine gen (fun X => ∀ nw4, (News g' L' h4 nw4) → ((∀ q ∈ nw3, q ∈ nw4)) → ((z, instObj 260 dz) ∈ nw4) → ((dz, recDict w v1 v2 v3 v4 v5 x (.int k tk1) (.bytes #[b1] u1) (.int (2 + c.ks + 2 + c.vz + 4) lz) .none nz) ∈ nw4) → X) (fun _ k => k _ N4 (fun _ h => List.mem_append_right _ h) (.head _) (.tail _ (.head _))) ?_
              intro nw4 N4' hsub4 hz1 hz2
              clear N4
              have hz : recIs w x z k (.bytes #[b1] u1) nw4 := ⟨dz, v1, v2, v3, v4, v5, tk1, _, _, nz, hz1, hz2⟩
              have G4 := G3.sub hsub4
              k_steps
              refine ⟨?_⟩
              refine' MutSpec.use (node_insert w C 260 y z le x nt mn mx 260 page par nx vs n (place k rs) (OneOf.two (P := OneOf anyNode) hC (.head _) (.tail _ (.head _))) ⟨.head _⟩) ?mB ?mF ?mX ?mN ?mT ?mhd ?mhu ?mp ?_
              (case mB => k_asm); (case mF => k_asm); (case mX => k_asm); (case mN => k_asm); (case mT => k_asm); (case mhd => first | exact room2 (by assumption) (by rfl) | exact room1 (by assumption) (by rfl) | exact room3 (by assumption) (by rfl) | exact room4 (by assumption) (by rfl) | (simp only [m_dd, m_kd, m_1d, m_md, m_td]; omega) | decide); (case mhu => first | exact room2 (by assumption) (by rfl) | exact room1 (by assumption) (by rfl) | exact room3 (by assumption) (by rfl) | exact room4 (by assumption) (by rfl) | (simp only [m_du, m_ku, m_1u, m_mu, m_tu]; omega) | decide)
              case mp => exact ⟨G4.node, G4.ent, by rw [G4.len]; have := rok.short; omega, by rw [G4.len]; exact place_le _ _, ⟨dz, _, hz1, hz2⟩, G4.inst, fun i v hu => G4.lt rok hz hno hu⟩
              intro r5 nw5 h5 tk5 F5 N5 hp5
              obtain ⟨e5, hchg⟩ := hp5
              subst e5
              k_steps
              exact hend _ _ nw4 nw5 _ _ (.inr trivial) (by assumption) (by assumption) hsub4 hchg (G4.turnE N4' hchg (G4.recs.ins (place k rs) hz))
    · have h5' : dd = 2 ∨ dd = 3 ∨ dd = 4 := by omega
      have hGr : Gr w mean mg mb (envX cn ⟨.function, nms, ig, ic, mo⟩ L a ccd cl :: outer) (ktrTop dp un gd cn ⟨.function, nms, ig, ic, mo⟩ L a ccd cl outer) base g' g' := ⟨KtsTurn.refl, B', X', T', D'⟩
      rcases h5' with rfl | rfl | rfl
      · k_steps
        refine ⟨?_⟩
        refine kda_in kN3 G.held G.dict G.low (intKind_is _ _ _ _) _ rfl ?_
        cases hv : valueAt kvs k with
        | some v =>
          have hrs := rok.bears.there hv
          obtain ⟨bb, ub, rfl⟩ := rok.bytes _ (List.mem_of_getElem? hrs)
          dsimp only [Option.isSome]
          have hM : HoldM := ⟨⟩
          k_steps
          refine ⟨?_⟩
          with_reducible rename HoldM => hM
          clear hM
          rename Fr _ _ _ _ => kF2
          rename News _ _ _ _ => kN4
          refine kob_method PySem.F.slot_dict_pop PySem.F.type_dict_pop kN4 G.held G.dict ?_
          k_steps
          refine kob_pop (knd := intKind _ w) kF2 (news_rest kN4 G.held) (.head rest_ne) G.dict (intKind_is _ _ _ _) (.inl rfl) rfl (PySem.F.args_dict_pop_2 _ _) hv rok.szl ?_
          intro h3 o3 kF3 kN5 hd3
          have G3 := G.turnD kN4 (o' := o3) chg_rest hd3
          have hcK3 : (L' + 1 + 1, ok) ∈ (hd, o3) :: rest hd news1 := .tail _ (mem_rest hcK hKne.2.1)
          have hcH3 : (L' + 1, oH) ∈ (hd, o3) :: rest hd news1 := .tail _ (mem_rest hcH hKne.2.2.2)
          have hkeep3 : ∀ q ∈ news1, q.1 ≠ hd → q ∈ (hd, o3) :: rest hd news1 := fun q hq hn => .tail _ (mem_rest hq hn)
          generalize (hd, o3) :: rest hd news1 = nw3 at kN5 G3 hcK3 hcH3 hkeep3
          k_steps
          refine ⟨?_⟩
          refine' TurnSpec.use (g₀ := g') (ltake_there w C y le x c nt mn mx page par nx vs rs n (place k rs) k tk1 hC) ?mXB ?mTB ?mT0 ?mD ?mB ?mF ?mX ?mN ?mT ?mhd ?mhu ?mp ?_
          (case mB => k_asm); (case mF => k_asm); (case mX => k_asm); (case mN => k_asm); (case mT => k_asm); (case mhd => first | exact room2 (by assumption) (by rfl) | exact room1 (by assumption) (by rfl) | exact room3 (by assumption) (by rfl) | exact room4 (by assumption) (by rfl) | (simp only [m_dd, m_kd, m_1d, m_md, m_td]; omega) | decide); (case mhu => first | exact room2 (by assumption) (by rfl) | exact room1 (by assumption) (by rfl) | exact room3 (by assumption) (by rfl) | exact room4 (by assumption) (by rfl) | (simp only [m_du, m_ku, m_1u, m_mu, m_tu]; omega) | decide)
          (case mXB => assumption); (case mTB => assumption); (case mT0 => first | assumption | exact KtsTurn.refl); (case mD => assumption)
          case mp => exact ⟨G3.node, G3.ent, G3.cf, by rw [G3.len]; have := rok.short; omega, G3.recs, fun i r hr => place_lt rok.bears.rise hr, _, hrs, rfl⟩
          intro r5 nw5 g5 h5 tk5 T5 B5 X5 P5 D5 F5 N5 hp5
          obtain ⟨e5, hchg⟩ := hp5
          subst e5
          k_steps
          exact hQ _ _ _ _ nw5 o3 _ _ _ _ ⟨T5, B5, X5, P5, D5⟩ F5 N5 hmn (hchg.2 _ hcH3 hKne.2.2.1) (G3.turnE kN5 hchg (G3.recs.del _)) (rok.take hv) (fun q hq n1 n2 => hchg.2 _ (hkeep3 _ (hsub _ hq) n2) n1)
        | none =>
          have hno : ∀ r ∈ rs, r.1 ≠ k := fun r hr => rok.bears.absent hv hr
          dsimp only [Option.isSome]
          k_steps
          refine ⟨?_⟩
          refine' TurnSpec.use (g₀ := g') (ltake_absent w C y le x c nt mn mx page par nx vs rs n (place k rs) k tk1 hC) ?mXB ?mTB ?mT0 ?mD ?mB ?mF ?mX ?mN ?mT ?mhd ?mhu ?mp ?_
          (case mB => k_asm); (case mF => k_asm); (case mX => k_asm); (case mN => k_asm); (case mT => k_asm); (case mhd => first | exact room2 (by assumption) (by rfl) | exact room1 (by assumption) (by rfl) | exact room3 (by assumption) (by rfl) | exact room4 (by assumption) (by rfl) | (simp only [m_dd, m_kd, m_1d, m_md, m_td]; omega) | decide); (case mhu => first | exact room2 (by assumption) (by rfl) | exact room1 (by assumption) (by rfl) | exact room3 (by assumption) (by rfl) | exact room4 (by assumption) (by rfl) | (simp only [m_du, m_ku, m_1u, m_mu, m_tu]; omega) | decide)
          (case mXB => assumption); (case mTB => assumption); (case mT0 => first | assumption | exact KtsTurn.refl); (case mD => assumption)
          case mp => exact ⟨G.node, G.ent, G.cf, by rw [G.len]; have := rok.short; omega, G.recs, fun i r hr => place_lt rok.bears.rise hr, by rw [G.len]; exact place_le _ _, fun r hr => hno r (List.mem_of_getElem? hr), hk0, hk1⟩
          intro r5 nw5 g5 h5 tk5 T5 B5 X5 P5 D5 F5 N5 hp5
          obtain ⟨e5, hsub5⟩ := hp5
          subst e5
          k_steps
          exact hQ _ _ _ _ nw5 o _ _ _ _ ⟨T5, B5, X5, P5, D5⟩ F5 N5 hmn (hsub5 _ hcH) (G.sub hsub5) rok (fun q hq _ _ => hsub5 _ (hsub _ hq))
      · cases hv : valueAt kvs k with
        | some v =>
          have hrs := rok.bears.there hv
          obtain ⟨bb, ub, rfl⟩ := rok.bytes _ (List.mem_of_getElem? hrs)
          obtain ⟨va, hva, hrec⟩ : ∃ va, vs[place k rs]? = some (.ref va) ∧ recIs w x va k (.bytes bb ub) news1 := by
            obtain ⟨v', hv'⟩ : ∃ v', vs[place k rs]? = some v' := ⟨vs[place k rs]'(by rw [G.len]; exact (List.getElem?_eq_some_iff.mp hrs).1), by simp⟩
            obtain ⟨r', hr', y', e, q⟩ := G.recs.get hv'
            rw [hrs] at hr'
            cases hr'
            exact ⟨y', e ▸ hv', q⟩
          k_steps
          refine ⟨?_⟩
          refine' TurnSpec.use (g₀ := g') (lget_there w C y le x va c nt mn mx page par nx vs rs n (place k rs) k tk1 bb ub hC hva) ?mXB ?mTB ?mT0 ?mD ?mB ?mF ?mX ?mN ?mT ?mhd ?mhu ?mp ?_
          (case mB => k_asm); (case mF => k_asm); (case mX => k_asm); (case mN => k_asm); (case mT => k_asm); (case mhd => first | exact room2 (by assumption) (by rfl) | exact room1 (by assumption) (by rfl) | exact room3 (by assumption) (by rfl) | exact room4 (by assumption) (by rfl) | (simp only [m_dd, m_kd, m_1d, m_md, m_td]; omega) | decide); (case mhu => first | exact room2 (by assumption) (by rfl) | exact room1 (by assumption) (by rfl) | exact room3 (by assumption) (by rfl) | exact room4 (by assumption) (by rfl) | (simp only [m_du, m_ku, m_1u, m_mu, m_tu]; omega) | decide)
          (case mXB => assumption); (case mTB => assumption); (case mT0 => first | assumption | exact KtsTurn.refl); (case mD => assumption)
          case mp => exact ⟨⟨G.node, G.ent, G.cf, by rw [G.len]; have := rok.short; omega, G.recs, fun i r hr => place_lt rok.bears.rise hr, _, hrs, rfl⟩, hrec⟩
          intro r5 nw5 g5 h5 tk5 T5 B5 X5 P5 D5 F5 N5 hp5
          obtain ⟨e5, hsub5⟩ := hp5
          subst e5
          have G5 := G.sub hsub5
          have hcK5 := hsub5 _ hcK
          have hcH5 := hsub5 _ hcH
          k_steps
          refine ⟨?_⟩
          refine kda_in N5 G5.held G5.dict G5.low (intKind_is _ _ _ _) true (by rw [hv]; rfl) ?_
          k_steps
          refine ⟨?_⟩
          refine kda_item N5 G5.held G5.dict (intKind_is _ _ _ _) hv ?_
          refine ne_bytes ?_
          rw [show (bb.toList != bb.toList) = false by simp]
          k_steps
          exact hQ _ _ _ _ nw5 o _ _ _ _ ⟨T5, B5, X5, P5, D5⟩ F5 N5 hmn hcH5 G5 rok (fun q hq _ _ => hsub5 _ (hsub _ hq))
        | none =>
          have hno : ∀ r ∈ rs, r.1 ≠ k := fun r hr => rok.bears.absent hv hr
          k_steps
          refine ⟨?_⟩
          refine' TurnSpec.use (g₀ := g') (lget_absent w C y le x c nt mn mx page par nx vs rs n (place k rs) k tk1 hC) ?mXB ?mTB ?mT0 ?mD ?mB ?mF ?mX ?mN ?mT ?mhd ?mhu ?mp ?_
          (case mB => k_asm); (case mF => k_asm); (case mX => k_asm); (case mN => k_asm); (case mT => k_asm); (case mhd => first | exact room2 (by assumption) (by rfl) | exact room1 (by assumption) (by rfl) | exact room3 (by assumption) (by rfl) | exact room4 (by assumption) (by rfl) | (simp only [m_dd, m_kd, m_1d, m_md, m_td]; omega) | decide); (case mhu => first | exact room2 (by assumption) (by rfl) | exact room1 (by assumption) (by rfl) | exact room3 (by assumption) (by rfl) | exact room4 (by assumption) (by rfl) | (simp only [m_du, m_ku, m_1u, m_mu, m_tu]; omega) | decide)
          (case mXB => assumption); (case mTB => assumption); (case mT0 => first | assumption | exact KtsTurn.refl); (case mD => assumption)
          case mp => exact ⟨G.node, G.ent, G.cf, by rw [G.len]; have := rok.short; omega, G.recs, fun i r hr => place_lt rok.bears.rise hr, by rw [G.len]; exact place_le _ _, fun r hr => hno r (List.mem_of_getElem? hr), hk0, hk1⟩
          intro r5 nw5 g5 h5 tk5 T5 B5 X5 P5 D5 F5 N5 hp5
          obtain ⟨e5, hsub5⟩ := hp5
          subst e5
          have G5 := G.sub hsub5
          have hcK5 := hsub5 _ hcK
          have hcH5 := hsub5 _ hcH
          k_steps
          refine ⟨?_⟩
          refine kda_in N5 G5.held G5.dict G5.low (intKind_is _ _ _ _) false (by rw [hv]; rfl) ?_
          k_steps
          exact hQ _ _ _ _ nw5 o _ _ _ _ ⟨T5, B5, X5, P5, D5⟩ F5 N5 hmn hcH5 G5 rok (fun q hq _ _ => hsub5 _ (hsub _ hq))
      · k_steps
        have hkl : kvs.length = rs.length := rok.bears.len
        refine ⟨?_⟩
        refine wpAny_truthy_dict (knd := intKind _ w) G.low (kda_dict kN3 G.held G.dict) (by have := rok.short; omega) ?_
        cases rs with
        | nil =>
          have hk9 : kvs = [] := List.eq_nil_of_length_eq_zero hkl
          subst hk9
          k_steps
          exact hQ _ _ _ _ news1 o _ _ _ _ hGr kF1 kN3 hmn hcH G rok (fun q hq _ _ => hsub _ hq)
        | cons r rs =>
          obtain ⟨k0, w0⟩ := r
          obtain ⟨bb, ub, e0⟩ := rok.bytes _ (.head _)
          dsimp only at e0
          subst e0
          have hv : valueAt kvs k0 = some (.bytes bb ub) := rok.bears.value (.head _)
          have hpos : 0 < kvs.length := by rw [hkl]; exact Nat.succ_pos _
          have he : kvs.isEmpty = false := by
            cases kvs with
            | nil => cases hpos
            | cons _ _ => rfl
          obtain ⟨va, vs', rfl, hrec⟩ : ∃ va vs', vs = .ref va :: vs' ∧ recIs w x va k0 (.bytes bb ub) news1 := by
            have q := G.recs
            cases vs with
            | nil => exact q.elim
            | cons v vs' =>
              obtain ⟨⟨va, e, q⟩, -⟩ := q
              exact ⟨va, vs', by rw [e], q⟩
          refine nodeIs.elim G.node ?_
          intro dy w1 w2 w3 w4 w5 w6 w7 w8 w9 n9 hy1 hy2
          have hsh := rok.short
          rw [he]
          dsimp only [Bool.not]
          k_steps
          refine dict_min (by rfl) kF1 kN3 G.held G.dict G.low hpos ?_
          intro h3 M tM tk3 kF3 kN4 hM hMl
          have e1 := rok.bears.first hM hMl
          dsimp only at e1
          subst e1
          k_steps
          rename News _ _ _ _ => kN6
          refine ⟨?_⟩
          refine' MutSpec.use (node_pop w C y va le x nt mn mx 260 page par nx vs' n (OneOf.two (P := OneOf anyNode) hC (.head _) (.tail _ (.head _)))) ?mB ?mF ?mX ?mN ?mT ?mhd ?mhu ?mp ?_
          (case mB => k_asm); (case mF => k_asm); (case mX => k_asm); (case mN => k_asm); (case mT => k_asm); (case mhd => first | exact room2 (by assumption) (by rfl) | exact room1 (by assumption) (by rfl) | exact room3 (by assumption) (by rfl) | exact room4 (by assumption) (by rfl) | (simp only [m_dd, m_kd, m_1d, m_md, m_td]; omega) | decide); (case mhu => first | exact room2 (by assumption) (by rfl) | exact room1 (by assumption) (by rfl) | exact room3 (by assumption) (by rfl) | exact room4 (by assumption) (by rfl) | (simp only [m_du, m_ku, m_1u, m_mu, m_tu]; omega) | decide)
          case mp => exact ⟨G.node, G.ent, by rw [G.len]; omega⟩
          intro r5 nw5 h5 tk5 F5 N5 hp5
          obtain ⟨e5, hchg⟩ := hp5
          subst e5
          have l5 := Loner.list kN6 G.ent
          have G5 := G.turnE kN6 hchg (rs' := rs) (vs' := vs') G.recs.2
          have hcK5 := hchg.2 _ hcK hKne.1
          have hcH5 := hchg.2 _ hcH hKne.2.2.1
          obtain ⟨dz, v1, v2, v3, v4, v5, tz, lz, ov, nz, hz1, hz2⟩ := hrec.kept l5 hchg.2
          have hMm : HoldM := ⟨⟩
          k_steps
          refine ⟨?_⟩
          with_reducible rename HoldM => hMm
          clear hMm
          rename News _ _ _ _ => kN7
          rename Fr _ _ _ _ => kF7
          rename Addr => ta
          with_reducible rename AllLt ta nw5 => lta
          have hta : ta ≠ hd := Ne.symm (Nat.ne_of_lt (ktn_ltOf lta _ G5.held))
          try dsimp only
          refine kob_method PySem.F.slot_dict_pop PySem.F.type_dict_pop kN7 (.tail _ G5.held) G5.dict ?_
          k_steps
          refine kob_pop (knd := intKind _ w) kF7 (news_rest kN7 (.tail _ G5.held)) (.head rest_ne) G5.dict (intKind_is _ _ _ _) (.inl rfl) rfl (PySem.F.args_dict_pop_2 _ _) hv rok.szl ?_
          intro h8 o8 kF8 kN8 hd8
          try dsimp only
          have G8 := (G5.sub fun _ h => .tail _ h).turnD kN7 (o' := o8) chg_rest hd8
          have htup : (ta, tup [.int M tz, .bytes bb ub]) ∈ (hd, o8) :: rest hd ((ta, tup [.int M tz, .bytes bb ub]) :: nw5) := .tail _ (mem_rest (.head _) hta)
          have hcK8 : (L' + 1 + 1, ok) ∈ (hd, o8) :: rest hd ((ta, tup [.int M tz, .bytes bb ub]) :: nw5) := .tail _ (mem_rest (.tail _ hcK5) hKne.2.1)
          have hcH8 : (L' + 1, oH) ∈ (hd, o8) :: rest hd ((ta, tup [.int M tz, .bytes bb ub]) :: nw5) := .tail _ (mem_rest (.tail _ hcH5) hKne.2.2.2)
          have hkeep8 : ∀ q ∈ nw5, q.1 ≠ hd → q ∈ (hd, o8) :: rest hd ((ta, tup [.int M tz, .bytes bb ub]) :: nw5) := fun q hq n => .tail _ (mem_rest (.tail _ hq) n)
          replace kN8 : News g' L' h8 ((hd, o8) :: rest hd ((ta, tup [.int M tz, .bytes bb ub]) :: nw5)) := kN8
          generalize (hd, o8) :: rest hd ((ta, tup [.int M tz, .bytes bb ub]) :: nw5) = nw8 at kN8 G8 htup hcK8 hcH8 hkeep8
          k_steps
          rename News _ _ _ _ => kN9
          rename Fr _ _ _ _ => kF9
          refine ⟨?_⟩
          refine ne_same (n := 0) (T := "tuple") (xs := [.int M tz, .bytes bb ub]) (ys := [.int M _, .bytes bb ub]) kN9 (.inl rfl) (.tail _ htup) (.head _) rfl pair_same (by k_units) ?_
          k_steps
          have hpl : place M ((M, .bytes bb ub) :: rs) = 0 := place_first
          have rok8 := rok.take hv
          rw [hpl] at rok8
          exact hQ _ _ _ _ _ o8 _ _ _ _ hGr kF9 kN9 hmn (.tail _ hcH8) (G8.sub fun _ h => .tail _ h) rok8 (fun q hq n1 n2 => .tail _ (hkeep8 _ (hchg.2 _ (hsub _ hq) n1) n2))
  case rest =>
    intro g2 h2 tk2 m2 nw o2 kvs2 rs2 vs2 n2 zq0 kF2 kN4 hmn2 hcH2 G2 rok2 hkeep2
    obtain ⟨T2, B2, X2, P2, D2⟩ := zq0
    show wpAny _ _ (execs _ _) _ _ _
    clear kF1 kN3 hmn hmc hmv hmd hcH hcK G hsub hKne rok pre h5 hok hk0 hk1
    refine nodeIs.elim G2.node ?_
    intro dy w1 w2 w3 w4 w5 w6 w7 w8 w9 n9 hy1 hy2
    k_steps
    refine ⟨?_⟩
    refine' TreeSpec.use (lrecs w le x vs2 rs2 n2 rok2.bytes) ?mB ?mF ?mX ?mN ?mT ?mhd ?mhu ?mp ?_
    (case mB => k_asm); (case mF => k_asm); (case mX => k_asm); (case mN => k_asm); (case mT => k_asm); (case mhd => first | exact room2 (by assumption) (by rfl) | exact room1 (by assumption) (by rfl) | exact room3 (by assumption) (by rfl) | exact room4 (by assumption) (by rfl) | (simp only [m_dd, m_kd, m_1d, m_md, m_td]; omega) | decide); (case mhu => first | exact room2 (by assumption) (by rfl) | exact room1 (by assumption) (by rfl) | exact room3 (by assumption) (by rfl) | exact room4 (by assumption) (by rfl) | (simp only [m_du, m_ku, m_1u, m_mu, m_tu]; omega) | decide)
    case mp => exact ⟨G2.ent, by rw [G2.len]; have := rok2.short; omega, G2.recs⟩
    intro r5 tl5 h5 tk5 F5 N5 ap5 hp5
    obtain ⟨D5, us, e5, hD5, hP5⟩ := hp5
    subst e5
    refine gen (fun X => ∀ nw5, (News g2 L' h5 nw5) → ((∀ q ∈ nw, q ∈ nw5)) → (∀ q ∈ tl5, q ∈ nw5) → X) (fun _ k => k _ N5 (fun _ h => List.mem_append_right _ h) (fun _ h => List.mem_append_left _ h)) ?_
    intro nw5 N5' hsub5 htl5
    clear N5
    have G5 := G2.sub hsub5
    have hcH5 := hsub5 _ hcH2
    k_steps
    refine ⟨?_⟩
    k_dflt (refine LCg.ListComp_U F5 (by rfl) (by decide) (by rfl) (by decide) (by rfl) ?_)
    k_steps
    refine dict_sorted (by rfl) F5 N5' G5.held G5.dict G5.low (by have := rok2.bears.len; have := rok2.short; omega) ?_
    intro B6 h6 tk6 c6 vs6 ns6 F6 N6 l6 hI6 hp6 ho6
    have e6 := rok2.bears.sorted hp6 ho6
    subst e6
    have hl6 : vs6.length = rs2.length := by
      have := hI6.length
      rw [List.length_map] at this
      omega
    k_dflt (refine LCg.CompSrc.ledger (by rfl) F6 N6 (.head _) (by rw [List.size_toArray, sizeLine_eq, hl6]; have := rok2.short; omega) ?_)
    intro g9
    refine comp_rest (fun i ys nw => ∃ tl, nw = tl ++ ((B6, _) :: nw5) ∧ PairsAre tl ys (rs2.take i)) ⟨[], rfl, trivial⟩ ?_ ?_
    · rintro i v ys nw I oI C' oC D m₂ h tk E' hi hv ⟨tl, rfl, hp⟩ hC' hx F' N' off n1 n2 n3
      obtain ⟨kk, tt, rfl, hkk⟩ := hI6.at i v (by simpa using hv)
      obtain ⟨r, hr, rfl⟩ : ∃ r, rs2[i]? = some r ∧ r.1 = kk := by
        rw [List.getElem?_map] at hkk
        exact Option.map_eq_some_iff.mp hkk
      obtain ⟨k0, w0⟩ := r
      obtain ⟨bb, ub, e0⟩ := rok2.bytes _ (List.mem_of_getElem? hr)
      dsimp only at e0
      subst e0
      have hv' : valueAt kvs2 k0 = some (.bytes bb ub) := rok2.bears.value (List.mem_of_getElem? hr)
      have hcH6 : (L' + 1, oH) ∈ tl ++ ((B6, { cls := .type "list", data := .seq vs6.toArray c6 }) :: nw5) := List.mem_append_right _ (.tail _ hcH5)
      k_steps
      refine ⟨?_⟩
      refine kda_item N' (.tail _ (.tail _ (.tail _ (List.mem_append_right _ (.tail _ G5.held))))) G5.dict (intKind_is _ _ _ _) hv' ?_
      try dsimp only
      k_steps
      with_reducible rename _ ∧ _ ∧ _ ∧ AllLt _ _ => l9
      rename News _ _ _ _ => kN9
      refine comp_end1 (by assumption) kN9 off l9 (.inr ⟨_, .tail _ (List.mem_append_right _ (.head _)), rfl, _, rfl⟩) ⟨_ :: tl, rfl, ?_⟩
      exact (hp.mono fun q hq => .tail _ hq).snoc hr (.head _)
    · rintro ys nw ⟨tl, rfl, hp⟩ D h tk F' N' o1
      rw [List.take_of_length_le (by rw [List.size_toArray, hl6]; exact Nat.le_refl _)] at hp
      refine gen (fun X => ∀ nw7, (News g2 L' h nw7) → ((∀ q ∈ nw5, q ∈ nw7)) → ((D, LCg.lst ys) ∈ nw7) → (∀ q ∈ tl, q ∈ nw7) → X) (fun _ k => k _ N' (fun _ h => .tail _ (List.mem_append_right _ (.tail _ h))) (.head _) (fun _ h => .tail _ (List.mem_append_left _ h))) ?_
      intro nw7 N7 hsub7 hD7 hP7
      clear N'
      have G7 := G5.sub hsub7
      have hcH7 := hsub7 _ hcH5
      k_steps
      refine ⟨?_⟩
      obtain ⟨hq1, hq2⟩ := pairs_same (news := nw7) hP5 hp (fun q hq => hsub7 _ (htl5 _ hq)) hP7
      refine eq_same (n := 1) (T := "list") N7 (.inr rfl) (hsub7 _ (htl5 _ hD5)) hD7 hq1 hq2 (by k_units) ?_
      have hz1 := hsub7 _ (hsub5 _ hy1)
      have hz2 := hsub7 _ (hsub5 _ hy2)
      have hlk : vs2.length = kvs2.length := G2.len.trans rok2.bears.len.symm
      have hsh := rok2.short
      have hbl := rok2.bears.len
      k_steps
      rename News _ _ _ _ => kN8
      refine ⟨?_⟩
      refine call_len_list (items := vs2.toArray) (PySem.IsL.isList (n := n2) (kN8 _ G7.ent).1) (by rw [List.size_toArray]; omega) ?_
      rw [List.size_toArray, hlk]
      k_steps
      rename News _ _ _ _ => kN9
      refine ⟨?_⟩
      refine kda_len kN9 G7.held G7.dict G7.low (by omega) ?_
      k_steps
      refine hQ _ _ ?_
      k_steps
      refine' post _ _ _ _ _ ⟨?zt, ?zb, ?zx, ?zp, ?zd⟩ ?zf ?zn ⟨by rw [beq_self_eq_true], ⟨o2, kvs2, rs2, vs2, n2, G7, rok2⟩, fun q hq n1 n2 => hsub7 _ (hsub5 _ (hkeep2 q hq n1 n2))⟩
      (case zf => assumption); (case zn => assumption); (case zb => assumption); (case zt => first | assumption | exact KtsTurn.refl); (case zx => assumption); (case zp => assumption); (case zd => assumption)
end Mine
end

section
open PySem PySem.W PyProof.Rows
/-- between two texts: the walk forgets the lines of the text before, as a fresh process has none -/
theorem Mine.calm84 : ∀ (prog : Program) (w : World) (A : Around) (env : Env) (E : Value → Shared → Prop) (s : Shared) (Q : Flow → Shared → Prop), Q .next s → wpAny (model prog w) A (execs [] env) Q E s := by
  w_top off
  intro prog w A env E s Q h
  walk1
  exact h
end

section
open PySem PySem.W PyProof.Rows PySem.Calls
set_option Elab.async false
set_option linter.unusedSimpArgs false
set_option maxRecDepth 100000
set_option maxHeartbeats 4000000
namespace Mine
--
local macro_rules | `(tactic| k_is) => `(tactic| (rename OneOf _ _ => q9; first | (clear q9; k_is) | ((first | with_reducible refine' OneOf.find4 q9 ?ma ?mb ?mc ?md | with_reducible refine' OneOf.over4 q9 ?ma ?mb ?mc ?md | with_reducible refine' OneOf.taker4 q9 ?ma ?mb ?mc ?md | with_reducible refine' OneOf.dict4 q9 ?ma ?mb ?mc ?md | with_reducible refine' OneOf.plain4 q9 ?ma ?mb ?mc ?md | with_reducible refine' OneOf.seq4 q9 ?ma ?mb ?mc ?md | with_reducible refine' OneOf.mro4 q9 ?ma ?mb ?mc ?md | with_reducible refine' OneOf.sub4 q9 ?ma ?mb ?mc ?md | with_reducible refine' OneOf.inst4 q9 ?ma ?mb ?mc ?md); (case ma => k_is); (case mb => k_is); (case mc => k_is); (case md => k_is)) | ((first | with_reducible refine' OneOf.find2 q9 ?ma ?mb | with_reducible refine' OneOf.over2 q9 ?ma ?mb | with_reducible refine' OneOf.taker2 q9 ?ma ?mb | with_reducible refine' OneOf.dict2 q9 ?ma ?mb | with_reducible refine' OneOf.plain2 q9 ?ma ?mb | with_reducible refine' OneOf.seq2 q9 ?ma ?mb | with_reducible refine' OneOf.mro2 q9 ?ma ?mb | with_reducible refine' OneOf.sub2 q9 ?ma ?mb | with_reducible refine' OneOf.inst2 q9 ?ma ?mb); (case ma => k_is); (case mb => k_is))))
local macro_rules | `(tactic| walk_at "call ref") => `(tactic| refine' Held.out ?_)
local macro_rules
  | `(tactic| walk_at "setAttr ref") => `(tactic| refine' Held.out ?_)
theorem conv_leaf (w : World) (y le x : Addr) (c : Cf) (nt mn mx : Value) (page : Int) (t : Tok) (par nx : Value) (C : Addr) (hC : OneOf recNode C) :
    MutSpec w (call (.ref 515) [.ref y]) 40
    (fun news => nodeIs w C y le x nt mn mx 260 (.int page t) par nx news ∧ confIs x c.vals news ∧ 1 ≤ c.od)
    (fun r news news' => (∃ z nt' mn' v3, r = .ref z ∧ nodeIs w 540 z le x nt' mn' (.int (c.od - 1) v3) 260 (.int page t) .none .none news') ∧ ∀ q ∈ news, q ∈ news') := by
  unfold MutSpec
  k_fill
  intro mean mg mb dp un gd cn nms ig ic mo a ccd cl outer A₀ base h₀ L m news s Q E B F X N T hdp hun pre0 post
  obtain ⟨hnode, hc, hod⟩ := pre0
  refine nodeIs.elim hnode ?_
  intro dy u1 u2 u3 u4 u5 u6 u7 u8 u9 n9 hm hm'
  refine wpAny_call ?_
  k_dflt (refine' code_own ?k1 ?k2 ?k3 ?k4 ?k5 ?kA ?kF ?kK ?k6 ?k7 ?k8 ?k9 ?kB ?_ ?c5 ?c2 ?c3 ?c4; (case kA => exact rfl); (case kF => exact rfl); (case kK => exact rfl); (case k2 => k_asm); (case k1 => k_asm); (case k3 => k_asm); (case k4 => k_asm); (case k5 => k_asm); (case k6 => k_is); (case k7 => k_is); (case k8 => k_room); (case k9 => first | exact binds_K (by k_in) rfl (by k_is) rfl rfl rfl | exact BindsTo.of_eq rfl); (case kB => exact locs rfl); (case c5 => decide); (case c2 => exact rfl); (case c3 => exact rfl); (case c4 => exact rfl); k_whole; intro g' L' h' FG' F' N' B' X' T' Qb hQ; (try dsimp only); (try k_lift B'); (try k_fold))
  refine letA ?_
  intro A1
  refine letE ?_
  intro e1
  k_steps
  refine ⟨?_⟩
  refine' MutSpec.use (mk_LeafNode1 w x c page t) ?mB ?mF ?mX ?mN ?mT ?mhd ?mhu ?mp ?_
  case mB => k_asm
  case mF => k_asm
  case mX => k_asm
  case mN => k_asm
  case mT => k_asm
  case mhd => first | exact room2 (by assumption) (by rfl) | exact room1 (by assumption) (by rfl) | exact room3 (by assumption) (by rfl) | exact room4 (by assumption) (by rfl) | (simp only [m_dd, m_kd, m_1d, m_md, m_td]; omega) | decide
  case mhu => first | exact room2 (by assumption) (by rfl) | exact room1 (by assumption) (by rfl) | exact room3 (by assumption) (by rfl) | exact room4 (by assumption) (by rfl) | (simp only [m_du, m_ku, m_1u, m_mu, m_tu]; omega) | decide
  case mp => exact ⟨hc, hod⟩
  intro r1 nw1 h1 tk1 F1 N1 hp1
  obtain ⟨⟨z, dz, le0, nt1, mn1, mx1, w1, w2, w3, w4, w5, w6, w7, w8, w9, n1, e1, hz1, hz2, hl, hne, -, v1, v2, v3, e2, e3, e4⟩, hsub⟩ := hp1
  subst e1 e2 e3 e4
  replace hz1 : (z, instObj 540 dz) ∈ rest dz nw1 := mem_rest hz1 (news_ne N1 hz1 hz2 fun e => nomatch congrArg Obj.cls e)
  have hkeep : ∀ q ∈ news, q ∈ rest dz nw1 := fun q hq => mem_rest (hsub q hq) (hne q hq)
  replace N1 := news_rest N1 hz2
  have hy1 := hkeep _ hm
  have hy2 := hkeep _ hm'
  clear hm hm' hz2 hl
  k_steps
  rename News _ _ _ _ => kN6
  rename Fr _ _ _ _ => kF6
  refine ⟨?_⟩
  refine' set_dict (dx := dz) (news' := (dz, nodeDict w w1 w2 w3 w4 w5 w6 w7 w8 w9 x _ _ _ 260 le (.int page t) .none .none n1) :: rest dz nw1) kF6 ?k2 kN6 (InstAt.of_news kN6 (.tail _ hz1) (.head _)) rfl ?k6 ?k7 ?k8 ?k9 rfl rfl (.head rest_ne) (Nat.le_of_ble_eq_true rfl) ?_
  case k2 => k_asm
  case k6 => k_is
  case k7 => k_is
  case k8 => k_is
  case k9 => k_is
  intro h5 F5 N5
  k_steps
  refine hQ _ _ ?_
  k_steps
  exact post _ _ _ _ (by assumption) (by assumption) ⟨⟨z, _, _, v3, rfl, dz, w1, w2, w3, w4, w5, w6, w7, w8, w9, n1, .tail _ hz1, .head _⟩, fun q hq => .tail _ (hkeep q hq)⟩
theorem conv_inner (w : World) (y le x : Addr) (c : Cf) (nt mn mx : Value) (page : Int) (t : Tok) (par nx : Value) (C : Addr) (hC : OneOf refNode C) :
    MutSpec w (call (.ref 604) [.ref y]) 40
    (fun news => nodeIs w C y le x nt mn mx 301 (.int page t) par nx news ∧ confIs x c.vals news ∧ 1 ≤ c.od)
    (fun r news news' => (∃ z nt' mn' v3, r = .ref z ∧ nodeIs w 629 z le x nt' mn' (.int c.od v3) 301 (.int page t) .none .none news') ∧ ∀ q ∈ news, q ∈ news') := by
  unfold MutSpec
  k_fill
  intro mean mg mb dp un gd cn nms ig ic mo a ccd cl outer A₀ base h₀ L m news s Q E B F X N T hdp hun pre0 post
  obtain ⟨hnode, hc, hod⟩ := pre0
  refine nodeIs.elim hnode ?_
  intro dy u1 u2 u3 u4 u5 u6 u7 u8 u9 n9 hm hm'
  refine wpAny_call ?_
  k_dflt (refine' code_own ?k1 ?k2 ?k3 ?k4 ?k5 ?kA ?kF ?kK ?k6 ?k7 ?k8 ?k9 ?kB ?_ ?c5 ?c2 ?c3 ?c4; (case kA => exact rfl); (case kF => exact rfl); (case kK => exact rfl); (case k2 => k_asm); (case k1 => k_asm); (case k3 => k_asm); (case k4 => k_asm); (case k5 => k_asm); (case k6 => k_is); (case k7 => k_is); (case k8 => k_room); (case k9 => first | exact binds_K (by k_in) rfl (by k_is) rfl rfl rfl | exact BindsTo.of_eq rfl); (case kB => exact locs rfl); (case c5 => decide); (case c2 => exact rfl); (case c3 => exact rfl); (case c4 => exact rfl); k_whole; intro g' L' h' FG' F' N' B' X' T' Qb hQ; (try dsimp only); (try k_lift B'); (try k_fold))
  refine letA ?_
  intro A1
  refine letE ?_
  intro e1
  k_steps
  refine ⟨?_⟩
  refine' MutSpec.use (mk_InternalNode w x c page t) ?mB ?mF ?mX ?mN ?mT ?mhd ?mhu ?mp ?_
  case mB => k_asm
  case mF => k_asm
  case mX => k_asm
  case mN => k_asm
  case mT => k_asm
  case mhd => first | exact room2 (by assumption) (by rfl) | exact room1 (by assumption) (by rfl) | exact room3 (by assumption) (by rfl) | exact room4 (by assumption) (by rfl) | (simp only [m_dd, m_kd, m_1d, m_md, m_td]; omega) | decide
  case mhu => first | exact room2 (by assumption) (by rfl) | exact room1 (by assumption) (by rfl) | exact room3 (by assumption) (by rfl) | exact room4 (by assumption) (by rfl) | (simp only [m_du, m_ku, m_1u, m_mu, m_tu]; omega) | decide
  case mp => exact ⟨hc, hod⟩
  intro r1 nw1 h1 tk1 F1 N1 hp1
  obtain ⟨⟨z, dz, le0, nt1, mn1, mx1, w1, w2, w3, w4, w5, w6, w7, w8, w9, n1, e1, hz1, hz2, hl, hne, -, v1, v2, v3, e2, e3, e4⟩, hsub⟩ := hp1
  subst e1 e2 e3 e4
  replace hz1 : (z, instObj 629 dz) ∈ rest dz nw1 := mem_rest hz1 (news_ne N1 hz1 hz2 fun e => nomatch congrArg Obj.cls e)
  have hkeep : ∀ q ∈ news, q ∈ rest dz nw1 := fun q hq => mem_rest (hsub q hq) (hne q hq)
  replace N1 := news_rest N1 hz2
  have hy1 := hkeep _ hm
  have hy2 := hkeep _ hm'
  clear hm hm' hz2 hl
  k_steps
  rename News _ _ _ _ => kN6
  rename Fr _ _ _ _ => kF6
  refine ⟨?_⟩
  refine' set_dict (dx := dz) (news' := (dz, nodeDict w w1 w2 w3 w4 w5 w6 w7 w8 w9 x _ _ _ 301 le (.int page t) .none .none n1) :: rest dz nw1) kF6 ?k2 kN6 (InstAt.of_news kN6 (.tail _ hz1) (.head _)) rfl ?k6 ?k7 ?k8 ?k9 rfl rfl (.head rest_ne) (Nat.le_of_ble_eq_true rfl) ?_
  case k2 => k_asm
  case k6 => k_is
  case k7 => k_is
  case k8 => k_is
  case k9 => k_is
  intro h5 F5 N5
  k_steps
  refine hQ _ _ ?_
  k_steps
  exact post _ _ _ _ (by assumption) (by assumption) ⟨⟨z, _, _, v3, rfl, dz, w1, w2, w3, w4, w5, w6, w7, w8, w9, n1, .tail _ hz1, .head _⟩, fun q hq => .tail _ (hkeep q hq)⟩
end Mine
end

section
open PySem PySem.W PyProof.Rows
/-- between two texts: the walk forgets the lines of the text before, as a fresh process has none -/
theorem Mine.calm86 : ∀ (prog : Program) (w : World) (A : Around) (env : Env) (E : Value → Shared → Prop) (s : Shared) (Q : Flow → Shared → Prop), Q .next s → wpAny (model prog w) A (execs [] env) Q E s := by
  w_top off
  intro prog w A env E s Q h
  walk1
  exact h
end

section
open PySem PySem.W PyProof.Rows PySem.Calls
set_option Elab.async false
set_option linter.unusedSimpArgs false
set_option maxRecDepth 100000
set_option maxHeartbeats 4000000
namespace Mine
--
local macro_rules | `(tactic| walk_at "call ref") => `(tactic| refine' Held.out ?_)
local macro_rules | `(tactic| walk_at "eval ListComp") => `(tactic| refine' Held.out ?_)
local macro_rules
  | `(tactic| walk_at "subscriptTail") => `(tactic| refine' Held.out ?_)
  | `(tactic| walk_at "subscriptTail Name Slice ref ref") => `(tactic| refine' Held.out ?_)
  | `(tactic| walk_at "call builtin:len") => `(tactic| refine' Held.out ?_)
  | `(tactic| walk_at "subscriptTail Attribute") => `(tactic| k_dflt (refine kba_turn (value' := PySem.Expr.Name (PySem.Str.ofString "_") ⟨0, 0, 0, 0⟩) (fun _ => rfl) ?_))
abbrev Tri := Int × Int × Int
/-- the row of references with these keys, befores and afters -/
def RefRow (w : World) (x : Addr) (news : Led) : List Value → List Tri → Prop := All2 fun v r => ∃ a t1 t2, v = .ref a ∧ refIs w x a r.1 (.int r.2.1 t1) (.int r.2.2 t2) news
theorem RefRow.sub {w : World} {x : Addr} {a b : Led} (s : ∀ q ∈ a, q ∈ b) {vs : List Value} {rs : List Tri} (h : RefRow w x a vs rs) : RefRow w x b vs rs := All2.imp (fun _ _ ⟨y, t1, t2, e, m⟩ => ⟨y, t1, t2, e, m.sub s⟩) h
/-- triples of a key and two pages -/
def TripsAre (news : Led) : List Value → List Tri → Prop := All2 fun v r => ∃ a t1 t2 t3, v = .ref a ∧ (a, tup [.int r.1 t1, .int r.2.1 t2, .int r.2.2 t3]) ∈ news
theorem TripsAre.mono {a b : Led} (h : ∀ q ∈ a, q ∈ b) {us : List Value} {rs : List Tri} (p : TripsAre a us rs) : TripsAre b us rs := All2.imp (fun _ _ ⟨x, t1, t2, t3, e, m⟩ => ⟨x, t1, t2, t3, e, h _ m⟩) p
theorem TripsAre.snoc {a : Led} {us : List Value} {rs : List Tri} {i : Nat} {x : Addr} {t1 t2 t3 : Tok} {r : Tri} (p : TripsAre a us (rs.take i)) (e : rs[i]? = some r) (hm : (x, tup [.int r.1 t1, .int r.2.1 t2, .int r.2.2 t3]) ∈ a) : TripsAre a (us ++ [.ref x]) (rs.take (i + 1)) := by
  rw [List.take_add_one, e]
  exact All2.append p ⟨⟨x, t1, t2, t3, rfl, hm⟩, trivial⟩
/-- two rows of triples with one content -/
theorem trips_same {a b news : Led} {us ys : List Value} {rs : List Tri} (p : TripsAre a us rs) (q : TripsAre b ys rs) (ha : ∀ x ∈ a, x ∈ news) (hb : ∀ x ∈ b, x ∈ news) :
    us.length = ys.length ∧ ∀ (i : Nat) x y, us[i]? = some x → ys[i]? = some y → SameN news 1 x y := by
  refine ⟨p.len.trans q.len.symm, fun i x y e f => ?_⟩
  obtain ⟨r, hr, z1, t1, t2, t3, rfl, m1⟩ := p.get e
  obtain ⟨r', hr', z2, u1, u2, u3, rfl, m2⟩ := q.get f
  rw [hr] at hr'
  cases hr'
  unfold SameN
  exact .inr ⟨z1, z2, _, _, 0, 0, "tuple", rfl, rfl, .inl rfl, ha _ m1, hb _ m2, rfl, ints_same (ks := [r.1, r.2.1, r.2.2]) (.cons _ _ (.cons _ _ (.cons _ _ .nil))) (.cons _ _ (.cons _ _ (.cons _ _ .nil)))⟩
theorem lrefs (w : World) (le x : Addr) (vs : List Value) (rs : List Tri) (n : Nat) :
    TreeSpec w (call (.ref 702) [.ref le]) 12 (fun news => (le, lst vs n) ∈ news ∧ vs.length < 1000 ∧ RefRow w x news vs rs)
    (fun r news tl => ∃ D us, r = .ref D ∧ (D, lst us us.length) ∈ tl ∧ TripsAre tl us rs) := by
  unfold TreeSpec
  k_fill
  intro mean mg mb dp un gd cn nms ig ic mo a ccd cl outer A₀ base h₀ L m news s Q E B F X N T hdp hun pre0 post
  obtain ⟨hle, hlen, hrs⟩ := pre0
  refine wpAny_call ?_
  k_dflt (refine' code_own ?k1 ?k2 ?k3 ?k4 ?k5 ?kA ?kF ?kK ?k6 ?k7 ?k8 ?k9 ?kB ?_ ?c5 ?c2 ?c3 ?c4; (case kA => exact rfl); (case kF => exact rfl); (case kK => exact rfl); (case k2 => k_asm); (case k1 => k_asm); (case k3 => k_asm); (case k4 => k_asm); (case k5 => k_asm); (case k6 => k_is); (case k7 => k_is); (case k8 => k_room); (case k9 => first | exact binds_K (by k_in) rfl (by k_is) rfl rfl rfl | exact BindsTo.of_eq rfl); (case kB => exact locs rfl); (case c5 => decide); (case c2 => exact rfl); (case c3 => exact rfl); (case c4 => exact rfl); k_whole; intro g' L' h' FG' F' N' B' X' T' Qb hQ; (try dsimp only); (try k_lift B'); (try k_fold))
  refine letA ?_
  intro A1
  refine letE ?_
  intro e1
  k_steps
  refine ⟨?_⟩
  rename Fr _ _ _ _ => kF
  rename News _ _ _ _ => kN
  k_dflt (refine LCg.ListComp_U kF (by rfl) (by decide) (by rfl) (by decide) (by rfl) ?_)
  k_dflt (refine ld kF (by rfl) ?_)
  k_dflt (refine LCg.CompSrc.ledger (by rfl) kF kN hle (by size_fits) ?_)
  intro g9
  refine comp_rest (fun i ys nw => ∃ tl, nw = tl ++ news ∧ Apart tl news ∧ TripsAre tl ys (rs.take i)) ⟨[], rfl, Apart.nil, trivial⟩ ?_ ?_
  · rintro i v ys nw I oI C oC D m₂ h tk E' hi hv ⟨tl, rfl, ap, hp⟩ hC hx F' N' off n1 n2 n3
    obtain ⟨r, hr, y, tb, tc, rfl, hrec⟩ := hrs.get (i := i) (by simpa using hv)
    obtain ⟨dy, u1, u2, u3, u4, u5, t, l, n9, q1, q2⟩ := hrec
    have q1' : (y, instObj 301 dy) ∈ tl ++ news := List.mem_append_right _ q1
    have q2' : (dy, refDict w u1 u2 u3 u4 u5 x l (.int r.1 t) (.int r.2.1 tb) (.int r.2.2 tc) n9) ∈ tl ++ news := List.mem_append_right _ q2
    k_steps
    with_reducible rename _ ∧ _ ∧ _ ∧ AllLt _ _ => l9
    rename News _ _ _ _ => kN9
    refine comp_end1 (by assumption) kN9 off l9 (.inr ⟨_, .tail _ (List.mem_append_right _ hle), rfl, _, rfl⟩) ⟨_ :: tl, rfl, Apart.cons (fun q hq => Nat.ne_of_lt (ktn_ltOf l9.2.2.2 q (List.mem_append_right _ hq))) ap, ?_⟩
    exact (hp.mono fun q hq => .tail _ hq).snoc hr (.head _)
  · rintro ys nw ⟨tl, rfl, ap, hp⟩ D h tk F' N' o1
    rw [List.take_of_length_le (by rw [← hrs.len]; simp)] at hp
    k_steps
    refine hQ _ _ ?_
    k_steps
    exact post _ (_ :: tl) _ _ (by assumption) (by assumption) (Apart.cons (fun q hq => off1_ne o1 q (List.mem_append_right _ hq)) ap) ⟨D, ys, rfl, .head _, hp.mono fun q hq => .tail _ hq⟩
/-- the row that _law_row makes -/
def Row (ks pg : List Int) : List Tri := ks.zip (pg.zip (pg.drop 1))
theorem Row.get {ks pg : List Int} {i : Nat} {k b c : Int} (h1 : ks[i]? = some k) (h2 : pg[i]? = some b) (h3 : pg[i + 1]? = some c) : (Row ks pg)[i]? = some (k, b, c) := by
  unfold Row
  rw [List.getElem?_zip_eq_some]
  refine ⟨h1, ?_⟩
  rw [List.getElem?_zip_eq_some]
  exact ⟨h2, by rw [List.getElem?_drop, Nat.add_comm]; exact h3⟩
theorem Row.len {ks pg : List Int} (h : ks.length < pg.length) : (Row ks pg).length = ks.length := by
  unfold Row
  simp
  omega
theorem lrow (w : World) (dk dg : Addr) (vk vp : List Value) (ks pg : List Int) (nk np : Nat) :
    TurnSpec w (call (.ref 707) [.ref dk, .ref dg]) 12 (fun news => (dk, lst vk nk) ∈ news ∧ (dg, lst vp np) ∈ news ∧ IntsAre vk ks ∧ IntsAre vp pg ∧ vk.length < vp.length ∧ vp.length < 1000)
    (fun r news news' => ∃ D us, r = .ref D ∧ (D, lst us us.length) ∈ news' ∧ TripsAre news' us (Row ks pg) ∧ ∀ q ∈ news, q ∈ news') := by
  unfold TurnSpec
  k_fill
  intro mean mg mb dp un gd cn nms ig ic mo a ccd cl outer A₀ base g₀ h₀ L m news s Q E XB TB gr0 F N hdp hun pre0 post
  obtain ⟨T0, B, X, T, D⟩ := gr0
  obtain ⟨hk, hp, hI, hJ, hlt, hlen⟩ := pre0
  refine wpAny_call ?_
  k_dflt (refine' code_turnC ?k1 ?k2 ?k3 ?k4 ?k5 ?XB ?TB ?D ?T0 ?kA ?kF ?kK ?k6 ?k7 ?k8 ?k9 ?kB ?kD ?_ ?c2 ?c3 ?c4; (case kA => exact rfl); (case kF => exact rfl); (case kK => exact rfl); (case k2 => k_asm); (case k1 => k_asm); (case XB => assumption); (case TB => assumption); (case D => assumption); (case T0 => first | assumption | exact KtsTurn.refl); (case k3 => k_asm); (case k4 => k_asm); (case k5 => k_asm); (case k6 => k_is); (case k7 => k_is); (case k8 => k_room); (case k9 => first | exact BindsTo.of_eq rfl | exact binds_K (by k_in) rfl (by k_is) rfl rfl rfl); (case kB => exact rfl); (case kD => decide +kernel); (case c2 => exact rfl); (case c3 => exact rfl); (case c4 => exact rfl); k_whole; intro g' L' h' tk' cells' FG' F' N' Y' B' X' T' D' l1 Qb hQ; (try k_lt l1); k_cells Y'; (try simp only [List.cons_append, List.nil_append] at N'); (try dsimp only); (try k_lift B'); (try k_fold))
  refine letA ?_
  intro A1
  refine letE ?_
  intro e1
  rename Obj => oP
  have hoP : oP.data = .cell (some (.ref dg)) := by assumption
  have hks : vk.length = ks.length := hI.length
  have hpg : vp.length = pg.length := hJ.length
  k_steps
  refine ⟨?_⟩
  k_dflt (refine comp_enum (l := dk) (vs := vk) (n := nk) (news := (L' + 1, oP) :: news) (h₀ := g') (L := L') (fun i ys nw => ∃ tl, nw = tl ++ ((L' + 1, oP) :: news) ∧ TripsAre tl ys ((Row ks pg).take i)) (by assumption) (by rfl) (by rfl) (by decide) (by rfl) (by decide) (by rfl) (by rfl) (by decide) ?hz ?hit ?hl ⟨[], rfl, trivial⟩ ?turn ?done)
  case hz =>
    rw [sizeLine_eq]
    omega
  case hl =>
    rintro i ys nw ⟨tl, rfl, -⟩
    exact List.mem_append_right _ (.tail _ hk)
  case hit =>
    k_steps
    exact call_enum (by assumption) (by assumption) (.tail _ hk)
  case turn =>
    rintro i v t ys nw e oe it oi C oC D2 m₂ h tk E' hv ⟨tl, rfl, hq⟩ hC ha hb F2 N2 off
    obtain ⟨kk, tt, rfl, hkk⟩ := hI.at i v hv
    have hi : i < vk.length := (List.getElem?_eq_some_iff.mp hv).1
    obtain ⟨v1, hv1⟩ : ∃ v1, vp[i]? = some v1 := ⟨vp[i]'(by omega), List.getElem?_eq_getElem _⟩
    obtain ⟨v2, hv2⟩ : ∃ v2, vp[i + 1]? = some v2 := ⟨vp[i + 1]'(by omega), List.getElem?_eq_getElem _⟩
    obtain ⟨bb, tb, rfl, hbb⟩ := hJ.at i v1 hv1
    obtain ⟨cc, tc, rfl, hcc⟩ := hJ.at (i + 1) v2 hv2
    have hoPm : (L' + 1, oP) ∈ tl ++ ((L' + 1, oP) :: news) := List.mem_append_right _ (.head _)
    k_steps
    refine ⟨?_⟩
    rename News _ _ _ _ => kN5
    refine item_at kN5 (.tail _ (.tail _ (.tail _ (.tail _ (List.mem_append_right _ (.tail _ hp)))))) hv1 hlen ?_
    k_steps
    refine ⟨?_⟩
    rename News _ _ _ _ => kN6
    rw [show (i : Int) + 1 = ((i + 1 : Nat) : Int) by omega]
    refine item_at kN6 (.tail _ (.tail _ (.tail _ (.tail _ (List.mem_append_right _ (.tail _ hp)))))) hv2 hlen ?_
    k_steps
    rename News _ _ _ _ => kN9
    with_reducible rename _ ∧ _ ∧ _ ∧ _ ∧ AllLt _ _ => l9
    exact enum_end1 (by assumption) kN9 off ⟨l9.1, l9.2.1, l9.2.2.1, l9.2.2.2.1⟩ ⟨_ :: tl, rfl, (hq.mono fun q h => .tail _ h).snoc (Row.get hkk hbb hcc) (.head _)⟩
  case done =>
    rintro ys nw D2 h tk ⟨tl, rfl, hq⟩ F2 N2 off
    rw [List.take_of_length_le (by rw [Row.len (by omega)]; omega)] at hq
    k_steps
    refine hQ _ _ ?_
    k_steps
    refine' post _ ((D2, lst ys ys.length) :: (tl ++ ((L' + 1, oP) :: news))) _ _ _ ⟨?zt, ?zb, ?zx, ?zp, ?zd⟩ ?zf ?zn ⟨D2, ys, rfl, .head _, hq.mono fun q hq => .tail _ (List.mem_append_left _ hq), fun q hq => .tail _ (List.mem_append_right _ (.tail _ hq))⟩
    (case zf => assumption); (case zn => assumption); (case zb => assumption); (case zt => first | assumption | exact KtsTurn.refl); (case zx => assumption); (case zp => assumption); (case zd => assumption)
end Mine
end

section
open PySem PySem.W PyProof.Rows
/-- between two texts: the walk forgets the lines of the text before, as a fresh process has none -/
theorem Mine.calm88 : ∀ (prog : Program) (w : World) (A : Around) (env : Env) (E : Value → Shared → Prop) (s : Shared) (Q : Flow → Shared → Prop), Q .next s → wpAny (model prog w) A (execs [] env) Q E s := by
  w_top off
  intro prog w A env E s Q h
  walk1
  exact h
end

section
open PySem PySem.W PyProof.Rows PySem.Calls
set_option Elab.async false
set_option linter.unusedSimpArgs false
set_option maxRecDepth 100000
set_option maxHeartbeats 4000000
namespace Mine
/-- no object of nine names -/
def Not9 (o : Obj) : Prop := ∀ es n, o = dictOf es n → es.length ≠ 9
theorem not9_list (vs : List Value) (n : Nat) : Not9 (lst vs n) := fun _ _ e => absurd (congrArg Obj.cls e) (show ¬Value.type "list" = Value.type "dict" by decide)
theorem not9_tup (vs : List Value) : Not9 (tup vs) := fun _ _ e => absurd (congrArg Obj.cls e) (show ¬Value.type "tuple" = Value.type "dict" by decide)
theorem not9_inst (C dy : Addr) : Not9 (instObj C dy) := fun _ _ e => nomatch congrArg Obj.cls e
theorem not9_dict {es : List DictEntry} {n : Nat} (h : es.length ≠ 9) : Not9 (dictOf es n) := fun es' n' e => by
  obtain ⟨h1, -⟩ := Data.dict.inj (congrArg Obj.data e)
  have h2 := congrArg Array.size h1
  simp at h2
  omega
theorem confIs.kept9 {x : Addr} {vals : List Value} {news news' : Led} (k : ∀ q ∈ news, Not9 q.2 → q ∈ news') (h : confIs x vals news) : confIs x vals news' := by
  obtain ⟨dx, h1, h2⟩ := h
  exact ⟨dx, k _ h1 (fun _ _ e => nomatch congrArg Obj.cls e), k _ h2 (not9_dict (es := []) (n := 0) (by decide))⟩
theorem confIs.sub {x : Addr} {vals : List Value} {a b : Led} (h : confIs x vals a) (s : ∀ q ∈ a, q ∈ b) : confIs x vals b := Exists.elim h fun dx q => ⟨dx, s _ q.1, s _ q.2⟩
theorem refIs.kept9 {w : World} {x y : Addr} {k : Int} {v u : Value} {a b : Led} (s : ∀ q ∈ a, Not9 q.2 → q ∈ b) (h : refIs w x y k v u a) : refIs w x y k v u b :=
  refIs.elim h fun dy u1 u2 u3 u4 u5 t l n q1 q2 => ⟨dy, u1, u2, u3, u4, u5, t, l, n, s _ q1 (not9_inst _ _), s _ q2 (not9_dict (show (5 : Nat) ≠ 9 by decide))⟩
theorem recIs.kept9 {w : World} {x y : Addr} {k : Int} {v : Value} {a b : Led} (s : ∀ q ∈ a, Not9 q.2 → q ∈ b) (h : recIs w x y k v a) : recIs w x y k v b :=
  recIs.elim h fun dy u1 u2 u3 u4 u5 t l o n q1 q2 => ⟨dy, u1, u2, u3, u4, u5, t, l, o, n, s _ q1 (not9_inst _ _), s _ q2 (not9_dict (show (5 : Nat) ≠ 9 by decide))⟩
theorem RefRow.kept9 {w : World} {x : Addr} {vs : List Value} {rs : List (Int × Int × Int)} {news news' : Led} (k : ∀ q ∈ news, Not9 q.2 → q ∈ news') (h : RefRow w x news vs rs) : RefRow w x news' vs rs :=
  All2.imp (fun _ _ h => ex3 h fun y t1 t2 q => ⟨y, t1, t2, q.1, q.2.kept9 k⟩) h
end Mine
end

section
open PySem PySem.W PyProof.Rows
/-- between two texts: the walk forgets the lines of the text before, as a fresh process has none -/
theorem Mine.calm90 : ∀ (prog : Program) (w : World) (A : Around) (env : Env) (E : Value → Shared → Prop) (s : Shared) (Q : Flow → Shared → Prop), Q .next s → wpAny (model prog w) A (execs [] env) Q E s := by
  w_top off
  intro prog w A env E s Q h
  walk1
  exact h
end

section
open PySem PySem.W PyProof.Rows PySem.Calls
set_option Elab.async false
set_option linter.unusedSimpArgs false
set_option maxRecDepth 100000
set_option maxHeartbeats 4000000
namespace Mine
--
local macro_rules | `(tactic| k_is) => `(tactic| (rename OneOf _ _ => q9; first | (clear q9; k_is) | ((first | with_reducible refine' OneOf.find4 q9 ?ma ?mb ?mc ?md | with_reducible refine' OneOf.over4 q9 ?ma ?mb ?mc ?md | with_reducible refine' OneOf.taker4 q9 ?ma ?mb ?mc ?md | with_reducible refine' OneOf.dict4 q9 ?ma ?mb ?mc ?md | with_reducible refine' OneOf.plain4 q9 ?ma ?mb ?mc ?md | with_reducible refine' OneOf.seq4 q9 ?ma ?mb ?mc ?md | with_reducible refine' OneOf.mro4 q9 ?ma ?mb ?mc ?md | with_reducible refine' OneOf.sub4 q9 ?ma ?mb ?mc ?md | with_reducible refine' OneOf.inst4 q9 ?ma ?mb ?mc ?md); (case ma => k_is); (case mb => k_is); (case mc => k_is); (case md => k_is)) | ((first | with_reducible refine' OneOf.find2 q9 ?ma ?mb | with_reducible refine' OneOf.over2 q9 ?ma ?mb | with_reducible refine' OneOf.taker2 q9 ?ma ?mb | with_reducible refine' OneOf.dict2 q9 ?ma ?mb | with_reducible refine' OneOf.plain2 q9 ?ma ?mb | with_reducible refine' OneOf.seq2 q9 ?ma ?mb | with_reducible refine' OneOf.mro2 q9 ?ma ?mb | with_reducible refine' OneOf.sub2 q9 ?ma ?mb | with_reducible refine' OneOf.inst2 q9 ?ma ?mb); (case ma => k_is); (case mb => k_is))))
local macro_rules | `(tactic| walk_at "call ref") => `(tactic| refine' Held.out ?_)
local macro_rules | `(tactic| walk_at "eval ListComp") => `(tactic| refine' Held.out ?_)
local macro_rules | `(tactic| walk_at "exec If") => `(tactic| ((with_reducible rename HoldIf => hIf); refine' Held.out ?_))
local macro_rules | `(tactic| walk_at "compareOp NotEq ref ref") => `(tactic| refine' Held.out ?_)
local macro_rules | `(tactic| walk_at "compareOp Eq ref ref") => `(tactic| refine' Held.out ?_)
--
local macro_rules
  | `(tactic| walk_at "subscriptTail") => `(tactic| refine' Held.out ?_)
  | `(tactic| walk_at "subscriptTail Name Slice ref ref") => `(tactic| refine' Held.out ?_)
  | `(tactic| walk_at "call builtin:len") => `(tactic| refine' Held.out ?_)
  | `(tactic| walk_at "subscriptTail Attribute") => `(tactic| k_dflt (refine kba_turn (value' := PySem.Expr.Name (PySem.Str.ofString "_") ⟨0, 0, 0, 0⟩) (fun _ => rfl) ?_))
theorem Loner.iter {h₀ h : Heap} {L I : Addr} {oI : Obj} {news : Led} (N : News h₀ L h news) (hm : (I, oI) ∈ news) (hc : oI.cls = .type "list_iterator") : Loner I news where
  inst := fun _ _ _ q => news_ne N q hm fun e => by rw [← e] at hc; cases hc
  dict := fun _ _ q ⟨_, _, _, _, _, _, e⟩ => news_ne N q hm fun e' => by
    rw [← e', e] at hc
    exact absurd hc (show ¬Value.type "dict" = Value.type "list_iterator" by decide)
  conf := fun _ _ _ _ q => news_ne N q hm fun e => by rw [← e] at hc; cases hc
section
variable {w : World} {C y le x hd : Addr} {c : Cf} {nt mn mx page par nx : Value} {o : Obj} {kvs rs : List Kv} {vs : List Value} {n : Nat} {news news' : Led} {h₀ h : Heap} {L : Addr}
/-- the loop's iterator goes off the ledger -/
theorem LeafG.drop (S : LeafG w C y le x hd c nt mn mx page par nx o kvs rs vs n news) (N : News h₀ L h news) {I : Addr} {oI : Obj} (hm : (I, oI) ∈ news) (hc : oI.cls = .type "list_iterator") : LeafG w C y le x hd c nt mn mx page par nx o kvs rs vs n (rest I news) := by
  have l := Loner.iter N hm hc
  have k : Kept I news (rest I news) := fun q hq n => mem_rest hq n
  obtain ⟨dx, h1, h2, h3⟩ := S.conf
  refine ⟨S.node.kept l k, k _ S.ent (news_ne N S.ent hm fun e => ?_), ⟨dx, k _ h1 (l.conf _ _ _ _ h1), k _ h2 (news_ne N h2 hm fun e => ?_), h3⟩, S.recs.kept l k, k _ S.held (news_ne N S.held hm fun e => ?_), S.dict, S.low⟩
  · rw [← e] at hc
    exact absurd hc (show ¬Value.type "list" = Value.type "list_iterator" by decide)
  · rw [← e] at hc
    exact absurd hc (show ¬Value.type "dict" = Value.type "list_iterator" by decide)
  · obtain ⟨es, ep, ⟨hcd, _⟩, _⟩ := S.dict
    rw [e, hc] at hcd
    exact absurd hcd (show ¬Value.type "list_iterator" = Value.type "dict" by decide)
end
theorem RecsAre.kept9 {w : World} {x : Addr} {vs : List Value} {rs : List Kv} {news news' : Led} (k : ∀ q ∈ news, Not9 q.2 → q ∈ news') (h : RecsAre w x news vs rs) : RecsAre w x news' vs rs :=
  All2.imp (fun _ _ h => Exists.elim h fun y q => ⟨y, q.1, q.2.kept9 k⟩) h
theorem PairsAre.kept9 {vs : List Value} {rs : List Kv} {news news' : Led} (k : ∀ q ∈ news, Not9 q.2 → q ∈ news') (h : PairsAre news vs rs) : PairsAre news' vs rs :=
  All2.imp (fun _ _ ⟨a, t, e, m⟩ => ⟨a, t, e, k _ m (not9_tup _)⟩) h
/-- behind the node's making -/
def LvMade (w : World) (x D L : Addr) (c : Cf) (g : Heap) (news : Led) (X : Heap → Nat → Prop) : Prop :=
  ∀ C y dy le nt mn mx u1 u2 u3 u4 u5 u6 u7 u8 u9 n9 nx t5 b h tk m nw, (Fr g L h m) → (News g L h nw) → (OneOf recNode C) → ((y, instObj C dy) ∈ nw) → ((dy, nodeDict w u1 u2 u3 u4 u5 u6 u7 u8 u9 x nt mn mx 260 le (.int 5 t5) .none nx n9) ∈ nw) → ((le, lst [] 0) ∈ nw) → ((∀ q ∈ news, q ∈ nw)) → ((∀ q ∈ news, q.1 ≠ le)) → (m "lonely" = some (.bool b)) → (m "node" = some (.ref y)) → (m "conf" = some (.ref x)) → (m "script" = some (.ref D)) → ((if b = true then C = 518 else ∃ t9, nx = .int 9 t9)) → X h tk
/-- what stands in every turn of the loop -/
def LvJ (w : World) (C y le x hd ch D : Addr) (c : Cf) (nt mn mx page par nx : Value) (oc : Obj) (b : Bool) (vs : List Value) (n : Nat) (news : Led) (_ : Nat) (m : Str → Option Value) (nw : Led) : Prop :=
  m "lonely" = some (.bool b) ∧ m "node" = some (.ref y) ∧ m "conf" = some (.ref x) ∧ (D, lst vs n) ∈ nw ∧ (ch, oc) ∈ nw ∧ (∃ o kvs rs vs' n', LeafG w C y le x hd c nt mn mx page par nx o kvs rs vs' n' nw ∧ RowsOk kvs rs) ∧ ∀ q ∈ news, q ∈ nw
theorem leaves (w : World) (x D : Addr) (c : Cf) (vs : List Value) (ns : List Int) (n : Nat) (hvz : c.vz = 1) (hks : c.ks = 2) (hod : 1 ≤ c.od) :
    TurnSpec w (call (.ref 717) [.ref x, .ref D]) 80 (fun news => confIs x c.vals news ∧ (D, lst vs n) ∈ news ∧ IntsAre vs ns ∧ vs.length < 100)
    (fun r news news' => r = .bool true ∧ ∀ q ∈ news, Not9 q.2 → q ∈ news') := by
  unfold TurnSpec
  k_fill
  intro mean mg mb dp un gd cn nms ig ic mo a ccd cl outer A₀ base g₀ h₀ L m news s Q E XB TB gr0 F N hdp hun pre0 post
  obtain ⟨T0, B, X, T, D0⟩ := gr0
  obtain ⟨hc, hD, hI, hl⟩ := pre0
  refine wpAny_call ?_
  k_dflt (refine' code_turnC ?k1 ?k2 ?k3 ?k4 ?k5 ?XB ?TB ?D ?T0 ?kA ?kF ?kK ?k6 ?k7 ?k8 ?k9 ?kB ?kD ?_ ?c2 ?c3 ?c4; (case kA => exact rfl); (case kF => exact rfl); (case kK => exact rfl); (case k2 => k_asm); (case k1 => k_asm); (case XB => assumption); (case TB => assumption); (case D => assumption); (case T0 => first | assumption | exact KtsTurn.refl); (case k3 => k_asm); (case k4 => k_asm); (case k5 => k_asm); (case k6 => k_is); (case k7 => k_is); (case k8 => k_room); (case k9 => first | exact BindsTo.of_eq rfl | exact binds_K (by k_in) rfl (by k_is) rfl rfl rfl); (case kB => exact rfl); (case kD => decide +kernel); (case c2 => exact rfl); (case c3 => exact rfl); (case c4 => exact rfl); k_whole; intro g' L' h' tk' cells' FG' F' N' Y' B' X' T' D' l1 Qb hQ; (try k_lt l1); k_cells Y'; (try simp only [List.cons_append, List.nil_append] at N'); (try dsimp only); (try k_lift B'); (try k_fold))
  refine letA ?_
  intro A1
  refine letE ?_
  intro e1
  rename Obj => oH
  with_reducible rename AllLt _ _ => l1
  refine gen (fun X => ∀ news1, (News g' L' h' news1) → ((∀ q ∈ news, q ∈ news1)) → ((L' + 1, oH) ∈ news1) → (confIs x c.vals news1) → ((D, lst vs n) ∈ news1) → X) (fun _ k => k _ N' (fun _ h => .tail _ h) (.head _) (hc.sub fun _ h => .tail _ h) (.tail _ hD)) ?_
  intro news1 kN hkeep hcH hc1 hD1
  refine cut (fun X => ∀ b tk hh m1, (Fr g' L' hh m1) → (News g' L' hh news1) → (m1 "lonely" = some (.bool b)) → (m1 "conf" = some (.ref x)) → (m1 "script" = some (.ref D)) → X hh tk) ?lon ?rest1
  case lon =>
    intro Qb hQ
    clear N'
    k_steps
    refine ⟨?_⟩
    refine call_len_list (items := vs.toArray) (PySem.IsL.isList (n := n) (kN _ hD1).1) (by simp; omega) ?_
    rw [List.size_toArray]
    k_steps
    exact hQ _ _ _ _ (by assumption) (by assumption) rfl rfl rfl
  case rest1 =>
    intro b tk1 h1 m1 F1 N1 hml hmc hms
    show wpAny _ _ (execs _ _) _ _ _
    clear N' F' kN
    refine cut (fun X => LvMade w x D L' c g' news1 X) ?made ?rest2
    case made =>
      intro Qb hQ
      cases b with
      | true =>
        k_steps
        refine ⟨?_⟩
        refine' MutSpec.use (mk_LonelyRootNode w x c 5 _) ?mB ?mF ?mX ?mN ?mT ?mhd ?mhu ?mp ?_
        (case mB => k_asm); (case mF => k_asm); (case mX => k_asm); (case mN => k_asm); (case mT => k_asm); (case mhd => first | exact room2 (by assumption) (by rfl) | exact room1 (by assumption) (by rfl) | exact room3 (by assumption) (by rfl) | exact room4 (by assumption) (by rfl) | (simp only [m_dd, m_kd, m_1d, m_md, m_td]; omega) | decide); (case mhu => first | exact room2 (by assumption) (by rfl) | exact room1 (by assumption) (by rfl) | exact room3 (by assumption) (by rfl) | exact room4 (by assumption) (by rfl) | (simp only [m_du, m_ku, m_1u, m_mu, m_tu]; omega) | decide)
        case mp => exact ⟨hc1, hod⟩
        intro r2 nw2 h2 tk2 F2 N2 hp2
        refine Made.elim hp2 ?_
        intro y dy le nt mn mx u1 u2 u3 u4 u5 u6 u7 u8 u9 n9 e2 q1 q2 q3 q4 q5 zm22 q6
        clear zm22
        subst e2
        k_steps
        rename Fr _ _ _ _ => kF3
        rename News _ _ _ _ => kN3
        exact hQ _ y dy le nt mn mx u1 u2 u3 u4 u5 u6 u7 u8 u9 n9 _ _ true _ _ _ nw2 kF3 kN3 (.head _) q1 q2 q3 q6 q5 hml rfl hmc hms (by rw [if_pos rfl])
      | false =>
        k_steps
        refine ⟨?_⟩
        refine' MutSpec.use (mk_LeafNode w x c 5 _ _) ?mB ?mF ?mX ?mN ?mT ?mhd ?mhu ?mp ?_
        (case mB => k_asm); (case mF => k_asm); (case mX => k_asm); (case mN => k_asm); (case mT => k_asm); (case mhd => first | exact room2 (by assumption) (by rfl) | exact room1 (by assumption) (by rfl) | exact room3 (by assumption) (by rfl) | exact room4 (by assumption) (by rfl) | (simp only [m_dd, m_kd, m_1d, m_md, m_td]; omega) | decide); (case mhu => first | exact room2 (by assumption) (by rfl) | exact room1 (by assumption) (by rfl) | exact room3 (by assumption) (by rfl) | exact room4 (by assumption) (by rfl) | (simp only [m_du, m_ku, m_1u, m_mu, m_tu]; omega) | decide)
        case mp => exact ⟨hc1, hod⟩
        intro r2 nw2 h2 tk2 F2 N2 hp2
        refine Made.elim hp2 ?_
        intro y dy le nt mn mx u1 u2 u3 u4 u5 u6 u7 u8 u9 n9 e2 q1 q2 q3 q4 q5 zm22 q6
        clear zm22
        subst e2
        k_steps
        rename Fr _ _ _ _ => kF3
        rename News _ _ _ _ => kN3
        exact hQ _ y dy le nt mn mx u1 u2 u3 u4 u5 u6 u7 u8 u9 n9 _ _ false _ _ _ nw2 kF3 kN3 (.tail _ (.head _)) q1 q2 q3 q6 q5 hml rfl hmc hms (by rw [if_neg (by decide)]; exact ⟨_, rfl⟩)
    case rest2 =>
      intro C y dy le nt mn mx u1 u2 u3 u4 u5 u6 u7 u8 u9 n9 nx t5 b h2 tk2 m2 nw2 F2 N2 hC q1 q2 q3 q6 q5 hml2 hmn2 hmc2 hms2 hnx
      show wpAny _ _ (execs _ _) _ _ _
      clear N1 F1
      have hcH2 := q6 _ hcH
      clear hml hmc hms
      k_steps
      rename News _ _ _ _ => kN3
      rename Fr _ _ _ _ => kF3
      rename Obj => oD
      rename Addr => hd
      have hlo : (hd == sysModules) = false := by assumption
      have hdi : oD.IsDictOf (intKind PySem.Challenge.rw_ke0002_02.row.prog w) [] := by assumption
      with_reducible rename AllLt hd nw2 => lhd
      have hdH : oH.data = .cell none := by assumption
      have hchd : L' + 1 ≠ hd := Nat.ne_of_lt (ktn_ltOf lhd _ hcH2)
      have hnews : ∀ q ∈ news, q ∈ nw2 ∧ q.1 ≠ L' + 1 ∧ q.1 ≠ hd ∧ q.1 ≠ le := fun q hq => by
        have h1 : @LT.lt Nat _ q.1 L' := ktn_ltOf l1 _ hq
        exact ⟨q6 _ (hkeep _ hq), Nat.ne_of_lt (Nat.lt_succ_of_lt h1), Nat.ne_of_lt (ktn_ltOf lhd _ (q6 _ (hkeep _ hq))), q5 _ (hkeep _ hq)⟩
      have hchle : L' + 1 ≠ le := q5 _ hcH
      refine storeX_C (by assumption) (news_rest kN3 (.tail _ hcH2)) rfl (.head rest_ne) hdH ?_
      intro h4 oc F4 N4 hoc
      have k4 : ∀ q ∈ nw2, q.1 ≠ L' + 1 → q ∈ (L' + 1, oc) :: rest (L' + 1) ((hd, oD) :: nw2) := fun q hq n => .tail _ (mem_rest (.tail _ hq) n)
      have hd4 : (hd, oD) ∈ (L' + 1, oc) :: rest (L' + 1) ((hd, oD) :: nw2) := .tail _ (mem_rest (.head _) (Ne.symm hchd))
      have hc4 : (L' + 1, oc) ∈ (L' + 1, oc) :: rest (L' + 1) ((hd, oD) :: nw2) := .head _
      replace N4 : News g' L' h4 ((L' + 1, oc) :: rest (L' + 1) ((hd, oD) :: nw2)) := N4
      generalize (L' + 1, oc) :: rest (L' + 1) ((hd, oD) :: nw2) = nw4 at N4 k4 hd4 hc4
      have hne : ∀ {a : Addr} {o : Obj}, (a, o) ∈ nw2 → (∀ v, o.data ≠ .cell v) → (a, o) ∈ nw4 := fun ha ho => k4 _ ha (news_ne (news_sub kN3 fun _ h => .tail _ h) ha hcH2 fun e => ho _ (by subst e; exact hdH))
      have hG : LeafG w C y le x hd c nt mn mx (.int 5 t5) .none nx oD [] [] [] 0 nw4 := by
        obtain ⟨dx, z1, z2⟩ := hc
        exact ⟨⟨dy, u1, u2, u3, u4, u5, u6, u7, u8, u9, n9, hne q1 (fun _ => nofun), hne q2 (fun _ => nofun)⟩, hne q3 (fun _ => nofun), ⟨dx, k4 _ (hnews _ z1).1 (hnews _ z1).2.1, k4 _ (hnews _ z2).1 (hnews _ z2).2.1, (hnews _ z2).2.2.1⟩, trivial, hd4, hdi, hlo⟩
      have hR : RowsOk [] [] := ⟨⟨.refl _, .nil⟩, nofun, nofun⟩
      have hk4 : ∀ q ∈ news, q ∈ nw4 := fun q hq => k4 _ (hnews _ hq).1 (hnews _ hq).2.1
      show wpAny _ _ (execs _ _) _ _ _
      clear k4 hd4 hne q1 q2 q3 q5 q6 hdi kN3 hcH2 kF3
      (repeat (rename PyProof.V.FlatPairs _ _ _ => z9; clear z9))
      (repeat (rename Obj.IsDictOf _ _ _ => z9; clear z9))
      refine wpAny_execs_cons (For_turn (by rfl) (by rfl) ?it)
      case it =>
        k_dflt (refine nameX_L F4 hms2 ?_)
        refine LoopT.mk D vs n (Gr w mean mg mb _ _ base g') g' m2 nw4 (LvJ w C y le x hd (L' + 1) D c nt mn mx (.int 5 t5) .none nx oc b vs n news) rfl ⟨KtsTurn.refl, B', X', T', D'⟩ F4 N4 (fun i m nw q => q.2.2.2.1) ⟨hml2, hmn2, hmc2, hk4 _ hD, hc4, ⟨oD, [], [], [], 0, hG, hR⟩, hk4⟩ ?turn ?done
        case turn =>
          intro i v m₁ nw₁ g₂ h₂ tk₂ I oI hcI hvi C' hJ' off F₂ N₂ Qt hT
          obtain ⟨k, t, rfl, -⟩ := hI.at i v hvi
          obtain ⟨j1, j2, j3, j4, j5, ⟨o, kvs, rs, vs', n', jG, jR⟩, j7⟩ := hJ'
          obtain ⟨T2, B2, X2, P2, D2⟩ := C'
          have j5' : (L' + 1, oc) ∈ (I, oI) :: nw₁ := .tail _ j5
          clear T0 B X T B' X' T' D' N4 F4
          replace F₂ : Fr g₂ L' h₂ _ := F₂
          k_steps
          refine ⟨?_⟩
          refine' TurnSpec.use (g₀ := g') (deed w C y le x hd c nt mn mx (.int 5 t5) .none nx o kvs rs vs' n' k t hC hvz hks) ?mXB ?mTB ?mT0 ?mD ?mB ?mF ?mX ?mN ?mT ?mhd ?mhu ?mp ?_
          (case mB => k_asm); (case mF => k_asm); (case mX => k_asm); (case mN => k_asm); (case mT => k_asm); (case mhd => first | exact room2 (by assumption) (by rfl) | exact room1 (by assumption) (by rfl) | exact room3 (by assumption) (by rfl) | exact room4 (by assumption) (by rfl) | (simp only [m_dd, m_kd, m_1d, m_md, m_td]; omega) | decide); (case mhu => first | exact room2 (by assumption) (by rfl) | exact room1 (by assumption) (by rfl) | exact room3 (by assumption) (by rfl) | exact room4 (by assumption) (by rfl) | (simp only [m_du, m_ku, m_1u, m_mu, m_tu]; omega) | decide)
          (case mXB => assumption); (case mTB => assumption); (case mT0 => first | assumption | exact KtsTurn.refl); (case mD => assumption)
          case mp => exact ⟨jG.sub fun _ h => .tail _ h, jR⟩
          intro r5 nw5 g5 h5 tk5 T5 B5 X5 P5 D5 F5 N5 hp5
          obtain ⟨e5, ⟨o', kvs', rs', vs5, n5, G5, R5⟩, keep5⟩ := hp5
          subst e5
          have hI5 := keep5 _ (.head _) (Ne.symm (off _ jG.ent)) (Ne.symm (off _ jG.held))
          have hk5 : ∀ q ∈ nw₁, q.1 ≠ le → q.1 ≠ hd → q ∈ rest I nw5 := fun q hq n1 n2 => mem_rest (keep5 _ (.tail _ hq) n1 n2) (off _ hq)
          have G6 := G5.drop N5 hI5 hcI
          k_steps
          rename Fr _ _ _ _ => kF5
          rename News _ _ _ _ => kN5
          exact hT _ _ _ _ _ _ (.inl rfl) ⟨T5, B5, X5, P5, D5⟩ kF5 (news_rest kN5 hI5) rest_ne ⟨j1, j2, j3, hk5 _ j4 (hnews _ hD).2.2.2 (hnews _ hD).2.2.1, hk5 _ j5 hchle hchd, ⟨o', kvs', rs', vs5, n5, G6, R5⟩, fun q hq => hk5 _ (j7 q hq) (hnews q hq).2.2.2 (hnews q hq).2.2.1⟩
        case done =>
          intro m₁ nw₁ g₂ h₂ tk₂ C' hJ' F₂ N₂
          replace F₂ : Fr g₂ L' h₂ m₁ := F₂
          replace N₂ : News g₂ L' h₂ nw₁ := N₂
          obtain ⟨j1, j2, j3, j4, j5, ⟨o, kvs, rs, vs', n', jG, jR⟩, j7⟩ := hJ'
          obtain ⟨T2, B2, X2, P2, D2⟩ := C'
          clear T0 B X T B' X' T' D' N4 F4 hG hR hk4 hc4
          show wpAny _ _ (execs _ _) _ _ _
          refine nodeIs.elim jG.node ?_
          intro dy w1 w2 w3 w4 w5 w6 w7 w8 w9 n9 hy1 hy2
          refine wpAny_execs_cons ?_
          k_dflt (refine LCg.Assign_ListComp_U F₂ rfl (by rfl) (by rfl) (by decide) (by rfl) (by decide) (by rfl) (by rfl) (by rfl) ?_)
          k_steps
          refine dict_sorted (by rfl) F₂ N₂ jG.held jG.dict jG.low (by have := jR.bears.len; have := jR.short; omega) ?_
          intro B6 h6 tk6 c6 vs6 ns6 F6 N6 l6 hI6 hp6 ho6
          have e6 := jR.bears.sorted hp6 ho6
          subst e6
          have hl6 : vs6.length = rs.length := by
            have := hI6.length
            rw [List.length_map] at this
            omega
          k_dflt (refine LCg.CompSrc.ledger (by rfl) F6 N6 (.head _) (by rw [List.size_toArray, sizeLine_eq, hl6]; have := jR.short; omega) ?_)
          intro g9
          refine comp_rest (fun i ys nw => ∃ tl, nw = tl ++ ((B6, _) :: nw₁) ∧ PairsAre tl ys (rs.take i)) ⟨[], rfl, trivial⟩ ?_ ?_
          · rintro i v ys nw I oI C' oC D m₂ h tk E' hi hv ⟨tl, rfl, hp⟩ hC' hx F' N' off n1 n2 n3
            obtain ⟨kk, tt, rfl, hkk⟩ := hI6.at i v (by simpa using hv)
            obtain ⟨r, hr, rfl⟩ : ∃ r, rs[i]? = some r ∧ r.1 = kk := by
              rw [List.getElem?_map] at hkk
              exact Option.map_eq_some_iff.mp hkk
            obtain ⟨k0, w0⟩ := r
            obtain ⟨bb, ub, e0⟩ := jR.bytes _ (List.mem_of_getElem? hr)
            dsimp only at e0
            subst e0
            have hv' : valueAt kvs k0 = some (.bytes bb ub) := jR.bears.value (List.mem_of_getElem? hr)
            have hcH6 : (L' + 1, oc) ∈ tl ++ ((B6, { cls := .type "list", data := .seq vs6.toArray c6 }) :: nw₁) := List.mem_append_right _ (.tail _ j5)
            k_steps
            refine ⟨?_⟩
            refine kda_item N' (.tail _ (.tail _ (.tail _ (List.mem_append_right _ (.tail _ jG.held))))) jG.dict (intKind_is _ _ _ _) hv' ?_
            try dsimp only
            k_steps
            with_reducible rename _ ∧ _ ∧ _ ∧ AllLt _ _ => l9
            rename News _ _ _ _ => kN9
            refine comp_end1 (by assumption) kN9 off l9 (.inr ⟨_, .tail _ (List.mem_append_right _ (.head _)), rfl, _, rfl⟩) ⟨_ :: tl, rfl, ?_⟩
            exact (hp.mono fun q hq => .tail _ hq).snoc hr (.head _)
          · rintro ys nw ⟨tl, rfl, hp⟩ D7 h tk F' N' o1
            rw [List.take_of_length_le (by rw [List.size_toArray, hl6]; exact Nat.le_refl _)] at hp
            refine gen (fun X => ∀ nw7, (News g₂ L' h nw7) → ((∀ q ∈ nw₁, q ∈ nw7)) → ((D7, LCg.lst ys) ∈ nw7) → (PairsAre nw7 ys rs) → X) (fun _ k => k _ N' (fun _ h => .tail _ (List.mem_append_right _ (.tail _ h))) (.head _) (hp.mono fun _ h => .tail _ (List.mem_append_left _ h))) ?_
            intro nw7 N7 hsub7 hD7 hP7
            refine gen (fun X => ∀ m3, (m3 "row" = some (.ref D7)) → (m3 "node" = some (.ref y)) → (m3 "lonely" = some (.bool b)) → (m3 "conf" = some (.ref x)) → (Fr g₂ L' h m3) → X) (fun _ k => k _ (if_pos rfl) ((if_neg (by decide)).trans j2) ((if_neg (by decide)).trans j1) ((if_neg (by decide)).trans j3) F') ?_
            intro m3 a1 a2 a3 a4 F3
            have G7 := jG.sub hsub7
            have hz1 := hsub7 _ hy1
            have hz2 := hsub7 _ hy2
            clear N' F' F₂ N₂ F6 N6 hI6 hp6 ho6 l6 hp o1
            show wpAny _ _ (execs _ _) _ _ _
            k_steps
            refine ⟨?_⟩
            refine' MutSpec.use (node_split w C y le x nt mn mx 260 (.int 5 t5) .none nx vs' n' (OneOf.two (P := OneOf anyNode) hC (.head _) (.tail _ (.head _)))) ?mB ?mF ?mX ?mN ?mT ?mhd ?mhu ?mp ?_
            (case mB => k_asm); (case mF => k_asm); (case mX => k_asm); (case mN => k_asm); (case mT => k_asm); (case mhd => first | exact room2 (by assumption) (by rfl) | exact room1 (by assumption) (by rfl) | exact room3 (by assumption) (by rfl) | exact room4 (by assumption) (by rfl) | (simp only [m_dd, m_kd, m_1d, m_md, m_td]; omega) | decide); (case mhu => first | exact room2 (by assumption) (by rfl) | exact room1 (by assumption) (by rfl) | exact room3 (by assumption) (by rfl) | exact room4 (by assumption) (by rfl) | (simp only [m_du, m_ku, m_1u, m_mu, m_tu]; omega) | decide)
            case mp => exact ⟨G7.node, G7.ent, by rw [G7.len]; have := jR.short; omega⟩
            intro r8 nw8 h8 tk8 F8 N8 hp8
            obtain ⟨B1, B2, e8, hB1, hB2, hn8, keep8⟩ := hp8
            subst e8
            have hyl : ys.length = vs'.length := hP7.len.trans G7.len.symm
            have hrl := G7.len
            have hsh := jR.short
            have hR8 := G7.recs.kept9 (x := x) keep8
            have hP8 := hP7.kept9 keep8
            have hD8 := keep8 _ hD7 (not9_list _ _)
            have hc8 := G7.cf.kept9 keep8
            have hk8 : ∀ q ∈ news, Not9 q.2 → q ∈ nw8 := fun q hq n => keep8 _ (hsub7 _ (j7 q hq)) n
            refine nodeIs.elim hn8 ?_
            intro dz z1 z2 z3 z4 z5 z6 z7 z8 z9 n99 hz1' hz2'
            have e2 : (vs'.length : Int).fdiv 2 = ((vs'.length / 2 : Nat) : Int) := by
              rw [Int.fdiv_eq_ediv_of_nonneg _ (by decide)]; omega
            clear hz1 hz2 hP7 hD7 keep8 G7 jG hsub7 j7 j4 j5
            k_steps
            rename News _ _ _ _ => kN9
            refine ⟨?_⟩
            refine call_len_list (items := ys.toArray) (PySem.IsL.isList (n := ys.length) (kN9 _ hD8).1) (by simp; omega) ?_
            rw [List.size_toArray, hyl]
            k_steps
            rename Heap => hA
            rename Fr _ _ _ _ => kFh
            refine gen (fun X => ∀ (m4 : Str → Option Value) (th : Tok), (m4 "half" = some (.int ((vs'.length / 2 : Nat) : Int) th)) → (m4 "row" = some (.ref D7)) → (m4 "node" = some (.ref y)) → (m4 "lonely" = some (.bool b)) → (m4 "conf" = some (.ref x)) → (m4 "upper" = some (.ref B1)) → (Fr g₂ L' hA m4) → X) (fun _ k => k _ _ (by rw [← e2]; exact if_pos rfl) ((if_neg (by decide)).trans ((if_neg (by decide)).trans a1)) ((if_neg (by decide)).trans ((if_neg (by decide)).trans a2)) ((if_neg (by decide)).trans ((if_neg (by decide)).trans a3)) ((if_neg (by decide)).trans ((if_neg (by decide)).trans a4)) ((if_neg (by decide)).trans (if_pos rfl)) kFh) ?_
            intro m4 th b1 b2 b3 b4 b5 b6 kF4
            clear kFh e2 a1 a2 a3 a4
            refine ⟨?_⟩
            refine' TreeSpec.use (lrecs w B2 x (vs'.take (vs'.length / 2)) (rs.take (vs'.length / 2)) 0 (fun r hr => jR.bytes r (List.mem_of_mem_take hr))) ?mB ?mF ?mX ?mN ?mT ?mhd ?mhu ?mp ?_
            (case mB => k_asm); (case mF => k_asm); (case mX => k_asm); (case mN => k_asm); (case mT => k_asm); (case mhd => first | exact room2 (by assumption) (by rfl) | exact room1 (by assumption) (by rfl) | exact room3 (by assumption) (by rfl) | exact room4 (by assumption) (by rfl) | (simp only [m_dd, m_kd, m_1d, m_md, m_td]; omega) | decide); (case mhu => first | exact room2 (by assumption) (by rfl) | exact room1 (by assumption) (by rfl) | exact room3 (by assumption) (by rfl) | exact room4 (by assumption) (by rfl) | (simp only [m_du, m_ku, m_1u, m_mu, m_tu]; omega) | decide)
            case mp => exact ⟨hB2, by simp; omega, hR8.take _⟩
            intro r9 tl9 h9 tk9 F9 N9 ap9 hp9
            obtain ⟨D9, us9, e9, hD9, hP9⟩ := hp9
            subst e9
            refine gen (fun X => ∀ nwA, (News g₂ L' h9 nwA) → ((∀ q ∈ nw8, q ∈ nwA)) → (∀ q ∈ tl9, q ∈ nwA) → X) (fun _ k => k _ N9 (fun _ h => List.mem_append_right _ h) (fun _ h => List.mem_append_left _ h)) ?_
            intro nwA NA hsubA htlA
            clear N9
            k_steps
            refine ⟨?_⟩
            rename News _ _ _ _ => kN9
            rename Fr _ _ _ _ => kF9
            refine slice_upto (n := ys.length) kF9 kN9 (hsubA _ hD8) (by omega) (by omega) rfl ?_
            intro B3 h3 F3' N3 l3
            try dsimp only
            obtain ⟨hq1, hq2⟩ := pairs_same (news := (B3, lst (ys.take (vs'.length / 2)) 0) :: nwA) hP9 (All2.take (vs'.length / 2) (hP8.mono hsubA)) (fun q hq => .tail _ (htlA _ hq)) (fun q hq => .tail _ hq)
            refine ne_same (n := 1) (T := "list") N3 (.inr rfl) (.tail _ (htlA _ hD9)) (.head _) hq1 hq2 (by k_units) ?_
            clear hq1 hq2
            k_steps
            refine ⟨?_⟩
            refine' TreeSpec.use (lrecs w B1 x (vs'.drop (vs'.length / 2)) (rs.drop (vs'.length / 2)) 0 (fun r hr => jR.bytes r (List.mem_of_mem_drop hr))) ?mB ?mF ?mX ?mN ?mT ?mhd ?mhu ?mp ?_
            (case mB => k_asm); (case mF => k_asm); (case mX => k_asm); (case mN => k_asm); (case mT => k_asm); (case mhd => first | exact room2 (by assumption) (by rfl) | exact room1 (by assumption) (by rfl) | exact room3 (by assumption) (by rfl) | exact room4 (by assumption) (by rfl) | (simp only [m_dd, m_kd, m_1d, m_md, m_td]; omega) | decide); (case mhu => first | exact room2 (by assumption) (by rfl) | exact room1 (by assumption) (by rfl) | exact room3 (by assumption) (by rfl) | exact room4 (by assumption) (by rfl) | (simp only [m_du, m_ku, m_1u, m_mu, m_tu]; omega) | decide)
            case mp => exact ⟨.tail _ (hsubA _ hB1), by simp; omega, RecsAre.sub (fun _ h => .tail _ (hsubA _ h)) (All2.drop _ hR8)⟩
            intro rA tlA hA tkA FA NA' apA hpA
            obtain ⟨DA, usA, eA, hDA, hPA⟩ := hpA
            subst eA
            refine gen (fun X => ∀ nwB, (News g₂ L' hA nwB) → ((∀ q ∈ nw8, q ∈ nwB)) → (∀ q ∈ tlA, q ∈ nwB) → X) (fun _ k => k _ NA' (fun _ h => List.mem_append_right _ (.tail _ (hsubA _ h))) (fun _ h => List.mem_append_left _ h)) ?_
            intro nwB NB hsubB htlB
            clear NA' N3 F3' l3 kN9 hsubA htlA hD9 hP9 ap9
            k_steps
            refine ⟨?_⟩
            rename News _ _ _ _ => kN9
            rename Fr _ _ _ _ => kF9
            refine slice_from (n := ys.length) kF9 kN9 (hsubB _ hD8) (by omega) (by omega) rfl ?_
            intro B4 h4 F4' N4 l4
            try dsimp only
            obtain ⟨hq1, hq2⟩ := pairs_same (news := (B4, lst (ys.drop (vs'.length / 2)) 0) :: nwB) hPA (All2.drop (vs'.length / 2) (hP8.mono hsubB)) (fun q hq => .tail _ (htlB _ hq)) (fun q hq => .tail _ hq)
            refine ne_same (n := 1) (T := "list") N4 (.inr rfl) (.tail _ (htlB _ hDA)) (.head _) hq1 hq2 (by k_units) ?_
            clear hq1 hq2
            refine gen (fun X => ∀ nwC, (News g₂ L' h4 nwC) → ((∀ q ∈ nw8, q ∈ nwC)) → X) (fun _ k => k _ N4 (fun _ h => .tail _ (hsubB _ h))) ?_
            intro nwC NC hsubC
            clear N4 l4 kN9 hsubB htlB hDA hPA apA
            have hy1' := hsubC _ hz1'
            have hy2' := hsubC _ hz2'
            cases b with
            | false =>
              rw [if_neg (by decide)] at hnx
              obtain ⟨t9, rfl⟩ := hnx
              k_steps
              refine hQ _ _ ?_
              k_steps
              refine' post _ _ _ _ _ ⟨?zt, ?zb, ?zx, ?zp, ?zd⟩ ?zf ?zn ⟨?zr, fun q hq n => ?zk⟩
              (case zf => assumption); (case zn => assumption); (case zb => assumption); (case zt => first | assumption | exact KtsTurn.refl); (case zx => assumption); (case zp => assumption); (case zd => assumption)
              case zr => rfl
              case zk => exact hsubC _ (hk8 q hq n)
            | true =>
              rw [if_pos rfl] at hnx
              subst hnx
              clear hC
              k_steps
              refine ⟨?_⟩
              refine' MutSpec.use (conv_leaf w y B2 x c nt mn mx 5 t5 .none nx _ (.head _)) ?mB ?mF ?mX ?mN ?mT ?mhd ?mhu ?mp ?_
              (case mB => k_asm); (case mF => k_asm); (case mX => k_asm); (case mN => k_asm); (case mT => k_asm); (case mhd => first | exact room2 (by assumption) (by rfl) | exact room1 (by assumption) (by rfl) | exact room3 (by assumption) (by rfl) | exact room4 (by assumption) (by rfl) | (simp only [m_dd, m_kd, m_1d, m_md, m_td]; omega) | decide); (case mhu => first | exact room2 (by assumption) (by rfl) | exact room1 (by assumption) (by rfl) | exact room3 (by assumption) (by rfl) | exact room4 (by assumption) (by rfl) | (simp only [m_du, m_ku, m_1u, m_mu, m_tu]; omega) | decide)
              case mp => exact ⟨hn8.sub hsubC, hc8.sub fun _ h => hsubC _ h, hod⟩
              intro rD nwD hD2 tkD FD ND hpD
              obtain ⟨⟨z, nt', mn', v3, eD, hnD⟩, hsubD⟩ := hpD
              subst eD
              refine nodeIs.elim hnD ?_
              intro dz' y1 y2 y3 y4 y5 y6 y7 y8 y9 nn9 hzz1 hzz2
              k_steps
              refine ⟨?_⟩
              refine' TreeSpec.use (lrecs w B2 x (vs'.take (vs'.length / 2)) (rs.take (vs'.length / 2)) 0 (fun r hr => jR.bytes r (List.mem_of_mem_take hr))) ?mB ?mF ?mX ?mN ?mT ?mhd ?mhu ?mp ?_
              (case mB => k_asm); (case mF => k_asm); (case mX => k_asm); (case mN => k_asm); (case mT => k_asm); (case mhd => first | exact room2 (by assumption) (by rfl) | exact room1 (by assumption) (by rfl) | exact room3 (by assumption) (by rfl) | exact room4 (by assumption) (by rfl) | (simp only [m_dd, m_kd, m_1d, m_md, m_td]; omega) | decide); (case mhu => first | exact room2 (by assumption) (by rfl) | exact room1 (by assumption) (by rfl) | exact room3 (by assumption) (by rfl) | exact room4 (by assumption) (by rfl) | (simp only [m_du, m_ku, m_1u, m_mu, m_tu]; omega) | decide)
              case mp => exact ⟨hsubD _ (hsubC _ hB2), by simp; omega, RecsAre.sub (fun _ h => hsubD _ (hsubC _ h)) (hR8.take _)⟩
              intro rE tlE hE tkE FE NE' apE hpE
              obtain ⟨DE, usE, eE, hDE, hPE⟩ := hpE
              subst eE
              refine gen (fun X => ∀ nwE, (News g₂ L' hE nwE) → ((∀ q ∈ nwD, q ∈ nwE)) → (∀ q ∈ tlE, q ∈ nwE) → X) (fun _ k => k _ NE' (fun _ h => List.mem_append_right _ h) (fun _ h => List.mem_append_left _ h)) ?_
              intro nwE NE hsubE htlE
              clear NE'
              have hyz1 := hsubE _ hzz1
              have hyz2 := hsubE _ hzz2
              have hkE : ∀ q ∈ nw8, q ∈ nwE := fun q hq => hsubE _ (hsubD _ (hsubC _ hq))
              k_steps
              refine ⟨?_⟩
              rename News _ _ _ _ => kN9
              rename Fr _ _ _ _ => kF9
              refine slice_upto (n := ys.length) kF9 kN9 (hkE _ hD8) (by omega) (by omega) rfl ?_
              intro B5 h5 F5' N5 l5
              try dsimp only
              obtain ⟨hq1, hq2⟩ := pairs_same (news := (B5, lst (ys.take (vs'.length / 2)) 0) :: nwE) hPE (All2.take (vs'.length / 2) (hP8.mono hkE)) (fun q hq => .tail _ (htlE _ hq)) (fun q hq => .tail _ hq)
              refine ne_same (n := 1) (T := "list") N5 (.inr rfl) (.tail _ (htlE _ hDE)) (.head _) hq1 hq2 (by k_units) ?_
              clear hq1 hq2
              k_lt l5
              k_steps
              try dsimp only
              refine' TreeSpec.use (conf_order w x c true) ?mB ?mF ?mX ?mN ?mT ?mhd ?mhu ?mp ?_
              (case mB => k_asm); (case mF => k_asm); (case mX => k_asm); (case mN => k_asm); (case mT => k_asm); (case mhd => first | exact room2 (by assumption) (by rfl) | exact room1 (by assumption) (by rfl) | exact room3 (by assumption) (by rfl) | exact room4 (by assumption) (by rfl) | (simp only [m_dd, m_kd, m_1d, m_md, m_td]; omega) | decide); (case mhu => first | exact room2 (by assumption) (by rfl) | exact room1 (by assumption) (by rfl) | exact room3 (by assumption) (by rfl) | exact room4 (by assumption) (by rfl) | (simp only [m_du, m_ku, m_1u, m_mu, m_tu]; omega) | decide)
              case mp => exact hc8.sub fun _ h => .tail _ (.tail _ (hkE _ h))
              intro rF tlF hF tkF FF NF apF hpF
              obtain ⟨eF, eF'⟩ := hpF
              subst eF eF'
              replace NF := news_sub NF sub_nil0
              k_steps
              rename News _ _ _ _ => kN9
              refine ⟨?_⟩
              refine eq_same (n := 0) (T := "tuple") (xs := [.int 5 _, .int (c.od - 1) _]) (ys := [.int 5 _, .int (c.od - 1) _]) kN9 (.inl rfl) (.tail _ (.head _)) (.head _) rfl (ints_same (.cons _ _ (.cons _ _ .nil)) (.cons _ _ (.cons _ _ .nil))) (by k_units) ?_
              k_steps
              refine hQ _ _ ?_
              k_steps
              refine' post _ _ _ _ _ ⟨?zt, ?zb, ?zx, ?zp, ?zd⟩ ?zf ?zn ⟨rfl, fun q hq n => ?zk⟩
              (case zf => assumption); (case zn => assumption); (case zb => assumption); (case zt => first | assumption | exact KtsTurn.refl); (case zx => assumption); (case zp => assumption); (case zd => assumption)
              case zk => exact .tail _ (.tail _ (.tail _ (hkE _ (hk8 q hq n))))
end Mine
end

section
open PySem PySem.W PyProof.Rows
/-- between two texts: the walk forgets the lines of the text before, as a fresh process has none -/
theorem Mine.calm92 : ∀ (prog : Program) (w : World) (A : Around) (env : Env) (E : Value → Shared → Prop) (s : Shared) (Q : Flow → Shared → Prop), Q .next s → wpAny (model prog w) A (execs [] env) Q E s := by
  w_top off
  intro prog w A env E s Q h
  walk1
  exact h
end

section
open PySem PySem.W PyProof.Rows PySem.Calls
set_option Elab.async false
set_option linter.unusedSimpArgs false
set_option maxRecDepth 100000
set_option maxHeartbeats 4000000
namespace Mine
--
local macro_rules | `(tactic| k_is) => `(tactic| (rename OneOf _ _ => q9; first | (clear q9; k_is) | ((first | with_reducible refine' OneOf.find4 q9 ?ma ?mb ?mc ?md | with_reducible refine' OneOf.over4 q9 ?ma ?mb ?mc ?md | with_reducible refine' OneOf.taker4 q9 ?ma ?mb ?mc ?md | with_reducible refine' OneOf.dict4 q9 ?ma ?mb ?mc ?md | with_reducible refine' OneOf.plain4 q9 ?ma ?mb ?mc ?md | with_reducible refine' OneOf.seq4 q9 ?ma ?mb ?mc ?md | with_reducible refine' OneOf.mro4 q9 ?ma ?mb ?mc ?md | with_reducible refine' OneOf.sub4 q9 ?ma ?mb ?mc ?md | with_reducible refine' OneOf.inst4 q9 ?ma ?mb ?mc ?md); (case ma => k_is); (case mb => k_is); (case mc => k_is); (case md => k_is)) | ((first | with_reducible refine' OneOf.find2 q9 ?ma ?mb | with_reducible refine' OneOf.over2 q9 ?ma ?mb | with_reducible refine' OneOf.taker2 q9 ?ma ?mb | with_reducible refine' OneOf.dict2 q9 ?ma ?mb | with_reducible refine' OneOf.plain2 q9 ?ma ?mb | with_reducible refine' OneOf.seq2 q9 ?ma ?mb | with_reducible refine' OneOf.mro2 q9 ?ma ?mb | with_reducible refine' OneOf.sub2 q9 ?ma ?mb | with_reducible refine' OneOf.inst2 q9 ?ma ?mb); (case ma => k_is); (case mb => k_is))))
local macro_rules | `(tactic| ks_enter) => `(tactic| (refine' ks_code_super (hA := rfl) (hf := rfl) (hke := rfl) ?mB ?mF ?mX ?mN ?mT ?mho ?mhc ?mroom ?mbind ?mloc ?_ ?mcell ?mco ?mge ?mki; (case mB => k_asm); (case mF => k_asm); (case mX => k_asm); (case mN => k_asm); (case mT => k_asm); (case mho => k_is); (case mhc => k_is); (case mroom => k_room); (case mbind => first | exact BindsTo.of_eq rfl | exact binds_K (by k_in) rfl (by k_is) rfl rfl rfl); (case mcell => decide); (case mco => exact rfl); (case mge => exact rfl); (case mki => exact rfl); (case mloc => exact locs rfl); intro g' L' h' FG' F' N' B' X' T' l1; (try k_lt l1); (try dsimp only); (try k_lift B')))
local macro_rules | `(tactic| walk_at "wpAt") => `(tactic| (dsimp only))
local macro_rules | `(tactic| walk_at "wpAt") => `(tactic| k_dflt (first | (ks_step "exec Expr"; refine ks_wpAt_Expr_any ?_) | (ks_step "eval Call"; refine ks_wpAt_MethodCall ?_)))
local macro_rules | `(tactic| walk_at "call ref") => `(tactic| refine' Held.out ?_)
local macro_rules | `(tactic| walk_at "getMethod ref") => `(tactic| ((with_reducible rename HoldM => hM); refine' Held.out ?_))
--
local macro_rules
  | `(tactic| walk_at "subscriptTail") => `(tactic| refine' Held.out ?_)
  | `(tactic| walk_at "subscriptTail Name Slice ref ref") => `(tactic| refine' Held.out ?_)
  | `(tactic| walk_at "call builtin:len") => `(tactic| refine' Held.out ?_)
  | `(tactic| walk_at "subscriptTail Attribute") => `(tactic| k_dflt (refine kba_turn (value' := PySem.Expr.Name (PySem.Str.ofString "_") ⟨0, 0, 0, 0⟩) (fun _ => rfl) ?_))
local macro_rules
  | `(tactic| walk_at "setAttr ref") => `(tactic| refine' Held.out ?_)
/-- the walk stops at an if -/
structure HoldR : Prop where
local macro_rules | `(tactic| walk_at "exec If") => `(tactic| ((with_reducible rename HoldR => hIf); refine' Held.out ?_))
local macro_rules | `(tactic| walk_at "wpAt") => `(tactic| ((with_reducible rename HoldR => hIf); ks_step "exec If"; refine wpAt_of_wpAny (Held.out ?_)))
/-- no object of five names -/
def Not5 (o : Obj) : Prop := ∀ es n, o = dictOf es n → es.length ≠ 5
/-- the entries are references with these keys, befores and afters -/
def RefsBA (w : World) (x : Addr) (news : Led) (vs : List Value) (ks bs cs : List Int) : Prop :=
  vs.length = ks.length ∧ bs.length = ks.length ∧ cs.length = ks.length ∧ ∀ (i : Nat) (v : Value), vs[i]? = some v → ∃ (a : Addr) (k b c : Int) (t1 t2 : Tok), v = .ref a ∧ ks[i]? = some k ∧ bs[i]? = some b ∧ cs[i]? = some c ∧ refIs w x a k (.int b t1) (.int c t2) news
def Apt (ks : List Int) : Prop := ∀ (i j : Nat) (k : Int), ks[i]? = some k → ks[j]? = some k → i = j
theorem RefsBA.imp {w : World} {x : Addr} {news news' : Led} {vs : List Value} {ks bs cs : List Int} (h : RefsBA w x news vs ks bs cs) (f : ∀ a k b c, refIs w x a k b c news → refIs w x a k b c news') : RefsBA w x news' vs ks bs cs := by
  refine ⟨h.1, h.2.1, h.2.2.1, fun i v e => ?_⟩
  obtain ⟨a, k, b, c, t1, t2, q⟩ := h.2.2.2 i v e
  exact ⟨a, k, b, c, t1, t2, q.1, q.2.1, q.2.2.1, q.2.2.2.1, f _ _ _ _ q.2.2.2.2⟩
theorem RefsBA.sub {w : World} {x : Addr} {news news' : Led} {vs : List Value} {ks bs cs : List Int} (h : RefsBA w x news vs ks bs cs) (s : ∀ q ∈ news, q ∈ news') : RefsBA w x news' vs ks bs cs := h.imp fun _ _ _ _ q => q.sub s
theorem RefsBA.kept {w : World} {x le : Addr} {news news' : Led} {vs : List Value} {ks bs cs : List Int} (h : RefsBA w x news vs ks bs cs) (l : Loner le news) (s : Kept le news news') : RefsBA w x news' vs ks bs cs := h.imp fun _ _ _ _ q => q.kept l s
theorem refDict_ne {h₀ h : Heap} {L : Addr} {news : Led} (N : News h₀ L h news) {w : World} {x d d' : Addr} {u1 u2 u3 u4 u5 v1 v2 v3 v4 v5 t t' : Tok} {l l' b b' c c' : Value} {j k : Int} {n n' : Nat}
    (h1 : (d, refDict w u1 u2 u3 u4 u5 x l (.int j t) b c n) ∈ news) (h2 : (d', refDict w v1 v2 v3 v4 v5 x l' (.int k t') b' c' n') ∈ news) (hjk : j ≠ k) : d ≠ d' :=
  news_ne N h1 h2 fun e => by
    have h4 := congrArg Array.toList (Data.dict.inj (congrArg Obj.data e)).1
    have h5 : Value.int j t = Value.int k t' := congrArg DictEntry.val (List.cons.inj (List.cons.inj (List.cons.inj h4).2).2).1
    cases h5
    exact hjk rfl
theorem refIs.ne {h₀ h : Heap} {L : Addr} {news : Led} (N : News h₀ L h news) {w : World} {x a z : Addr} {j k : Int} {b c b' c' : Value} (h1 : refIs w x a j b c news) (h2 : refIs w x z k b' c' news) (hjk : j ≠ k) : a ≠ z := by
  refine refIs.elim h1 ?_
  intro d u1 u2 u3 u4 u5 t l n q1 q2
  refine refIs.elim h2 ?_
  intro d' v1 v2 v3 v4 v5 t' l' n' r1 r2
  have hd := refDict_ne N q2 r2 hjk
  exact news_ne N q1 r1 fun e => hd (by injection e with _ e; injection e)
theorem RefsBA.setC {h₀ h : Heap} {L : Addr} {news : Led} (N : News h₀ L h news) {w : World} {x a d : Addr} {vs : List Value} {ks bs cs : List Int} (H : RefsBA w x news vs ks bs cs) (hap : Apt ks) {i : Nat} {k b c' : Int} {u1 u2 u3 u4 u5 t tb tc : Tok} {l cv : Value} {n : Nat}
    (hv : vs[i]? = some (.ref a)) (hk : ks[i]? = some k) (hb : bs[i]? = some b) (hi : (a, instObj 301 d) ∈ news) (hd : (d, refDict w u1 u2 u3 u4 u5 x l (.int k t) (.int b tb) cv n) ∈ news) :
    RefsBA w x ((d, refDict w u1 u2 u3 u4 u5 x l (.int k t) (.int b tb) (.int c' tc) n) :: rest d news) vs ks bs (cs.set i c') := by
  have hin : ∀ {a' d' : Addr}, (a', instObj 301 d') ∈ news → (a', instObj 301 d') ∈ rest d news := fun q => mem_rest q (news_ne N q hd fun e => nomatch congrArg Obj.cls e)
  refine ⟨H.1, H.2.1, by rw [List.length_set]; exact H.2.2.1, fun j v e => ?_⟩
  obtain ⟨a', k', b', c2, t1, t2, rfl, e1, e2, e3, d', v1, v2, v3, v4, v5, t', l', n', q1, q2⟩ := H.2.2.2 j v e
  by_cases hji : j = i
  · subst hji
    rw [hv] at e
    rw [hk] at e1
    rw [hb] at e2
    cases e; cases e1; cases e2
    exact ⟨a, k, b, c', tb, tc, rfl, hk, hb, by rw [List.getElem?_set_self (List.getElem?_eq_some_iff.mp e3).1], d, u1, u2, u3, u4, u5, t, l, n, .tail _ (hin hi), .head _⟩
  · have hkk : k' ≠ k := fun q => hji (hap j i k (q ▸ e1) hk)
    exact ⟨a', k', b', c2, t1, t2, rfl, e1, e2, by rw [List.getElem?_set_ne (Ne.symm hji)]; exact e3, d', v1, v2, v3, v4, v5, t', l', n', .tail _ (hin q1), .tail _ (mem_rest q2 (refDict_ne N q2 hd hkk))⟩
theorem RefsBA.setB {h₀ h : Heap} {L : Addr} {news : Led} (N : News h₀ L h news) {w : World} {x a d : Addr} {vs : List Value} {ks bs cs : List Int} (H : RefsBA w x news vs ks bs cs) (hap : Apt ks) {i : Nat} {k c b' : Int} {u1 u2 u3 u4 u5 t tb tc : Tok} {l bv : Value} {n : Nat}
    (hv : vs[i]? = some (.ref a)) (hk : ks[i]? = some k) (hc : cs[i]? = some c) (hi : (a, instObj 301 d) ∈ news) (hd : (d, refDict w u1 u2 u3 u4 u5 x l (.int k t) bv (.int c tc) n) ∈ news) :
    RefsBA w x ((d, refDict w u1 u2 u3 u4 u5 x l (.int k t) (.int b' tb) (.int c tc) n) :: rest d news) vs ks (bs.set i b') cs := by
  have hin : ∀ {a' d' : Addr}, (a', instObj 301 d') ∈ news → (a', instObj 301 d') ∈ rest d news := fun q => mem_rest q (news_ne N q hd fun e => nomatch congrArg Obj.cls e)
  refine ⟨H.1, by rw [List.length_set]; exact H.2.1, H.2.2.1, fun j v e => ?_⟩
  obtain ⟨a', k', b2, c', t1, t2, rfl, e1, e2, e3, d', v1, v2, v3, v4, v5, t', l', n', q1, q2⟩ := H.2.2.2 j v e
  by_cases hji : j = i
  · subst hji
    rw [hv] at e
    rw [hk] at e1
    rw [hc] at e3
    cases e; cases e1; cases e3
    exact ⟨a, k, b', c, tb, tc, rfl, hk, by rw [List.getElem?_set_self (List.getElem?_eq_some_iff.mp e2).1], hc, d, u1, u2, u3, u4, u5, t, l, n, .tail _ (hin hi), .head _⟩
  · have hkk : k' ≠ k := fun q => hji (hap j i k (q ▸ e1) hk)
    exact ⟨a', k', b2, c', t1, t2, rfl, e1, by rw [List.getElem?_set_ne (Ne.symm hji)]; exact e2, e3, d', v1, v2, v3, v4, v5, t', l', n', .tail _ (hin q1), .tail _ (mem_rest q2 (refDict_ne N q2 hd hkk))⟩
theorem eq_self {prog : Program} {w : World} {A : Around} {h₀ : Heap} {L : Addr} {m : Str → Option Value} {news : Led} {v : Value} : EqAnswers prog w A h₀ L m news v v true := by
  intro Q E s F N h
  unfold eqBool
  refine wpAny_holding ?_
  rw [if_pos (by simp)]
  exact wpAny_bind (wpAny_rule (wpAny_pure (h s.heap s.toks F N)))
theorem not5_list (vs : List Value) (n : Nat) : Not5 (lst vs n) := fun _ _ e => absurd (congrArg Obj.cls e) (show ¬Value.type "list" = Value.type "dict" by decide)
theorem not5_inst (C dy : Addr) : Not5 (instObj C dy) := fun _ _ e => nomatch congrArg Obj.cls e
theorem not5_dict {es : List DictEntry} {n : Nat} (h : es.length ≠ 5) : Not5 (dictOf es n) := fun es' n' e => by
  obtain ⟨h1, -⟩ := Data.dict.inj (congrArg Obj.data e)
  have h2 := congrArg Array.size h1
  simp at h2
  omega
theorem in_rest5 {h₀ h : Heap} {L d a : Addr} {es : List DictEntry} {k : Nat} {o o' : Obj} {news : Led} (N : News h₀ L h news) (hd : (d, dictOf es k) ∈ news) (he : es.length = 5) (hq : (a, o) ∈ news) (h5 : Not5 o) : (a, o) ∈ (d, o') :: rest d news :=
  .tail _ (mem_rest hq (news_ne N hq hd fun e => h5 _ _ e he))
theorem refIs.rest {h₀ h : Heap} {L : Addr} {news : Led} (N : News h₀ L h news) {w : World} {x d z : Addr} {u1 u2 u3 u4 u5 t : Tok} {l b c b' c' : Value} {j k : Int} {n : Nat} {o' : Obj}
    (hd : (d, refDict w u1 u2 u3 u4 u5 x l (.int j t) b c n) ∈ news) (hz : refIs w x z k b' c' news) (hjk : j ≠ k) : refIs w x z k b' c' ((d, o') :: rest d news) := by
  refine refIs.elim hz ?_
  intro d' v1 v2 v3 v4 v5 t' l' n' r1 r2
  exact ⟨d', v1, v2, v3, v4, v5, t', l', n', in_rest5 N hd rfl r1 (not5_inst _ _), .tail _ (mem_rest r2 (Ne.symm (refDict_ne N hd r2 hjk)))⟩
theorem ins_len {α : Type} {as : List α} {a : α} {p : Nat} (hp : p ≤ as.length) : (as.take p ++ a :: as.drop p).length = as.length + 1 := by
  rw [List.length_append, List.length_cons, List.length_take, List.length_drop]
  omega
/-- one more reference in the row -/
theorem RefsBA.ins {w : World} {x z : Addr} {news : Led} {vs : List Value} {ks bs cs : List Int} {k b c : Int} {t1 t2 : Tok} {p : Nat} (H : RefsBA w x news vs ks bs cs) (hz : refIs w x z k (.int b t1) (.int c t2) news) (hp : p ≤ vs.length) :
    RefsBA w x news (vs.take p ++ .ref z :: vs.drop p) (ks.take p ++ k :: ks.drop p) (bs.take p ++ b :: bs.drop p) (cs.take p ++ c :: cs.drop p) := by
  obtain ⟨h1, h2, h3, h4⟩ := H
  refine ⟨?_, ?_, ?_, fun i v e => ?_⟩
  · rw [ins_len hp, ins_len (by omega), h1]
  · rw [ins_len (by omega), ins_len (by omega), h2]
  · rw [ins_len (by omega), ins_len (by omega), h3]
  · rw [put_get hp] at e
    rw [put_get (by omega), put_get (by omega), put_get (by omega)]
    by_cases i1 : i < p
    · rw [if_pos i1] at e ⊢
      rw [if_pos i1, if_pos i1]
      exact h4 i v e
    · rw [if_neg i1] at e ⊢
      rw [if_neg i1, if_neg i1]
      by_cases i2 : i = p
      · rw [if_pos i2] at e ⊢
        rw [if_pos i2, if_pos i2]
        cases e
        exact ⟨z, k, b, c, t1, t2, rfl, rfl, rfl, rfl, hz⟩
      · rw [if_neg i2] at e ⊢
        rw [if_neg i2, if_neg i2]
        exact h4 _ v e
/-- the row behind an insertion -/
theorem RefsBA.put {w : World} {x z : Addr} {news : Led} {vs : List Value} {ks bs cs cs' : List Int} {k b c : Int} {t1 t2 : Tok} {p : Nat} (H : RefsBA w x news vs ks (bs.set p c) cs') (hz : refIs w x z k (.int b t1) (.int c t2) news) (hp : p ≤ vs.length) (hl : vs.length = ks.length) (hb : bs.length = ks.length)
    (e1 : cs'.drop p = cs.drop p) (e2 : cs'.take p = (cs.set (p - 1) b).take p) : RefsBA w x news (vs.take p ++ .ref z :: vs.drop p) (ks.take p ++ k :: ks.drop p) (bs.take p ++ b :: (bs.set p c).drop p) ((cs.set (p - 1) b).take p ++ c :: cs.drop p) := by
  have h := H.ins hz hp
  rw [e1, e2, List.take_set_of_le (Nat.le_refl p)] at h
  exact h
/-- behind the if of insert_entry -/
def RfMid (w : World) (C y z le x dy L : Addr) (g : Heap) (nd : Obj) (vs : List Value) (n p : Nat) (ks bs cs : List Int) (k b c : Int) (t1 t2 : Tok) (news : Led) (X : Heap → Nat → Prop) : Prop :=
  ∀ h tk m ti nw, (Fr g L h m) → (News g L h nw) → (m "self" = some (.ref y)) → (m "entry" = some (.ref z)) → (m "i" = some (.int p ti)) → ((y, instObj C dy) ∈ nw) → ((dy, nd) ∈ nw) → ((le, lst (vs.take p ++ .ref z :: vs.drop p) (n + 1)) ∈ nw) → (refIs w x z k (.int b t1) (.int c t2) nw) → ((∃ cs', cs'.length = cs.length ∧ cs'.drop p = cs.drop p ∧ cs'.take p = (cs.set (p - 1) b).take p ∧ RefsBA w x nw vs ks bs cs')) → (∀ q ∈ news, q.1 ≠ le → Not5 q.2 → q ∈ nw) → X h tk
theorem ref_insert (w : World) (C y z le x : Addr) (nt mn mx : Value) (page par nx : Value) (vs : List Value) (ks bs cs : List Int) (n p : Nat) (k b c : Int) (t1 t2 : Tok) (hC : OneOf refNode C) :
    TurnSpec w (call (.ref 575) [.ref y, .ref z]) 40
    (fun news => nodeIs w C y le x nt mn mx 301 page par nx news ∧ (le, lst vs n) ∈ news ∧ vs.length < 900 ∧ RefsBA w x news vs ks bs cs ∧ Apt ks ∧ refIs w x z k (.int b t1) (.int c t2) news ∧ p ≤ vs.length ∧ ∀ i j, ks[i]? = some j → j ≠ k ∧ (j < k ↔ i < p))
    (fun r news news' => r = .none ∧ nodeIs w C y le x nt mn mx 301 page par nx news' ∧ (le, lst (vs.take p ++ .ref z :: vs.drop p) (n + 1)) ∈ news' ∧ RefsBA w x news' (vs.take p ++ .ref z :: vs.drop p) (ks.take p ++ k :: ks.drop p) (bs.take p ++ b :: (bs.set p c).drop p) ((cs.set (p - 1) b).take p ++ c :: cs.drop p) ∧
      ∀ q ∈ news, q.1 ≠ le → Not5 q.2 → q ∈ news') := by
  unfold TurnSpec
  k_fill
  intro mean mg mb dp un gd cn nms ig ic mo a ccd cl outer A₀ base g₀ h₀ L m news s Q E XB TB gr0 F N hdp hun pre0 post
  obtain ⟨T0, B, X, T, D⟩ := gr0
  obtain ⟨⟨dy, u1, u2, u3, u4, u5, u6, u7, u8, u9, n9, hm, hm'⟩, hle, hlen, hrs, hap, hz, hp, hkp⟩ := pre0
  refine refIs.elim hz ?_
  intro dz z1 z2 z3 z4 z5 tz lz nz hz1 hz2
  refine wpAny_call ?_
  refine' code_turnS ?k1 ?k2 ?k3 ?k4 ?k5 ?XB ?TB ?D ?T0 ?kA ?kF ?kK ?k6 ?k7 ?k8 ?k9 ?kB ?_ ?c5 ?c2 ?c3 ?c4
  case kA => exact rfl
  case kF => exact rfl
  case kK => exact rfl
  case k1 => k_asm
  case k2 => k_asm
  case XB => assumption
  case TB => assumption
  case D => assumption
  case T0 => first | assumption | exact KtsTurn.refl
  case k3 => k_asm
  case k4 => k_asm
  case k5 => k_asm
  case k6 => k_is
  case k7 => k_is
  case k8 => k_room
  case k9 => first | exact BindsTo.of_eq rfl | exact binds_K (by k_in) rfl (by k_is) rfl rfl rfl
  case kB => exact locs rfl
  case c5 => decide
  case c2 => exact rfl
  case c3 => exact rfl
  case c4 => exact rfl
  intro g' L' h' FG' F' N' B' X' T' D' l1 Qb hQ
  try k_lt l1
  try dsimp only
  refine letAt ?_
  intro A1
  refine letEt ?_
  intro e1
  show _root_.PySem.wpAt _ _ _ _ _ _ { s with heap := h', toks := s.toks + 2 }
  have hM : HoldM := ⟨⟩
  k_steps
  refine ⟨?_⟩
  with_reducible rename HoldM => hM
  clear hM
  k_dflt (refine' ks_method ?k1 ?k2 ?k3 ?k4 ?k5 ?k6 ?k7 ?k8 ?k9 ?_; (case k1 => k_asm); (case k2 => k_asm); (case k3 => k_asm); (case k4 => k_mem); (case k5 => k_inst); (case k6 => k_is); (case k7 => exact OneOf.two (P := fun C => ks_superIn _ C _ _ = _) hC (by ks_is) (by ks_is)); (case k8 => k_is); (case k9 => decide); intro q' h' F' N' l1; (try k_lt l1))
  k_steps
  refine ⟨?_⟩
  refine' call_meth ?k1 ?k2 ?_
  case k1 => k_asm
  case k2 => k_mem
  rename News _ _ _ _ => kN1
  refine gen (fun X => ∀ nw1, (News g' L' _ nw1) → (∀ q ∈ news, q ∈ nw1) → X) (fun _ k => k _ kN1 (fun _ h => .tail _ (.tail _ h))) ?_
  intro nw1 N1 hs1
  clear kN1
  have hZ1 := hz.sub hs1
  have hR1 := hrs.sub hs1
  refine' KSpec.use (node_insertK w C 301 y z le x nt mn mx 301 page par nx vs n p (OneOf.two (P := OneOf anyNode) hC (.tail _ (.tail _ (.head _))) (.tail _ (.tail _ (.tail _ (.head _))))) ⟨.tail _ (.head _)⟩) ?mB ?mF ?mX ?mN ?mT ?mhd ?mhu ?mp ?_
  (case mB => k_asm); (case mF => k_asm); (case mX => k_asm); (case mN => k_asm); (case mT => k_asm); (case mhd => first | exact room2 (by assumption) (by rfl) | exact room1 (by assumption) (by rfl) | exact room3 (by assumption) (by rfl) | exact room4 (by assumption) (by rfl) | (simp only [m_dd, m_kd, m_1d, m_md, m_td]; omega) | decide); (case mhu => first | exact room2 (by assumption) (by rfl) | exact room1 (by assumption) (by rfl) | exact room3 (by assumption) (by rfl) | exact room4 (by assumption) (by rfl) | (simp only [m_du, m_ku, m_1u, m_mu, m_tu]; omega) | decide)
  case mp =>
    refine ⟨⟨dy, u1, u2, u3, u4, u5, u6, u7, u8, u9, n9, hs1 _ hm, hs1 _ hm'⟩, hs1 _ hle, by omega, hp, ⟨dz, _, hs1 _ hz1, hs1 _ hz2⟩, fun v hv => ?_, fun i v hv => ?_⟩
    · obtain ⟨i, hi⟩ := List.mem_iff_getElem?.mp hv
      obtain ⟨a', k', b', c', t', t'', e1, -, -, -, d', v1, v2, v3, v4, v5, v6, v7, v8, q1, q2⟩ := hR1.2.2.2 i v hi
      exact ⟨a', d', _, e1, q1, q2⟩
    · obtain ⟨a', k', b', c', t', t'', rfl, e2, -, -, q⟩ := hR1.2.2.2 i v hv
      refine .ofRef hZ1 q (decide_eq_decide.mpr ?_)
      have := hkp i k' e2
      omega
  intro r2 nw2 h2 tk2 F2 N2 hp2
  obtain ⟨e2, hchg⟩ := hp2
  subst e2
  have l1' := Loner.list N1 (hs1 _ hle)
  have hm2 := hchg.2 _ (hs1 _ hm) (l1'.inst _ _ _ (hs1 _ hm))
  have hm2' := hchg.2 _ (hs1 _ hm') (l1'.dict _ _ (hs1 _ hm') ⟨_, _, _, _, _, _, rfl⟩)
  have hle2 := hchg.1
  have hZ2 := hZ1.kept l1' hchg.2
  have hR2 := hR1.kept l1' hchg.2
  have hk2 : ∀ q ∈ news, q.1 ≠ le → q ∈ nw2 := fun q hq h => hchg.2 _ (hs1 _ hq) h
  clear hm hm' hz1 hz2 hle
  k_steps
  rename Fr _ _ _ _ => kF3
  rename News _ _ _ _ => kN3
  have hlv : (vs.take p ++ Value.ref z :: vs.drop p).length = vs.length + 1 := by simp; omega
  refine idx_list (p := p) kF3 kN3 hle2 (by rw [hlv]; omega) (by rw [hlv]; omega) ?ask ?_
  case ask =>
    intro i v hv hi
    by_cases hip : i = p
    · subst hip
      rw [List.getElem?_append_right (by simp; omega)] at hv
      rw [List.length_take, Nat.min_eq_left hp, Nat.sub_self] at hv
      cases hv
      rw [decide_eq_true rfl]
      exact eq_self
    · rw [List.getElem?_append_left (by simp; omega), List.getElem?_take_of_lt (by omega)] at hv
      obtain ⟨a', k', b', c', t', t'', rfl, e2, -, -, q⟩ := hR2.2.2.2 i v hv
      have hkk := (hkp i k' e2).1
      have hne := refIs.ne kN3 q hZ2 hkk
      rw [decide_eq_false hip]
      refine refIs.elim q ?_
      intro d' v1 v2 v3 v4 v5 v6 v7 v8 q1 q2
      refine refIs.elim hZ2 ?_
      intro dz z1 z2 z3 z4 z5 tz lz nz hz1 hz2
      have H : EqAt2 w 301 (.ref a') (.ref z) false nw2 := by
        have S := eq_ref w x a' z k' k (.int b' t') (.int c' t'') (.int b t1) (.int c t2)
        rw [decide_eq_false hkk] at S
        exact ⟨a', d', _, z, dz, _, rfl, q1, q2, rfl, hz1, hz2, _, S, q, hZ2⟩
      exact EqAt2.answers (C := 301) (by assumption) (by assumption) (by assumption) (by first | exact room2 (by assumption) (by rfl) | exact room1 (by assumption) (by rfl) | exact room3 (by assumption) (by rfl) | exact room4 (by assumption) (by rfl) | (simp only [m_dd, m_kd, m_1d, m_md, m_td]; omega)) (by first | exact room2 (by assumption) (by rfl) | exact room1 (by assumption) (by rfl) | exact room3 (by assumption) (by rfl) | exact room4 (by assumption) (by rfl) | (simp only [m_du, m_ku, m_1u, m_mu, m_tu]; omega)) ⟨.tail _ (.head _)⟩ (by simp [hne]) H
  intro h4 tk4 tp F4 N4
  dsimp only
  have hIf : HoldR := ⟨⟩
  k_steps
  refine ⟨?_⟩
  with_reducible rename HoldR => hIf
  clear hIf
  refine cutG (fun X => RfMid w C y z le x dy L' g' (nodeDict w u1 u2 u3 u4 u5 u6 u7 u8 u9 x nt mn mx 301 le page par nx n9) vs n p ks bs cs k b c t1 t2 news (X .next)) ?ifm ?trym
  case ifm =>
    intro Qb hQ
    by_cases hp0 : p = 0
    · subst hp0
      k_steps
      rename Fr _ _ _ _ => kF5
      rename News _ _ _ _ => kN5
      exact hQ _ _ _ _ nw2 kF5 kN5 rfl rfl rfl hm2 hm2' hle2 hZ2 ⟨cs, rfl, rfl, by simp, hR2⟩ (fun q hq n1 _ => hk2 q hq n1)
    · obtain ⟨v, hv0⟩ : ∃ v, vs[p - 1]? = some v := ⟨vs[p - 1]'(by omega), List.getElem?_eq_getElem _⟩
      obtain ⟨a', k', b', c', t', t'', rfl, e1, e2, e3, q⟩ := hR2.2.2.2 (p - 1) v hv0
      have hkk := (hkp (p - 1) k' e1).1
      have hv1 : (vs.take p ++ Value.ref z :: vs.drop p)[p - 1]? = some (.ref a') := by
        rw [List.getElem?_append_left (by simp; omega), List.getElem?_take_of_lt (by omega)]
        exact hv0
      refine refIs.elim q ?_
      intro d' v1 v2 v3 v4 v5 v6 v7 v8 q1 q2
      refine refIs.elim hZ2 ?_
      intro dz z1 z2 z3 z4 z5 tz lz nz hz1 hz2
      have ep : (p : Int) - 1 = ((p - 1 : Nat) : Int) := by omega
      k_steps
      rw [ep]
      rename News _ _ _ _ => kN5
      refine ⟨?_⟩
      refine item_at kN5 hle2 hv1 (by rw [hlv]; omega) ?_
      k_steps
      rename News _ _ _ _ => kN6
      rename Fr _ _ _ _ => kF6
      refine ⟨?_⟩
      refine' set_dict (dx := d') (news' := (d', refDict w v1 v2 v3 v4 v5 x v7 (.int k' v6) (.int b' t') (.int b t1) v8) :: rest d' nw2) kF6 ?k2 (news_rest kN6 q2) (InstAt.of_news kN6 q1 q2) rfl ?k6 ?k7 ?k8 ?k9 rfl rfl (.head rest_ne) (Nat.le_of_ble_eq_true rfl) ?_
      case k2 => k_asm
      case k6 => k_is
      case k7 => k_is
      case k8 => k_is
      case k9 => k_is
      intro h5 F5 N5
      dsimp only
      k_steps
      rename Fr _ _ _ _ => kF7
      rename News _ _ _ _ => kN7
      refine hQ _ _ _ _ _ kF7 kN7 rfl rfl rfl (in_rest5 kN6 q2 rfl hm2 (not5_inst _ _)) (in_rest5 kN6 q2 rfl hm2' (not5_dict (show (9 : Nat) ≠ 5 by decide))) (in_rest5 kN6 q2 rfl hle2 (not5_list _ _)) (refIs.rest kN6 q2 hZ2 hkk) ⟨cs.set (p - 1) b, by simp, ?_, rfl, ?_⟩ (fun q hq n1 n5 => in_rest5 kN6 q2 rfl (hk2 q hq n1) n5)
      · rw [List.drop_set_of_lt (by omega)]
      · exact RefsBA.setC kN6 hR2 hap hv0 e1 e2 q1 q2
  case trym =>
    intro h5 tk5 m5 ti nw5 F5 N5 i1 i2 i3 i4 i5 i6 i7 zq0 i12
    obtain ⟨cs', i8, i9, i10, i11⟩ := zq0
    try dsimp only
    clear hm2 hm2' hle2 hZ2 hR2 hk2
    refine refIs.elim i7 ?_
    intro dz z1 z2 z3 z4 z5 tz lz nz hz1 hz2
    have ep : (p : Int) + 1 = ((p + 1 : Nat) : Int) := by omega
    by_cases hpl : p < vs.length
    · obtain ⟨v, hv0⟩ : ∃ v, vs[p]? = some v := ⟨vs[p], List.getElem?_eq_getElem _⟩
      obtain ⟨a', k', b', c', t', t'', rfl, e1, e2, e3, q⟩ := i11.2.2.2 p v hv0
      have hkk := (hkp p k' e1).1
      have hv1 : (vs.take p ++ Value.ref z :: vs.drop p)[p + 1]? = some (.ref a') := by
        rw [put_get hp, if_neg (by omega), if_neg (by omega)]
        exact hv0
      refine refIs.elim q ?_
      intro d' v1 v2 v3 v4 v5 v6 v7 v8 q1 q2
      k_steps
      refine wpAny_Try_except ?_
      k_steps
      rw [ep]
      rename News _ _ _ _ => kN5
      refine ⟨?_⟩
      refine item_at kN5 i6 hv1 (by rw [hlv]; omega) ?_
      k_steps
      rename News _ _ _ _ => kN6
      rename Fr _ _ _ _ => kF6
      refine ⟨?_⟩
      refine' set_dict (dx := d') (news' := (d', refDict w v1 v2 v3 v4 v5 x v7 (.int k' v6) (.int c t2) (.int c' t'') v8) :: rest d' nw5) kF6 ?k2 (news_rest kN6 q2) (InstAt.of_news kN6 q1 q2) rfl ?k6 ?k7 ?k8 ?k9 rfl rfl (.head rest_ne) (Nat.le_of_ble_eq_true rfl) ?_
      case k2 => k_asm
      case k6 => k_is
      case k7 => k_is
      case k8 => k_is
      case k9 => k_is
      intro h6 F6 N6
      dsimp only
      k_steps
      refine hQ _ _ ?_
      k_steps
      refine' post _ ((d', refDict w v1 v2 v3 v4 v5 x v7 (.int k' v6) (.int c t2) (.int c' t'') v8) :: rest d' nw5) _ _ _ ⟨?zt, ?zb, ?zx, ?zp, ?zd⟩ ?zf ?zn ⟨rfl, ⟨dy, u1, u2, u3, u4, u5, u6, u7, u8, u9, n9, in_rest5 kN6 q2 rfl i4 (not5_inst _ _), in_rest5 kN6 q2 rfl i5 (not5_dict (show (9 : Nat) ≠ 5 by decide))⟩,
        in_rest5 kN6 q2 rfl i6 (not5_list _ _), RefsBA.put (RefsBA.setB kN6 i11 hap hv0 e1 e3 q1 q2) (refIs.rest kN6 q2 i7 hkk) hp hrs.1 hrs.2.1 i9 i10, fun q hq n1 n5 => in_rest5 kN6 q2 rfl (i12 q hq n1 n5) n5⟩
      (case zf => assumption); (case zn => assumption); (case zb => assumption); (case zt => first | assumption | exact KtsTurn.refl); (case zx => assumption); (case zp => assumption); (case zd => assumption)
    · k_steps
      refine wpAny_Try_except ?_
      k_steps
      rename News _ _ _ _ => kN5
      rename Fr _ _ _ _ => kF5
      refine ⟨?_⟩
      refine item_out rfl kN5 i6 (by rw [hlv]; omega) (by omega) ?_
      intro h6 tk6 e6 hx6
      dsimp only
      refine own_caught (T' := "IndexError") B' kF5 kN5 hx6 XB TB D' KtsTurn.refl (by k_is) PyProof.Rows.Boot.«IndexError» (by decide) PySem.F.isExc_IndexError PySem.F.notTuple_IndexError (by rw [isSubtype_type]; kernel_rfl) ?_
      intro h7 g7 T7 F7 N7 B7 X7 P7 D7
      k_steps
      have hR7 : RefsBA w x nw5 vs ks (bs.set p c) cs' := by
        rw [List.set_eq_of_length_le (by have := hrs.1; have := hrs.2.1; omega)]
        exact i11
      refine hQ _ _ ?_
      k_steps
      refine' post _ nw5 _ _ _ ⟨?zt, ?zb, ?zx, ?zp, ?zd⟩ ?zf ?zn ⟨rfl, ⟨dy, u1, u2, u3, u4, u5, u6, u7, u8, u9, n9, i4, i5⟩, i6, RefsBA.put hR7 i7 hp hrs.1 hrs.2.1 i9 i10, i12⟩
      (case zf => assumption); (case zn => assumption); (case zb => assumption); (case zt => first | assumption | exact KtsTurn.refl); (case zx => assumption); (case zp => assumption); (case zd => assumption)
end Mine
end

section
open PySem PySem.W PyProof.Rows
/-- between two texts: the walk forgets the lines of the text before, as a fresh process has none -/
theorem Mine.calm94 : ∀ (prog : Program) (w : World) (A : Around) (env : Env) (E : Value → Shared → Prop) (s : Shared) (Q : Flow → Shared → Prop), Q .next s → wpAny (model prog w) A (execs [] env) Q E s := by
  w_top off
  intro prog w A env E s Q h
  walk1
  exact h
end

section
open PySem PySem.W PyProof.Rows PySem.Calls
set_option Elab.async false
set_option linter.unusedSimpArgs false
set_option maxRecDepth 100000
set_option maxHeartbeats 4000000
namespace Mine
/-- a node of references and its lists of keys and pages, on the ledger -/
structure InnG (w : World) (C y le x dk dp : Addr) (c : Cf) (nt mn mx page par nx : Value) (ks pg : List Int) (vs vk vp : List Value) (n nk np : Nat) (news : Led) : Prop where
  node : nodeIs w C y le x nt mn mx 301 page par nx news
  ent : (le, lst vs n) ∈ news
  conf : confIs x c.vals news
  refs : RefsBA w x news vs ks (pg.take ks.length) (pg.drop 1)
  keys : (dk, lst vk nk) ∈ news
  pages : (dp, lst vp np) ∈ news
  nek : dk ≠ le
  nep : dp ≠ le
/-- keys and pages belong to one another -/
structure KpOk (ks pg : List Int) (vk vp : List Value) (i : Nat) : Prop where
  ik : IntsAre vk ks
  ip : IntsAre vp pg
  asc : Asc ks
  len : pg.length = ks.length + 1
  short : ks.length ≤ i
/-- no cell, no iterator -/
def Solid (o : Obj) : Prop := (∀ v, o.data ≠ .cell v) ∧ o.cls ≠ .type "list_iterator"
theorem solid_inst (C dy : Addr) : Solid (instObj C dy) := ⟨fun _ => nofun, fun e => nomatch e⟩
theorem solid_conf (C dy : Addr) (vs : List Value) : Solid (confObj C dy vs) := ⟨fun _ => nofun, fun e => nomatch e⟩
theorem solid_dict (es : List DictEntry) (n : Nat) : Solid (dictOf es n) := ⟨fun _ => nofun, (show ¬Value.type "dict" = Value.type "list_iterator" by decide)⟩
theorem solid_list (vs : List Value) (n : Nat) : Solid (lst vs n) := ⟨fun _ => nofun, (show ¬Value.type "list" = Value.type "list_iterator" by decide)⟩
theorem refIs.solid {w : World} {x a : Addr} {kk : Int} {b c : Value} {news news' : Led} (k : ∀ q ∈ news, Solid q.2 → q ∈ news') (h : refIs w x a kk b c news) : refIs w x a kk b c news' := by
  refine refIs.elim h ?_
  intro dy u1 u2 u3 u4 u5 t ll n h1 h2
  exact ⟨dy, u1, u2, u3, u4, u5, t, ll, n, k _ h1 (solid_inst _ _), k _ h2 (solid_dict _ _)⟩
theorem RefsBA.solid {w : World} {x : Addr} {news news' : Led} {vs : List Value} {ks bs cs : List Int} (k : ∀ q ∈ news, Solid q.2 → q ∈ news') (h : RefsBA w x news vs ks bs cs) : RefsBA w x news' vs ks bs cs :=
  h.imp fun _ _ _ _ q => q.solid k
theorem confIs.solid {x : Addr} {vals : List Value} {news news' : Led} (k : ∀ q ∈ news, Solid q.2 → q ∈ news') (h : confIs x vals news) : confIs x vals news' := by
  obtain ⟨dx, h1, h2⟩ := h
  exact ⟨dx, k _ h1 (solid_conf _ _ _), k _ h2 (solid_dict [] 0)⟩
theorem nodeIs.solid {w : World} {C y le x : Addr} {nt mn mx page par nx : Value} {ec : Addr} {news news' : Led} (k : ∀ q ∈ news, Solid q.2 → q ∈ news') (h : nodeIs w C y le x nt mn mx ec page par nx news) : nodeIs w C y le x nt mn mx ec page par nx news' := by
  refine nodeIs.elim h ?_
  intro dy u1 u2 u3 u4 u5 u6 u7 u8 u9 n h1 h2
  exact ⟨dy, u1, u2, u3, u4, u5, u6, u7, u8, u9, n, k _ h1 (solid_inst _ _), k _ h2 (solid_dict _ _)⟩
theorem InnG.solid {w : World} {C y le x dk dp : Addr} {c : Cf} {nt mn mx page par nx : Value} {ks pg : List Int} {vs vk vp : List Value} {n nk np : Nat} {news news' : Led} (h : InnG w C y le x dk dp c nt mn mx page par nx ks pg vs vk vp n nk np news) (k : ∀ q ∈ news, Solid q.2 → q ∈ news') :
    InnG w C y le x dk dp c nt mn mx page par nx ks pg vs vk vp n nk np news' :=
  ⟨h.node.solid k, k _ h.ent (solid_list _ _), h.conf.solid k, h.refs.solid k, k _ h.keys (solid_list _ _), k _ h.pages (solid_list _ _), h.nek, h.nep⟩
theorem RefRow.ofBA {w : World} {x : Addr} {news : Led} : ∀ {vs : List Value} {ks bs cs : List Int}, RefsBA w x news vs ks bs cs → RefRow w x news vs (ks.zip (bs.zip cs))
  | [], [], _, _, _ => trivial
  | [], _ :: _, _, _, h => by cases h.1
  | _ :: _, [], _, _, h => by cases h.1
  | _ :: _, _ :: _, [], _, h => by cases h.2.1
  | _ :: _, _ :: _, _ :: _, [], h => by cases h.2.2.1
  | v :: vs, k :: ks, b :: bs, c :: cs, h => by
    obtain ⟨h1, h2, h3, h4⟩ := h
    refine ⟨?_, RefRow.ofBA ⟨by simpa using h1, by simpa using h2, by simpa using h3, fun i v e => ?_⟩⟩
    · obtain ⟨a, k', b', c', t1, t2, rfl, e1, e2, e3, e4⟩ := h4 0 v rfl
      cases e1; cases e2; cases e3
      exact ⟨a, t1, t2, rfl, e4⟩
    · obtain ⟨a, k', b', c', t1, t2, rfl, e1, e2, e3, e4⟩ := h4 (i + 1) v (by simpa using e)
      exact ⟨a, k', b', c', t1, t2, rfl, by simpa using e1, by simpa using e2, by simpa using e3, e4⟩
theorem row_zip {ks pg : List Int} : ks.zip ((pg.take ks.length).zip (pg.drop 1)) = Row ks pg := by
  unfold Row
  refine List.ext_getElem? fun i => ?_
  by_cases h : i < ks.length
  · simp only [List.zip, List.getElem?_zipWith, List.getElem?_take_of_lt h]
  · rw [List.getElem?_eq_none (by simp; omega), List.getElem?_eq_none (by simp; omega)]
theorem Row.take {ks pg : List Int} (n : Nat) : (Row ks pg).take n = Row (ks.take n) (pg.take (n + 1)) := by
  unfold Row
  refine List.ext_getElem? fun i => ?_
  by_cases h : i < n
  · rw [List.getElem?_take_of_lt h]
    simp only [List.zip, List.getElem?_zipWith, List.getElem?_drop, List.getElem?_take_of_lt h]
    rw [List.getElem?_take_of_lt (by omega), List.getElem?_take_of_lt (by omega)]
  · rw [List.getElem?_eq_none (by simp; omega), List.getElem?_eq_none (by simp; omega)]
theorem Row.drop {ks pg : List Int} (n : Nat) : (Row ks pg).drop n = Row (ks.drop n) (pg.drop n) := by
  unfold Row
  refine List.ext_getElem? fun i => ?_
  simp only [List.zip, List.getElem?_drop, List.getElem?_zipWith]
  rw [show 1 + (n + i) = n + (1 + i) by omega]
theorem Row.part {ks pg : List Int} {i : Nat} {r : Tri} (h : (Row ks pg)[i]? = some r) : ks[i]? = some r.1 ∧ pg[i]? = some r.2.1 ∧ pg[i + 1]? = some r.2.2 := by
  unfold Row at h
  obtain ⟨k, b, c⟩ := r
  obtain ⟨h1, h2⟩ := List.getElem?_zip_eq_some.mp h
  obtain ⟨h2, h3⟩ := List.getElem?_zip_eq_some.mp h2
  refine ⟨h1, h2, ?_⟩
  rw [List.getElem?_drop, Nat.add_comm] at h3
  exact h3
/-- the two halves are two lists -/
theorem parts_ne {h₀ h : Heap} {L : Addr} {w : World} {x B1 B2 : Addr} {nw : Led} {vs : List Value} {ks pg : List Int} {hf : Nat} (N : News h₀ L h nw) (hR : RefRow w x nw vs (Row ks pg)) (asc : Asc ks) (hl : vs.length = ks.length)
    (h1 : (B1, lst (vs.drop hf) 0) ∈ nw) (h2 : (B2, lst (vs.take hf) 0) ∈ nw) (h0 : hf < ks.length) : B1 ≠ B2 := by
  rintro rfl
  have e := congrArg Obj.data (news_eq N h1 h2)
  have e3 : vs.drop hf = vs.take hf := congrArg Array.toList (Data.seq.inj e).1
  have el := congrArg List.length e3
  rw [List.length_drop, List.length_take] at el
  obtain ⟨v, hv⟩ : ∃ v, vs[0]? = some v := ⟨vs[0]'(by omega), List.getElem?_eq_getElem _⟩
  have hv2 : vs[hf]? = some v := by
    have q := congrArg (fun l => l[0]?) e3
    simp only [List.getElem?_drop, Nat.add_zero] at q
    rw [q, List.getElem?_take_of_lt (by omega), hv]
  obtain ⟨r, hr, a, t1, t2, rfl, q1⟩ := hR.get hv
  obtain ⟨r', hr', a', t1', t2', e', q2⟩ := hR.get hv2
  cases e'
  have k1 := (Row.part hr).1
  have k2 := (Row.part hr').1
  exact refIs.ne N q1 q2 (fun q => by
    have := asc.apt k1 (q ▸ k2)
    omega) rfl
theorem ints_ne {h₀ h : Heap} {L a b r : Addr} {nw : Led} {xs ys : List Value} {ks : List Int} {n1 n2 : Nat} (N : News h₀ L h nw) (hi : IntsAre xs ks) (h1 : (a, lst xs n1) ∈ nw) (h2 : (b, lst (.ref r :: ys) n2) ∈ nw) : a ≠ b :=
  news_ne N h1 h2 fun e => by
    have e3 : xs = .ref r :: ys := congrArg Array.toList (Data.seq.inj (congrArg Obj.data e)).1
    rw [e3] at hi
    cases hi
end Mine
end

section
open PySem PySem.W PyProof.Rows
/-- between two texts: the walk forgets the lines of the text before, as a fresh process has none -/
theorem Mine.calm96 : ∀ (prog : Program) (w : World) (A : Around) (env : Env) (E : Value → Shared → Prop) (s : Shared) (Q : Flow → Shared → Prop), Q .next s → wpAny (model prog w) A (execs [] env) Q E s := by
  w_top off
  intro prog w A env E s Q h
  walk1
  exact h
end

section
open PySem PySem.W PyProof.Rows PySem.Calls
set_option Elab.async false
set_option linter.unusedSimpArgs false
set_option maxRecDepth 100000
set_option maxHeartbeats 4000000
namespace Mine
--
local macro_rules | `(tactic| k_is) => `(tactic| (rename OneOf _ _ => q9; first | (clear q9; k_is) | ((first | with_reducible refine' OneOf.find4 q9 ?ma ?mb ?mc ?md | with_reducible refine' OneOf.over4 q9 ?ma ?mb ?mc ?md | with_reducible refine' OneOf.taker4 q9 ?ma ?mb ?mc ?md | with_reducible refine' OneOf.dict4 q9 ?ma ?mb ?mc ?md | with_reducible refine' OneOf.plain4 q9 ?ma ?mb ?mc ?md | with_reducible refine' OneOf.seq4 q9 ?ma ?mb ?mc ?md | with_reducible refine' OneOf.mro4 q9 ?ma ?mb ?mc ?md | with_reducible refine' OneOf.sub4 q9 ?ma ?mb ?mc ?md | with_reducible refine' OneOf.inst4 q9 ?ma ?mb ?mc ?md); (case ma => k_is); (case mb => k_is); (case mc => k_is); (case md => k_is)) | ((first | with_reducible refine' OneOf.find2 q9 ?ma ?mb | with_reducible refine' OneOf.over2 q9 ?ma ?mb | with_reducible refine' OneOf.taker2 q9 ?ma ?mb | with_reducible refine' OneOf.dict2 q9 ?ma ?mb | with_reducible refine' OneOf.plain2 q9 ?ma ?mb | with_reducible refine' OneOf.seq2 q9 ?ma ?mb | with_reducible refine' OneOf.mro2 q9 ?ma ?mb | with_reducible refine' OneOf.sub2 q9 ?ma ?mb | with_reducible refine' OneOf.inst2 q9 ?ma ?mb); (case ma => k_is); (case mb => k_is))))
local macro_rules | `(tactic| walk_at "call ref") => `(tactic| refine' Held.out ?_)
local macro_rules | `(tactic| walk_at "eval ListComp") => `(tactic| refine' Held.out ?_)
local macro_rules | `(tactic| walk_at "exec If") => `(tactic| ((with_reducible rename HoldIf => hIf); refine' Held.out ?_))
local macro_rules | `(tactic| walk_at "compareOp NotEq ref ref") => `(tactic| refine' Held.out ?_)
local macro_rules | `(tactic| walk_at "compareOp Eq ref ref") => `(tactic| refine' Held.out ?_)
--
local macro_rules
  | `(tactic| walk_at "subscriptTail") => `(tactic| refine' Held.out ?_)
  | `(tactic| walk_at "subscriptTail Name Slice ref ref") => `(tactic| refine' Held.out ?_)
  | `(tactic| walk_at "call builtin:len") => `(tactic| refine' Held.out ?_)
  | `(tactic| walk_at "subscriptTail Attribute") => `(tactic| k_dflt (refine kba_turn (value' := PySem.Expr.Name (PySem.Str.ofString "_") ⟨0, 0, 0, 0⟩) (fun _ => rfl) ?_))
local macro_rules
  | `(tactic| walk_at "binaryOp Add ref ref") => `(tactic| refine' Held.out ?_)
  | `(tactic| walk_at "truthy ref") => `(tactic| refine' Held.out ?_)
/-- behind the node's making -/
def InMade (w : World) (x D L : Addr) (g : Heap) (news : Led) (X : Heap → Nat → Prop) : Prop :=
  ∀ C y dy le nt mn mx u1 u2 u3 u4 u5 u6 u7 u8 u9 n9 t5 b h tk m nw, (Fr g L h m) → (News g L h nw) → (OneOf refNode C) → ((y, instObj C dy) ∈ nw) → ((dy, nodeDict w u1 u2 u3 u4 u5 u6 u7 u8 u9 x nt mn mx 301 le (.int 3 t5) .none .none n9) ∈ nw) → ((le, lst [] 0) ∈ nw) → ((∀ q ∈ news, q ∈ nw)) → ((∀ q ∈ news, q.1 ≠ le)) → (m "root" = some (.bool b)) → (m "node" = some (.ref y)) → (m "conf" = some (.ref x)) → (m "script" = some (.ref D)) → ((b = true → C = 607)) → X h tk
/-- what stands in every turn of the loop -/
def InJ (w : World) (C y le x ch D : Addr) (c : Cf) (nt mn mx page par nx : Value) (b : Bool) (vs : List Value) (n : Nat) (i : Nat) (m : Str → Option Value) (nw : Led) : Prop :=
  m "root" = some (.bool b) ∧ m "node" = some (.ref y) ∧ m "conf" = some (.ref x) ∧ (D, lst vs n) ∈ nw ∧ (∃ oc v, (ch, oc) ∈ nw ∧ oc.data = .cell v) ∧
    ∃ dk dp ks pg vs' vk vp n' nk np, m "keys" = some (.ref dk) ∧ m "pages" = some (.ref dp) ∧ InnG w C y le x dk dp c nt mn mx page par nx ks pg vs' vk vp n' nk np nw ∧ KpOk ks pg vk vp i
theorem InJ.elim {w : World} {C y le x ch D : Addr} {c : Cf} {nt mn mx page par nx : Value} {b : Bool} {vs : List Value} {n i : Nat} {m : Str → Option Value} {nw : Led} {P : Prop} (h : InJ w C y le x ch D c nt mn mx page par nx b vs n i m nw)
    (k : m "root" = some (.bool b) → m "node" = some (.ref y) → m "conf" = some (.ref x) → (D, lst vs n) ∈ nw → ∀ oc v, (ch, oc) ∈ nw → oc.data = .cell v → ∀ dk dp ks pg vs' vk vp n' nk np, m "keys" = some (.ref dk) → m "pages" = some (.ref dp) →
      InnG w C y le x dk dp c nt mn mx page par nx ks pg vs' vk vp n' nk np nw → KpOk ks pg vk vp i → P) : P := by
  obtain ⟨j1, j2, j3, j4, ⟨oc, vc, j5, hoc⟩, dk, dp, ks, pg, vs', vk, vp, n', nk, np, j6, j7, G, K⟩ := h
  exact k j1 j2 j3 j4 oc vc j5 hoc dk dp ks pg vs' vk vp n' nk np j6 j7 G K
theorem InJ.mk {w : World} {C y le x ch D : Addr} {c : Cf} {nt mn mx page par nx : Value} {b : Bool} {vs : List Value} {n i : Nat} {m : Str → Option Value} {nw : Led} {oc : Obj} {v : Option Value} {dk dp : Addr} {ks pg : List Int} {vs' vk vp : List Value} {n' nk np : Nat}
    (j1 : m "root" = some (.bool b)) (j2 : m "node" = some (.ref y)) (j3 : m "conf" = some (.ref x)) (j4 : (D, lst vs n) ∈ nw) (j5 : (ch, oc) ∈ nw) (hoc : oc.data = .cell v) (j6 : m "keys" = some (.ref dk)) (j7 : m "pages" = some (.ref dp))
    (G : InnG w C y le x dk dp c nt mn mx page par nx ks pg vs' vk vp n' nk np nw) (K : KpOk ks pg vk vp i) : InJ w C y le x ch D c nt mn mx page par nx b vs n i m nw :=
  ⟨j1, j2, j3, j4, ⟨oc, v, j5, hoc⟩, dk, dp, ks, pg, vs', vk, vp, n', nk, np, j6, j7, G, K⟩
/-- behind the pop of the upper half's first reference -/
def InTail (w : World) (C y B2 x dk dp L : Addr) (c : Cf) (nt mn mx pv : Value) (ks pg : List Int) (vs vk vp : List Value) (hf nk np : Nat) (b : Bool) (G : Heap → Prop) (X : Heap → Nat → Prop) : Prop :=
  ∀ g h tk m th nw, (G g) → (Fr g L h m) → (News g L h nw) → (m "half" = some (.int (hf : Nat) th)) → (m "keys" = some (.ref dk)) → (m "pages" = some (.ref dp)) → (m "node" = some (.ref y)) → (m "root" = some (.bool b)) → (m "conf" = some (.ref x)) → (nodeIs w C y B2 x nt mn mx 301 pv .none .none nw) → ((B2, lst (vs.take hf) 0) ∈ nw) → (confIs x c.vals nw) → ((dk, lst vk nk) ∈ nw) → ((dp, lst vp np) ∈ nw) → (RefRow w x nw (vs.take hf) ((Row ks pg).take hf)) → X h tk
theorem inner (w : World) (x D : Addr) (c : Cf) (vs : List Value) (ns : List Int) (n : Nat) (hod : 1 ≤ c.od) :
    TurnSpec w (call (.ref 722) [.ref x, .ref D]) 80 (fun news => confIs x c.vals news ∧ (D, lst vs n) ∈ news ∧ IntsAre vs ns ∧ vs.length < 100) (fun r _ _ => r = .bool true) := by
  unfold TurnSpec
  k_fill
  intro mean mg mb dpt un gd cn nms ig ic mo a ccd cl outer A₀ base g₀ h₀ L m news s Q E XB TB gr0 F N hdp hun pre0 post
  obtain ⟨T0, B, X, T, D0⟩ := gr0
  obtain ⟨hc, hD, hI, hl⟩ := pre0
  refine wpAny_call ?_
  k_dflt (refine' code_turnC ?k1 ?k2 ?k3 ?k4 ?k5 ?XB ?TB ?D ?T0 ?kA ?kF ?kK ?k6 ?k7 ?k8 ?k9 ?kB ?kD ?_ ?c2 ?c3 ?c4; (case kA => exact rfl); (case kF => exact rfl); (case kK => exact rfl); (case k2 => k_asm); (case k1 => k_asm); (case XB => assumption); (case TB => assumption); (case D => assumption); (case T0 => first | assumption | exact KtsTurn.refl); (case k3 => k_asm); (case k4 => k_asm); (case k5 => k_asm); (case k6 => k_is); (case k7 => k_is); (case k8 => k_room); (case k9 => first | exact BindsTo.of_eq rfl | exact binds_K (by k_in) rfl (by k_is) rfl rfl rfl); (case kB => exact rfl); (case kD => decide +kernel); (case c2 => exact rfl); (case c3 => exact rfl); (case c4 => exact rfl); k_whole; intro g' L' h' tk' cells' FG' F' N' Y' B' X' T' D' l1 Qb hQ; (try k_lt l1); k_cells Y'; (try simp only [List.cons_append, List.nil_append] at N'); (try dsimp only); (try k_lift B'); (try k_fold))
  refine letA ?_
  intro A1
  refine letE ?_
  intro e1
  rename Obj => oH
  with_reducible rename AllLt _ _ => l1
  refine gen (fun X => ∀ news1, (News g' L' h' news1) → ((∀ q ∈ news, q ∈ news1)) → ((L' + 1, oH) ∈ news1) → (confIs x c.vals news1) → ((D, lst vs n) ∈ news1) → X) (fun _ k => k _ N' (fun _ h => .tail _ h) (.head _) (hc.sub fun _ h => .tail _ h) (.tail _ hD)) ?_
  intro news1 kN hkeep hcH hc1 hD1
  have hdH : oH.data = .cell none := by assumption
  refine cut (fun X => ∀ b tk hh m1, (Fr g' L' hh m1) → (News g' L' hh news1) → (m1 "root" = some (.bool b)) → (m1 "conf" = some (.ref x)) → (m1 "script" = some (.ref D)) → X hh tk) ?lon ?rest1
  case lon =>
    intro Qb hQ
    clear N'
    k_steps
    refine ⟨?_⟩
    refine call_len_list (items := vs.toArray) (PySem.IsL.isList (n := n) (kN _ hD1).1) (by simp; omega) ?_
    rw [List.size_toArray]
    k_steps
    exact hQ _ _ _ _ (by assumption) (by assumption) rfl rfl rfl
  case rest1 =>
    intro b tk1 h1 m1 F1 N1 hml hmc hms
    show wpAny _ _ (execs _ _) _ _ _
    clear N' F' kN
    refine cut (fun X => InMade w x D L' g' news1 X) ?made ?rest2
    case made =>
      intro Qb hQ
      cases b with
      | true =>
        k_steps
        refine ⟨?_⟩
        refine' MutSpec.use (mk_RootNode w x c 3 _) ?mB ?mF ?mX ?mN ?mT ?mhd ?mhu ?mp ?_
        (case mB => k_asm); (case mF => k_asm); (case mX => k_asm); (case mN => k_asm); (case mT => k_asm); (case mhd => first | exact room2 (by assumption) (by rfl) | exact room1 (by assumption) (by rfl) | exact room3 (by assumption) (by rfl) | exact room4 (by assumption) (by rfl) | (simp only [m_dd, m_kd, m_1d, m_md, m_td]; omega) | decide); (case mhu => first | exact room2 (by assumption) (by rfl) | exact room1 (by assumption) (by rfl) | exact room3 (by assumption) (by rfl) | exact room4 (by assumption) (by rfl) | (simp only [m_du, m_ku, m_1u, m_mu, m_tu]; omega) | decide)
        case mp => exact ⟨hc1, hod⟩
        intro r2 nw2 h2 tk2 F2 N2 hp2
        refine Made.elim hp2 ?_
        intro y dy le nt mn mx u1 u2 u3 u4 u5 u6 u7 u8 u9 n9 e2 q1 q2 q3 q4 q5 zm22 q6
        clear zm22
        subst e2
        k_steps
        rename Fr _ _ _ _ => kF3
        rename News _ _ _ _ => kN3
        exact hQ _ y dy le nt mn mx u1 u2 u3 u4 u5 u6 u7 u8 u9 n9 _ true _ _ _ nw2 kF3 kN3 (.head _) q1 q2 q3 q6 q5 hml rfl hmc hms (fun _ => rfl)
      | false =>
        k_steps
        refine ⟨?_⟩
        refine' MutSpec.use (mk_InternalNode w x c 3 _) ?mB ?mF ?mX ?mN ?mT ?mhd ?mhu ?mp ?_
        (case mB => k_asm); (case mF => k_asm); (case mX => k_asm); (case mN => k_asm); (case mT => k_asm); (case mhd => first | exact room2 (by assumption) (by rfl) | exact room1 (by assumption) (by rfl) | exact room3 (by assumption) (by rfl) | exact room4 (by assumption) (by rfl) | (simp only [m_dd, m_kd, m_1d, m_md, m_td]; omega) | decide); (case mhu => first | exact room2 (by assumption) (by rfl) | exact room1 (by assumption) (by rfl) | exact room3 (by assumption) (by rfl) | exact room4 (by assumption) (by rfl) | (simp only [m_du, m_ku, m_1u, m_mu, m_tu]; omega) | decide)
        case mp => exact ⟨hc1, hod⟩
        intro r2 nw2 h2 tk2 F2 N2 hp2
        refine Made.elim hp2 ?_
        intro y dy le nt mn mx u1 u2 u3 u4 u5 u6 u7 u8 u9 n9 e2 q1 q2 q3 q4 q5 zm22 q6
        clear zm22
        subst e2
        k_steps
        rename Fr _ _ _ _ => kF3
        rename News _ _ _ _ => kN3
        exact hQ _ y dy le nt mn mx u1 u2 u3 u4 u5 u6 u7 u8 u9 n9 _ false _ _ _ nw2 kF3 kN3 (.tail _ (.head _)) q1 q2 q3 q6 q5 hml rfl hmc hms (fun h => nomatch h)
    case rest2 =>
      intro C y dy le nt mn mx u1 u2 u3 u4 u5 u6 u7 u8 u9 n9 t5 b h2 tk2 m2 nw2 F2 N2 hC q1 q2 q3 q6 q5 hml2 hmn2 hmc2 hms2 hCb
      show wpAny _ _ (execs _ _) _ _ _
      clear N1 F1 hml hmc hms
      have hcH2 := q6 _ hcH
      have hD2 := q6 _ hD1
      have hc2 : confIs x c.vals nw2 := hc1.sub fun _ h => q6 _ h
      have hne2 : D ≠ le ∧ L' + 1 ≠ le := ⟨q5 _ hD1, q5 _ hcH⟩
      clear hc1 hD1 hcH q5 q6 hc hD
      refine cut (fun X => ∀ h tk m dk nk nw, (Fr g' L' h m) → (News g' L' h nw) → ((∀ q ∈ nw2, q ∈ nw)) → ((dk, lst [] nk) ∈ nw) → (dk ≠ le) → (m "root" = some (.bool b)) → (m "node" = some (.ref y)) → (m "conf" = some (.ref x)) → (m "script" = some (.ref D)) → (m "keys" = some (.ref dk)) → X h tk) ?mk1 ?rest3
      case mk1 =>
        intro Qb hQ
        k_steps
        with_reducible rename AllLt _ nw2 => lk
        rename Fr _ _ _ _ => kF3
        rename News _ _ _ _ => kN3
        exact hQ _ _ _ _ _ _ kF3 kN3 (fun _ h => .tail _ h) (.head _) (Nat.ne_of_gt (ktn_ltOf lk _ q3)) hml2 hmn2 hmc2 hms2 rfl
      case rest3 =>
        intro h3 tk3 m3 dk nk nw3 F3 N3 s3 hk3 hkl hmr hmn hmc hms hmk
        show wpAny _ _ (execs _ _) _ _ _
        clear N2 F2 hml2 hmn2 hmc2 hms2
        refine cut (fun X => ∀ h tk m dp np t nw, (Fr g' L' h m) → (News g' L' h nw) → ((∀ q ∈ nw3, q ∈ nw)) → ((dp, lst [.int 100 t] np) ∈ nw) → (dp ≠ le) → (m "root" = some (.bool b)) → (m "node" = some (.ref y)) → (m "conf" = some (.ref x)) → (m "script" = some (.ref D)) → (m "keys" = some (.ref dk)) → (m "pages" = some (.ref dp)) → X h tk) ?mk2 ?rest4
        case mk2 =>
          intro Qb hQ
          have q3' := s3 _ q3
          k_steps
          with_reducible rename AllLt _ nw3 => lk
          rename Fr _ _ _ _ => kF3
          rename News _ _ _ _ => kN3
          exact hQ _ _ _ _ _ _ _ kF3 kN3 (fun _ h => .tail _ h) (.head _) (Nat.ne_of_gt (ktn_ltOf lk _ q3')) hmr hmn hmc hms hmk rfl
        case rest4 =>
          intro h4 tk4 m4 dp np t4 nw4 F4 N4 s4 hp4 hpl hmr4 hmn4 hmc4 hms4 hmk4 hmp4
          show wpAny _ _ (execs _ _) _ _ _
          clear N3 F3 hmr hmn hmc hms hmk
          have sub := fun q hq => s4 q (s3 q hq)
          have hG : InnG w C y le x dk dp c nt mn mx (.int 3 t5) .none .none [] [100] [] [] [.int 100 t4] 0 nk np nw4 :=
            ⟨⟨dy, u1, u2, u3, u4, u5, u6, u7, u8, u9, n9, sub _ q1, sub _ q2⟩, sub _ q3, hc2.sub fun _ h => sub _ h, ⟨rfl, rfl, rfl, fun _ _ e => nomatch e⟩, s4 _ hk3, hp4, hkl, hpl⟩
          have hK : KpOk [] [100] [] [.int 100 t4] 0 := ⟨.nil, .cons _ _ .nil, .nil, rfl, Nat.le_refl _⟩
          have hD4 := sub _ hD2
          have hcH4 := sub _ hcH2
          clear q1 q2 q3 hk3 hp4 s3 s4 sub hc2 hD2 hcH2 hkl hpl
          refine wpAny_execs_cons (For_turn (by rfl) (by rfl) ?it)
          case it =>
            k_dflt (refine nameX_L F4 hms4 ?_)
            refine LoopT.mk D vs n (Gr w mean mg mb _ _ base g') g' m4 nw4 (InJ w C y le x (L' + 1) D c nt mn mx (.int 3 t5) .none .none b vs n) rfl ⟨KtsTurn.refl, B', X', T', D'⟩ F4 N4 (fun i m nw q => q.2.2.2.1) (InJ.mk hmr4 hmn4 hmc4 hD4 hcH4 hdH hmk4 hmp4 hG hK) ?turn ?done
            case turn =>
              intro i v m₁ nw₁ g₂ h₂ tk₂ I oI hcI hvi C' hJ' off F₂ N₂ Qt hT
              obtain ⟨kn, t, rfl, -⟩ := hI.at i v hvi
              refine InJ.elim hJ' ?_
              intro j1 j2 j3 j4 oc vc j5 hoc dk dp ks pg vs' vk vp n' nk np j6 j7 G K
              obtain ⟨T2, B2, X2, P2, D2⟩ := C'
              clear hG hK hmr4 hmn4 hmc4 hms4 hmk4 hmp4 hD4 hcH4
              clear T0 B X T B' X' T' D' N4 F4
              replace F₂ : Fr g₂ L' h₂ _ := F₂
              have hi : i < 100 := by
                have := (List.getElem?_eq_some_iff.mp hvi).1
                omega
              k_steps
              rename News _ _ _ _ => kN3
              refine storeX_C (by assumption) (news_rest kN3 (.tail _ j5)) rfl (.head rest_ne) hoc ?_
              intro h4 ok F4 N4 hok0
              have hchI : L' + 1 ≠ I := off _ j5
              obtain ⟨tk1, hok⟩ : ∃ t, ok.data = .cell (some (.int (kn.fmod 64) t)) := ⟨_, hok0⟩
              clear hok0
              generalize kn.fmod 64 = k at hok
              refine gen (fun X => ∀ nw4, (News g₂ L' h4 nw4) → ((L' + 1, ok) ∈ nw4) → ((I, oI) ∈ nw4) → (∀ q ∈ nw₁, Solid q.2 → q ∈ nw4) → X) (fun _ k => k _ N4 (.head _) (.tail _ (mem_rest (.head _) (Ne.symm hchI))) (fun q hq hs => .tail _ (mem_rest (.tail _ hq) (news_ne kN3 (o := q.2) (.tail _ hq) (.tail _ j5) fun e => hs.1 _ (by rw [e]; exact hoc))))) ?_
              intro nw4 N4' hcK hI4 keep4
              clear N4
              replace F4 : Fr g₂ L' h4 _ := F4
              refine gen (fun X => ∀ m4 : Str → Option Value, (m4 "root" = some (.bool b)) → (m4 "node" = some (.ref y)) → (m4 "conf" = some (.ref x)) → (m4 "keys" = some (.ref dk)) → (m4 "pages" = some (.ref dp)) → (m4 "n" = some (.int kn t)) → (Fr g₂ L' h4 m4) → X) (fun _ k => k _ ((if_neg (by decide)).trans j1) ((if_neg (by decide)).trans j2) ((if_neg (by decide)).trans j3) ((if_neg (by decide)).trans j6) ((if_neg (by decide)).trans j7) (if_pos rfl) F4) ?_
              intro m4 a1 a2 a3 a4 a5 an F4'
              have G4 := G.solid keep4
              have hleI : le ≠ I := off _ G.ent
              have hD4 := keep4 _ j4 (solid_list _ _)
              have hkI : ∀ q ∈ nw4, Solid q.2 → q ∈ rest I nw4 := fun q hq hs => mem_rest hq (news_ne N4' (o := q.2) hq hI4 fun e => hs.2 (e ▸ hcI))
              have hkl : vk.length = ks.length := K.ik.length
              have hpl : vp.length = pg.length := K.ip.length
              have hlen := K.len
              have hshort := K.short
              clear F4 j1 j2 j3 j4 j5 j6 j7 G kN3 keep4 hoc
              show wpAny _ _ (execs _ _) _ _ _
              refine wpAny_execs_cons (wpAny_mono (Q := fun f s' => Held (∃ tk, s' = { s with heap := h4, toks := tk } ∧ ((f = .cont ∧ k ∈ ks) ∨ (f = .next ∧ k ∉ ks)))) ?ifk (fun f s' hf => ?go) (fun _ _ e => e))
              case ifk =>
                k_steps
                rename News _ _ _ _ => kN5
                refine in_list_ints (PySem.IsL.isList (n := nk) (kN5 _ G4.keys).1) K.ik ?_
                by_cases hin : k ∈ ks
                · rw [show ks.any (· == k) = true from by simpa using hin]
                  k_steps
                  exact ⟨⟨_, rfl, .inl ⟨rfl, hin⟩⟩⟩
                · rw [show ks.any (· == k) = false from List.any_eq_false.mpr fun a ha => by simpa using fun e : a = k => hin (e ▸ ha)]
                  k_steps
                  exact ⟨⟨_, rfl, .inr ⟨rfl, hin⟩⟩⟩
              case go =>
                obtain ⟨tk5, rfl, hcase⟩ := hf.out
                rcases hcase with ⟨rfl, hin⟩ | ⟨rfl, hin⟩
                · exact hT _ _ _ _ _ _ (.inr rfl) ⟨T2, B2, X2, P2, D2⟩ F4' (news_rest N4' hI4) rest_ne (InJ.mk a1 a2 a3 (hkI _ hD4 (solid_list _ _)) (mem_rest hcK hchI) hok a4 a5 (G4.solid hkI) ⟨K.ik, K.ip, K.asc, hlen, Nat.le_succ_of_le hshort⟩)
                · show wpAny _ _ (execs _ _) _ _ _
                  refine cut (fun X => ∀ h tk m tp, (Fr g₂ L' h m) → (News g₂ L' h nw4) → (m "root" = some (.bool b)) → (m "node" = some (.ref y)) → (m "conf" = some (.ref x)) → (m "keys" = some (.ref dk)) → (m "pages" = some (.ref dp)) → (m "n" = some (.int kn t)) → (m "place" = some (.int (spot ks k : Nat) tp)) → X h tk) ?plc ?go2
                  case plc =>
                    intro Qb hQ
                    k_steps
                    refine ⟨?_⟩
                    k_dflt (refine LCt.ListComp_T F4' (by rfl) (by decide) (by rfl) (by decide) (by rfl) ?_)
                    k_dflt (refine nameX_L F4' a4 ?_)
                    k_dflt (refine LCt.CompSrcT.ledger (by rfl) F4' N4' G4.keys (by rw [List.size_toArray, sizeLine_eq]; omega) ?_)
                    intro g9
                    refine comp_restT (fun i ys nw => nw = nw4 ∧ ys.length = ((ks.take i).filter (fun j => decide (j < k))).length) ⟨rfl, rfl⟩ ?_ ?_
                    · rintro i v ys nw I2 oI2 C' oC D9 m₂ h tk E' hi hv ⟨rfl, hJl⟩ hC' hx F' N' off n1 n2 n3
                      obtain ⟨j, tj, rfl, hj⟩ := K.ik.at i v (by simpa using hv)
                      k_steps
                      · refine LCg.CompEnd.intro (by assumption) N' nw (fun _ h => h) off (.inr ⟨_, G4.keys, rfl, _, rfl⟩) ⟨by trivial, ?_⟩
                        have hjk : j < k := by assumption
                        rw [List.length_append, hJl, List.take_add_one, hj, List.filter_append, List.length_append]
                        simp [hjk]
                      · refine LCg.CompEnd.intro (by assumption) N' nw (fun _ h => h) off (.inr ⟨_, G4.keys, rfl, _, rfl⟩) ⟨by trivial, ?_⟩
                        have hjk : ¬ j < k := by omega
                        rw [hJl, List.take_add_one, hj, List.filter_append, List.length_append]
                        simp [hjk]
                    · rintro ys nw ⟨rfl, hJl⟩ D9 h tk F' N' o1
                      rw [List.size_toArray, hkl, List.take_length] at hJl
                      have hsp := spot_le ks k
                      replace hJl : ys.length = spot ks k := hJl
                      k_steps
                      refine ⟨?_⟩
                      refine call_len_list (items := ys.toArray) (PySem.IsL.isList (n := ys.length) (N' _ (.head _)).1) (by rw [List.size_toArray, hJl]; omega) ?_
                      rw [List.size_toArray, hJl]
                      k_steps
                      rename Fr _ _ _ _ => kFs
                      rename News _ _ _ _ => kNs
                      exact hQ _ _ _ _ kFs (fun q hq => kNs _ (.tail _ hq)) ((if_neg (by decide)).trans a1) ((if_neg (by decide)).trans a2) ((if_neg (by decide)).trans a3) ((if_neg (by decide)).trans a4) ((if_neg (by decide)).trans a5) ((if_neg (by decide)).trans an) rfl
                  case go2 =>
                    intro h6 tk6 m6 tp F6 N6 b1 b2 b3 b4 b5 bn bp
                    clear a1 a2 a3 a4 a5 an F4' N4'
                    have hsp := spot_le ks k
                    have hspi := @spot_iff k ks K.asc
                    show wpAny _ _ (execs _ _) _ _ _
                    refine cut (fun X => ∀ h tk m tp to old, (Fr g₂ L' h m) → (News g₂ L' h nw4) → (m "root" = some (.bool b)) → (m "node" = some (.ref y)) → (m "conf" = some (.ref x)) → (m "keys" = some (.ref dk)) → (m "pages" = some (.ref dp)) → (m "place" = some (.int (spot ks k : Nat) tp)) → (m "old" = some (.int old to)) → X h tk) ?old ?go3
                    case old =>
                      intro Qb hQ
                      obtain ⟨v0, hv0⟩ : ∃ v0, vp[spot ks k]? = some v0 := ⟨vp[spot ks k]'(by omega), List.getElem?_eq_getElem _⟩
                      obtain ⟨o0, to, rfl, ho0⟩ := K.ip.at _ v0 hv0
                      k_steps
                      · refine ⟨?_⟩
                        rename News _ _ _ _ => kNs
                        refine item_at kNs G4.pages hv0 (by omega) ?_
                        k_steps
                        rename Fr _ _ _ _ => kFs
                        rename News _ _ _ _ => kNs
                        exact hQ _ _ _ _ _ _ kFs kNs ((if_neg (by decide)).trans b1) ((if_neg (by decide)).trans b2) ((if_neg (by decide)).trans b3) ((if_neg (by decide)).trans b4) ((if_neg (by decide)).trans b5) ((if_neg (by decide)).trans bp) rfl
                      · rename News _ _ _ _ => kNs
                        refine ⟨?_⟩
                        refine call_len_list (items := vk.toArray) (PySem.IsL.isList (n := nk) (kNs _ G4.keys).1) (by simp; omega) ?_
                        k_steps
                        rename Fr _ _ _ _ => kFs
                        rename News _ _ _ _ => kNs
                        exact hQ _ _ _ _ _ _ kFs kNs ((if_neg (by decide)).trans b1) ((if_neg (by decide)).trans b2) ((if_neg (by decide)).trans b3) ((if_neg (by decide)).trans b4) ((if_neg (by decide)).trans b5) ((if_neg (by decide)).trans bp) rfl
                    case go3 =>
                      intro h7 tk7 m7 tp to old F7 N7 c1 c2 c3 c4 c5 cp co
                      clear b1 b2 b3 b4 b5 bn bp F6 N6
                      show wpAny _ _ (execs _ _) _ _ _
                      refine cut (fun X => ∀ h tk m tp to tn new, (Fr g₂ L' h m) → (News g₂ L' h nw4) → (m "root" = some (.bool b)) → (m "node" = some (.ref y)) → (m "conf" = some (.ref x)) → (m "keys" = some (.ref dk)) → (m "pages" = some (.ref dp)) → (m "place" = some (.int (spot ks k : Nat) tp)) → (m "old" = some (.int old to)) → (m "new" = some (.int new tn)) → X h tk) ?new ?go4
                      case new =>
                        intro Qb hQ
                        k_steps
                        refine ⟨?_⟩
                        refine call_len_list (items := vk.toArray) (PySem.IsL.isList (n := nk) (N7 _ G4.keys).1) (by simp; omega) ?_
                        k_steps
                        rename Fr _ _ _ _ => kFs
                        rename News _ _ _ _ => kNs
                        exact hQ _ _ _ _ _ _ _ kFs kNs ((if_neg (by decide)).trans c1) ((if_neg (by decide)).trans c2) ((if_neg (by decide)).trans c3) ((if_neg (by decide)).trans c4) ((if_neg (by decide)).trans c5) ((if_neg (by decide)).trans cp) ((if_neg (by decide)).trans co) rfl
                      case go4 =>
                        intro h8 tk8 m8 tp to tn new F8 N8 d1 d2 d3 d4 d5 dpl dold dnew
                        clear c1 c2 c3 c4 c5 cp co F7 N7
                        show wpAny _ _ (execs _ _) _ _ _
                        have hput := K.asc.put hin
                        generalize spot ks k = p at dpl hsp hspi hput
                        refine nodeIs.elim G4.node ?_
                        intro dy u1 u2 u3 u4 u5 u6 u7 u8 u9 n9 hy1 hy2
                        k_steps
                        refine ⟨?_⟩
                        refine' TreeSpec.use (ref_make w x c k old new tk1 to tn) ?mB ?mF ?mX ?mN ?mT ?mhd ?mhu ?mp ?_
                        (case mB => k_asm); (case mF => k_asm); (case mX => k_asm); (case mN => k_asm); (case mT => k_asm); (case mhd => first | exact room2 (by assumption) (by rfl) | exact room1 (by assumption) (by rfl) | exact room3 (by assumption) (by rfl) | exact room4 (by assumption) (by rfl) | (simp only [m_dd, m_kd, m_1d, m_md, m_td]; omega) | decide); (case mhu => first | exact room2 (by assumption) (by rfl) | exact room1 (by assumption) (by rfl) | exact room3 (by assumption) (by rfl) | exact room4 (by assumption) (by rfl) | (simp only [m_du, m_ku, m_1u, m_mu, m_tu]; omega) | decide)
                        case mp => exact G4.conf
                        intro r9 tl9 h9 tk9 F9 N9 ap9 hp9
                        obtain ⟨z, dz, z1, z2, z3, z4, z5, lz, nz, e9, e9'⟩ := hp9
                        subst e9 e9'
                        refine gen (fun X => ∀ nw9, (News g₂ L' h9 nw9) → ((∀ q ∈ nw4, q ∈ nw9)) → (refIs w x z k (.int old to) (.int new tn) nw9) → X) (fun _ k => k _ N9 (fun _ h => List.mem_append_right _ h) ⟨dz, z1, z2, z3, z4, z5, tk1, _, nz, .head _, .tail _ (.head _)⟩) ?_
                        intro nw9 N9' s9 hz9
                        clear N9 ap9
                        have G9 := G4.solid fun q hq _ => s9 q hq
                        have hD9 := s9 _ hD4
                        have hcK9 := s9 _ hcK
                        have hI9 := s9 _ hI4
                        clear hy1 hy2 G4 hD4 hcK hI4 hkI s9
                        refine nodeIs.elim G9.node ?_
                        intro dy u1 u2 u3 u4 u5 u6 u7 u8 u9 n9 hy1 hy2
                        k_steps
                        refine ⟨?_⟩
                        refine' TurnSpec.use (g₀ := g') (ref_insert w C y z le x nt mn mx (.int 3 t5) .none .none vs' ks (pg.take ks.length) (pg.drop 1) n' (p) k old new to tn hC) ?mXB ?mTB ?mT0 ?mD ?mB ?mF ?mX ?mN ?mT ?mhd ?mhu ?mp ?_
                        (case mB => k_asm); (case mF => k_asm); (case mX => k_asm); (case mN => k_asm); (case mT => k_asm); (case mhd => first | exact room2 (by assumption) (by rfl) | exact room1 (by assumption) (by rfl) | exact room3 (by assumption) (by rfl) | exact room4 (by assumption) (by rfl) | (simp only [m_dd, m_kd, m_1d, m_md, m_td]; omega) | decide); (case mhu => first | exact room2 (by assumption) (by rfl) | exact room1 (by assumption) (by rfl) | exact room3 (by assumption) (by rfl) | exact room4 (by assumption) (by rfl) | (simp only [m_du, m_ku, m_1u, m_mu, m_tu]; omega) | decide)
                        (case mXB => assumption); (case mTB => assumption); (case mT0 => first | assumption | exact KtsTurn.refl); (case mD => assumption)
                        case mp => exact ⟨G9.node, G9.ent, by have := G9.refs.1; omega, G9.refs, fun i j kk e1 e2 => K.asc.apt e1 e2, hz9, by have := G9.refs.1; omega, fun i j e => ⟨fun q => hin (q ▸ List.mem_of_getElem? e), hspi e⟩⟩
                        intro r5 nw5 g5 h5 tk5 T5 B5 X5 P5 D5 F5 N5 hp5
                        obtain ⟨e5, hn5, hl5, hr5, keep5⟩ := hp5
                        subst e5
                        rw [befores_put hlen hsp, afters_put hlen hsp] at hr5
                        have hk5 := keep5 _ G9.keys G9.nek (not5_list _ _)
                        have hp5 := keep5 _ G9.pages G9.nep (not5_list _ _)
                        have hD5 := keep5 _ hD9 hne2.1 (not5_list _ _)
                        have hcK5 := keep5 _ hcK9 hne2.2 (fun es n e => by have e : ok = dictOf es n := e; rw [e] at hok; cases hok)
                        have hI5 := keep5 _ hI9 (Ne.symm hleI) (fun es n e => by have e : oI = dictOf es n := e; rw [e] at hcI; exact absurd hcI (show ¬Value.type "dict" = Value.type "list_iterator" by decide))
                        have hc5 : confIs x c.vals nw5 := by
                          obtain ⟨dx, c1, c2⟩ := G9.conf
                          exact ⟨dx, keep5 _ c1 (news_ne N9' c1 G9.ent fun e => nomatch congrArg Obj.cls e) (fun es n e => nomatch congrArg Obj.cls e), keep5 _ c2 (news_ne N9' c2 G9.ent fun e => absurd (congrArg Obj.cls e) (show ¬Value.type "dict" = Value.type "list" by decide)) (not5_dict (es := []) (n := 0) (by decide))⟩
                        have hnek := G9.nek
                        have hnep := G9.nep
                        clear hy1 hy2 G9 hD9 hcK9 hI9 keep5 hz9 N9' T2 B2 X2 P2 D2
                        k_steps
                        refine ⟨?_⟩
                        rename Fr _ _ _ _ => kFs
                        rename News _ _ _ _ => kNs
                        refine slice_upto (n := nk) kFs kNs hk5 (by omega) (by omega) rfl ?_
                        intro B1 hh1 FB1 NB1 lB1
                        try dsimp only
                        k_steps
                        rename Fr _ _ _ _ => kFs
                        rename News _ _ _ _ => kNs
                        refine ⟨?_⟩
                        refine cat_lists (vs := vk.take (p)) (ws := [.int k tk1]) kFs kNs (.tail _ (.head _)) (.head _) (by simp; omega) ?_
                        intro B2 hh2 FB2 NB2 lB2
                        try dsimp only
                        k_steps
                        refine ⟨?_⟩
                        rename Fr _ _ _ _ => kFs
                        rename News _ _ _ _ => kNs
                        refine slice_from (n := nk) kFs kNs (.tail _ (.tail _ (.tail _ hk5))) (by omega) (by omega) rfl ?_
                        intro B3 hh3 FB3 NB3 lB3
                        try dsimp only
                        k_steps
                        rename Fr _ _ _ _ => kFs
                        rename News _ _ _ _ => kNs
                        refine ⟨?_⟩
                        refine cat_lists (vs := vk.take (p) ++ [.int k tk1]) (ws := vk.drop (p)) kFs kNs (.tail _ (.head _)) (.head _) (by simp; omega) ?_
                        intro dk2 hh4 FB4 NB4 lB4
                        rw [List.append_assoc, List.singleton_append] at NB4
                        refine gen (fun X => ∀ nwK, (News g5 L' hh4 nwK) → ((∀ q ∈ nw5, q ∈ nwK)) → ((dk2, lst (vk.take (p) ++ .int k tk1 :: vk.drop (p)) 0) ∈ nwK) → X) (fun _ k => k _ NB4 (fun _ h => .tail _ (.tail _ (.tail _ (.tail _ (.tail _ h))))) (.head _)) ?_
                        intro nwK NK sK hdk2
                        have hnek2 : dk2 ≠ le := Nat.ne_of_gt (lB4 _ (.tail _ (.tail _ (.tail _ (.tail _ hl5)))))
                        have hp6 := sK _ hp5
                        clear NB4 lB4 lB3 lB2 lB1 kNs hnek
                        try dsimp only
                        k_steps
                        refine ⟨?_⟩
                        rename Fr _ _ _ _ => kFs
                        rename News _ _ _ _ => kNs
                        refine slice_upto (n := np) kFs kNs hp6 (by omega) (by omega) rfl ?_
                        intro B1 hh1 FB1 NB1 lB1
                        try dsimp only
                        k_steps
                        rename Fr _ _ _ _ => kFs
                        rename News _ _ _ _ => kNs
                        refine ⟨?_⟩
                        refine cat_lists (vs := vp.take (p)) (ws := [.int old to, .int new tn]) kFs kNs (.tail _ (.head _)) (.head _) (by simp; omega) ?_
                        intro B2 hh2 FB2 NB2 lB2
                        try dsimp only
                        k_steps
                        refine ⟨?_⟩
                        rw [show ((p : Nat) : Int) + 1 = ((p + 1 : Nat) : Int) by omega]
                        rename Fr _ _ _ _ => kFs
                        rename News _ _ _ _ => kNs
                        refine slice_from (n := np) kFs kNs (.tail _ (.tail _ (.tail _ hp6))) (by omega) (by omega) rfl ?_
                        intro B3 hh3 FB3 NB3 lB3
                        try dsimp only
                        k_steps
                        rename Fr _ _ _ _ => kFs
                        rename News _ _ _ _ => kNs
                        refine ⟨?_⟩
                        refine cat_lists (vs := vp.take (p) ++ [.int old to, .int new tn]) (ws := vp.drop (p + 1)) kFs kNs (.tail _ (.head _)) (.head _) (by simp; omega) ?_
                        intro dp2 hh5 FB5 NB5 lB5
                        rw [List.append_assoc, List.cons_append, List.singleton_append] at NB5
                        refine gen (fun X => ∀ nwP, (News g5 L' hh5 nwP) → ((∀ q ∈ nwK, q ∈ nwP)) → ((dp2, lst (vp.take (p) ++ .int old to :: .int new tn :: vp.drop (p + 1)) 0) ∈ nwP) → X) (fun _ k => k _ NB5 (fun _ h => .tail _ (.tail _ (.tail _ (.tail _ (.tail _ h))))) (.head _)) ?_
                        intro nwP NP sP hdp2
                        have hnep2 : dp2 ≠ le := Nat.ne_of_gt (lB5 _ (.tail _ (.tail _ (.tail _ (.tail _ (sK _ hl5))))))
                        clear NB5 lB5 lB3 lB2 lB1 kNs hnep
                        have hvl := hr5.1
                        have GP : InnG w C y le x dk2 dp2 c nt mn mx (.int 3 t5) .none .none (ks.take (p) ++ k :: ks.drop (p)) (pg.take (p) ++ old :: new :: pg.drop (p + 1)) (vs'.take (p) ++ .ref z :: vs'.drop (p))
                            (vk.take (p) ++ .int k tk1 :: vk.drop (p)) (vp.take (p) ++ .int old to :: .int new tn :: vp.drop (p + 1)) (n' + 1) 0 0 nwP :=
                          ⟨hn5.sub fun q hq => sP _ (sK _ hq), sP _ (sK _ hl5), hc5.solid fun q hq _ => sP _ (sK _ hq), by rw [ins_len hsp]; exact hr5.sub fun q hq => sP _ (sK _ hq), sP _ hdk2, hdp2, hnek2, hnep2⟩
                        have KP : KpOk (ks.take (p) ++ k :: ks.drop (p)) (pg.take (p) ++ old :: new :: pg.drop (p + 1)) (vk.take (p) ++ .int k tk1 :: vk.drop (p)) (vp.take (p) ++ .int old to :: .int new tn :: vp.drop (p + 1)) (i + 1) :=
                          ⟨(K.ik.take _).append (.cons _ _ (K.ik.drop _)), (K.ip.take _).append (.cons _ _ (.cons _ _ (K.ip.drop _))), hput, by rw [ins_len hsp]; simp; omega, by rw [ins_len hsp]; omega⟩
                        have hkl2 := KP.ik.length
                        have hpl2 := KP.ip.length
                        have hlen2 := KP.len
                        have hshort2 := KP.short
                        have hpos2 : 0 < (vs'.take (p) ++ Value.ref z :: vs'.drop (p)).length := by rw [List.length_append, List.length_cons]; omega
                        have hDP := sP _ (sK _ hD5)
                        have hcKP := sP _ (sK _ hcK5)
                        have hIP := sP _ (sK _ hI5)
                        clear hr5 hn5 hl5 hdk2 hdp2 hnek2 hnep2 hc5 hk5 hp5 hp6 hD5 hcK5 hI5 sP sK hvl K hkl hpl hlen hshort hsp hspi hin
                        generalize ks.take (p) ++ k :: ks.drop (p) = ks2 at *
                        generalize pg.take (p) ++ old :: new :: pg.drop (p + 1) = pg2 at *
                        generalize vs'.take (p) ++ Value.ref z :: vs'.drop (p) = vs2 at *
                        generalize vk.take (p) ++ Value.int k tk1 :: vk.drop (p) = vk2 at *
                        generalize vp.take (p) ++ Value.int old to :: Value.int new tn :: vp.drop (p + 1) = vp2 at *
                        have hvl2 := GP.refs.1
                        refine nodeIs.elim GP.node ?_
                        intro dy u1 u2 u3 u4 u5 u6 u7 u8 u9 n9 hy1 hy2
                        try dsimp only
                        k_steps
                        refine ⟨?_⟩
                        refine' TreeSpec.use (lrefs w le x vs2 (Row ks2 pg2) (n' + 1)) ?mB ?mF ?mX ?mN ?mT ?mhd ?mhu ?mp ?_
                        (case mB => k_asm); (case mF => k_asm); (case mX => k_asm); (case mN => k_asm); (case mT => k_asm); (case mhd => first | exact room2 (by assumption) (by rfl) | exact room1 (by assumption) (by rfl) | exact room3 (by assumption) (by rfl) | exact room4 (by assumption) (by rfl) | (simp only [m_dd, m_kd, m_1d, m_md, m_td]; omega) | decide); (case mhu => first | exact room2 (by assumption) (by rfl) | exact room1 (by assumption) (by rfl) | exact room3 (by assumption) (by rfl) | exact room4 (by assumption) (by rfl) | (simp only [m_du, m_ku, m_1u, m_mu, m_tu]; omega) | decide)
                        case mp => exact ⟨GP.ent, by omega, by have h := RefRow.ofBA GP.refs; rwa [row_zip] at h⟩
                        intro rA tlA hA tkA FA NA apA hpA
                        obtain ⟨DA, usA, eA, hDA, hPA⟩ := hpA
                        subst eA
                        refine gen (fun X => ∀ nwA, (News g5 L' hA nwA) → ((∀ q ∈ nwP, q ∈ nwA)) → (∀ q ∈ tlA, q ∈ nwA) → X) (fun _ k => k _ NA (fun _ h => List.mem_append_right _ h) (fun _ h => List.mem_append_left _ h)) ?_
                        intro nwA NA' sA htA
                        clear NA apA
                        k_steps
                        refine ⟨?_⟩
                        refine' TurnSpec.use (g₀ := g') (lrow w dk2 dp2 vk2 vp2 ks2 pg2 0 0) ?mXB ?mTB ?mT0 ?mD ?mB ?mF ?mX ?mN ?mT ?mhd ?mhu ?mp ?_
                        (case mB => k_asm); (case mF => k_asm); (case mX => k_asm); (case mN => k_asm); (case mT => k_asm); (case mhd => first | exact room2 (by assumption) (by rfl) | exact room1 (by assumption) (by rfl) | exact room3 (by assumption) (by rfl) | exact room4 (by assumption) (by rfl) | (simp only [m_dd, m_kd, m_1d, m_md, m_td]; omega) | decide); (case mhu => first | exact room2 (by assumption) (by rfl) | exact room1 (by assumption) (by rfl) | exact room3 (by assumption) (by rfl) | exact room4 (by assumption) (by rfl) | (simp only [m_du, m_ku, m_1u, m_mu, m_tu]; omega) | decide)
                        (case mXB => assumption); (case mTB => assumption); (case mT0 => first | assumption | exact KtsTurn.refl); (case mD => assumption)
                        case mp => exact ⟨sA _ GP.keys, sA _ GP.pages, KP.ik, KP.ip, by omega, by omega⟩
                        intro rB nwB gB hB tkB TB2 BB XB2 PB DB2 FB NB hpB
                        obtain ⟨DB, usB, eB, hDB, hPB, sB⟩ := hpB
                        subst eB
                        clear T5 B5 X5 P5 D5
                        obtain ⟨hq1, hq2⟩ := trips_same (news := nwB) hPA hPB (fun q hq => sB _ (htA _ hq)) (fun q hq => hq)
                        try dsimp only
                        k_steps
                        refine ⟨?_⟩
                        refine ne_same (n := 1) (T := "list") NB (.inr rfl) (sB _ (htA _ hDA)) hDB hq1 hq2 (by k_units) ?_
                        clear hq1 hq2 hPA hPB
                        have hy1' := sB _ (sA _ hy1)
                        have hy2' := sB _ (sA _ hy2)
                        clear hy1 hy2
                        have hleB := sB _ (sA _ GP.ent)
                        have hdkB := sB _ (sA _ GP.keys)
                        k_steps
                        rename News _ _ _ _ => kNs
                        refine ⟨?_⟩
                        refine kgr_truthy kNs hleB rfl rfl (by omega) ?_
                        have hemp : vs2.isEmpty = false := by
                          cases vs2 with
                          | nil => exact absurd hpos2 (Nat.lt_irrefl 0)
                          | cons a b => rfl
                        rw [hemp]
                        k_steps
                        rename News _ _ _ _ => kNs
                        refine ⟨?_⟩
                        refine call_len_list (items := vs2.toArray) (PySem.IsL.isList (n := n' + 1) (kNs _ hleB).1) (by rw [List.size_toArray]; omega) ?_
                        rw [List.size_toArray, hvl2]
                        k_steps
                        rename News _ _ _ _ => kNs
                        refine ⟨?_⟩
                        refine call_len_list (items := vk2.toArray) (PySem.IsL.isList (n := 0) (kNs _ hdkB).1) (by rw [List.size_toArray]; omega) ?_
                        rw [List.size_toArray, hkl2]
                        have hIB := sB _ (sA _ hIP)
                        have hcKB := sB _ (sA _ hcKP)
                        have hDB' := sB _ (sA _ hDP)
                        have GB := GP.solid fun q hq _ => sB _ (sA _ hq)
                        have hkIB : ∀ q ∈ nwB, Solid q.2 → q ∈ rest I nwB := fun q hq hs => mem_rest hq (news_ne NB (o := q.2) hq hIB fun e => hs.2 (e ▸ hcI))
                        k_steps
                        · exfalso
                          omega
                        · rename Fr _ _ _ _ => kFs
                          rename News _ _ _ _ => kNs
                          exact hT _ _ _ _ _ _ (.inl rfl) ⟨TB2, BB, XB2, PB, DB2⟩ kFs (news_rest kNs hIB) rest_ne (InJ.mk ((if_neg (by decide)).trans ((if_neg (by decide)).trans d1)) ((if_neg (by decide)).trans ((if_neg (by decide)).trans d2)) ((if_neg (by decide)).trans ((if_neg (by decide)).trans d3)) (hkIB _ hDB' (solid_list _ _)) (mem_rest hcKB hchI) hok ((if_neg (by decide)).trans (if_pos rfl)) (if_pos rfl) (GB.solid hkIB) KP)
            case done =>
              intro m₁ nw₁ g₂ h₂ tk₂ C' hJ' F₂ N₂
              replace F₂ : Fr g₂ L' h₂ m₁ := F₂
              replace N₂ : News g₂ L' h₂ nw₁ := N₂
              refine InJ.elim hJ' ?_
              intro j1 j2 j3 j4 oc vc j5 hoc dk dp ks pg vs' vk vp n' nk np j6 j7 G K
              clear j4 j5 hoc
              obtain ⟨T2, BL, X2, P2, D2⟩ := C'
              clear hG hK hmr4 hmn4 hmc4 hms4 hmk4 hmp4 hD4 hcH4 T0 B X T B' X' T' D' N4 F4
              have hkl : vk.length = ks.length := K.ik.length
              have hpl : vp.length = pg.length := K.ip.length
              have hlen := K.len
              have hshort := K.short
              have hvl := G.refs.1
              have hR : RefRow w x nw₁ vs' (Row ks pg) := by
                have h := RefRow.ofBA G.refs
                rwa [row_zip] at h
              show wpAny _ _ (execs _ _) _ _ _
              refine nodeIs.elim G.node ?_
              intro dy u1 u2 u3 u4 u5 u6 u7 u8 u9 n9 hy1 hy2
              k_steps
              refine ⟨?_⟩
              refine' MutSpec.use (node_split w C y le x nt mn mx 301 (.int 3 t5) .none .none vs' n' (OneOf.two (P := OneOf anyNode) hC (.tail _ (.tail _ (.head _))) (.tail _ (.tail _ (.tail _ (.head _)))))) ?mB ?mF ?mX ?mN ?mT ?mhd ?mhu ?mp ?_
              (case mB => k_asm); (case mF => k_asm); (case mX => k_asm); (case mN => k_asm); (case mT => k_asm); (case mhd => first | exact room2 (by assumption) (by rfl) | exact room1 (by assumption) (by rfl) | exact room3 (by assumption) (by rfl) | exact room4 (by assumption) (by rfl) | (simp only [m_dd, m_kd, m_1d, m_md, m_td]; omega) | decide); (case mhu => first | exact room2 (by assumption) (by rfl) | exact room1 (by assumption) (by rfl) | exact room3 (by assumption) (by rfl) | exact room4 (by assumption) (by rfl) | (simp only [m_du, m_ku, m_1u, m_mu, m_tu]; omega) | decide)
              case mp => exact ⟨G.node, G.ent, by omega⟩
              intro r8 nw8 h8 tk8 F8 N8 hp8
              obtain ⟨B1, B2, e8, hB1, hB2, hn8, keep8⟩ := hp8
              subst e8
              rw [hvl] at hB1 hB2
              have hR8 := hR.kept9 keep8
              have hne8 := fun q => parts_ne (hf := ks.length / 2) N8 hR8 K.asc hvl hB1 hB2 q
              have hk8 := keep8 _ G.keys (not9_list _ _)
              have hp8 := keep8 _ G.pages (not9_list _ _)
              have hc8 := G.conf.kept9 keep8
              have e2 : (ks.length : Int).fdiv 2 = ((ks.length / 2 : Nat) : Int) := by
                rw [Int.fdiv_eq_ediv_of_nonneg _ (by decide)]; omega
              clear hy1 hy2 G hR keep8
              refine nodeIs.elim hn8 ?_
              intro dz z1 z2 z3 z4 z5 z6 z7 z8 z9 n99 hz1 hz2
              k_steps
              rename News _ _ _ _ => kN9
              refine ⟨?_⟩
              refine call_len_list (items := vk.toArray) (PySem.IsL.isList (n := nk) (kN9 _ hk8).1) (by rw [List.size_toArray]; omega) ?_
              rw [List.size_toArray, hkl]
              k_steps
              rename Heap => hA
              rename Fr _ _ _ _ => kFh
              refine gen (fun X => ∀ (m4 : Str → Option Value) (th : Tok), (m4 "half" = some (.int ((ks.length / 2 : Nat) : Int) th)) → (m4 "keys" = some (.ref dk)) → (m4 "pages" = some (.ref dp)) → (m4 "node" = some (.ref y)) → (m4 "root" = some (.bool b)) → (m4 "conf" = some (.ref x)) → (m4 "upper" = some (.ref B1)) → (Fr g₂ L' hA m4) → X) (fun _ k => k _ _ (by rw [← e2]; exact if_pos rfl) ((if_neg (by decide)).trans ((if_neg (by decide)).trans j6)) ((if_neg (by decide)).trans ((if_neg (by decide)).trans j7)) ((if_neg (by decide)).trans ((if_neg (by decide)).trans j2)) ((if_neg (by decide)).trans ((if_neg (by decide)).trans j1)) ((if_neg (by decide)).trans ((if_neg (by decide)).trans j3)) ((if_neg (by decide)).trans (if_pos rfl)) kFh) ?_
              intro m4 th b1 b2 b3 b4 b5 b6 b7 kF4
              clear kFh e2 j1 j2 j3 j6 j7
              have hf1 : ks.length / 2 ≤ ks.length := by omega
              have hf2 : 0 < ks.length → ks.length / 2 < ks.length := by omega
              generalize ks.length / 2 = hf at *
              refine ⟨?_⟩
              refine' TreeSpec.use (lrefs w B1 x (vs'.drop hf) ((Row ks pg).drop hf) 0) ?mB ?mF ?mX ?mN ?mT ?mhd ?mhu ?mp ?_
              (case mB => k_asm); (case mF => k_asm); (case mX => k_asm); (case mN => k_asm); (case mT => k_asm); (case mhd => first | exact room2 (by assumption) (by rfl) | exact room1 (by assumption) (by rfl) | exact room3 (by assumption) (by rfl) | exact room4 (by assumption) (by rfl) | (simp only [m_dd, m_kd, m_1d, m_md, m_td]; omega) | decide); (case mhu => first | exact room2 (by assumption) (by rfl) | exact room1 (by assumption) (by rfl) | exact room3 (by assumption) (by rfl) | exact room4 (by assumption) (by rfl) | (simp only [m_du, m_ku, m_1u, m_mu, m_tu]; omega) | decide)
              case mp => exact ⟨hB1, by simp; omega, All2.drop _ hR8⟩
              intro r9 tl9 h9 tk9 F9 N9 ap9 hp9
              obtain ⟨D9, us9, e9, hD9, hP9⟩ := hp9
              subst e9
              refine gen (fun X => ∀ nwA, (News g₂ L' h9 nwA) → ((∀ q ∈ nw8, q ∈ nwA)) → ((D9, lst us9 us9.length) ∈ nwA) → (TripsAre nwA us9 ((Row ks pg).drop hf)) → X) (fun _ k => k _ N9 (fun _ h => List.mem_append_right _ h) (List.mem_append_left _ hD9) (hP9.mono fun _ h => List.mem_append_left _ h)) ?_
              intro nwA NA sA hDA hPA
              clear N9 ap9 hP9 hD9
              have hz1A := sA _ hz1
              have hz2A := sA _ hz2
              clear hz1 hz2
              k_steps
              refine ⟨?_⟩
              refine' TreeSpec.use (lrefs w B2 x (vs'.take hf) ((Row ks pg).take hf) 0) ?mB ?mF ?mX ?mN ?mT ?mhd ?mhu ?mp ?_
              (case mB => k_asm); (case mF => k_asm); (case mX => k_asm); (case mN => k_asm); (case mT => k_asm); (case mhd => first | exact room2 (by assumption) (by rfl) | exact room1 (by assumption) (by rfl) | exact room3 (by assumption) (by rfl) | exact room4 (by assumption) (by rfl) | (simp only [m_dd, m_kd, m_1d, m_md, m_td]; omega) | decide); (case mhu => first | exact room2 (by assumption) (by rfl) | exact room1 (by assumption) (by rfl) | exact room3 (by assumption) (by rfl) | exact room4 (by assumption) (by rfl) | (simp only [m_du, m_ku, m_1u, m_mu, m_tu]; omega) | decide)
              case mp => exact ⟨sA _ hB2, by simp; omega, RefRow.sub sA (All2.take _ hR8)⟩
              intro r10 tl10 h10 tk10 F10 N10 ap10 hp10
              obtain ⟨D10, us10, e10, hD10, hP10⟩ := hp10
              subst e10
              refine gen (fun X => ∀ nwB, (News g₂ L' h10 nwB) → ((∀ q ∈ nwA, q ∈ nwB)) → ((D10, lst us10 us10.length) ∈ nwB) → (TripsAre nwB us10 ((Row ks pg).take hf)) → X) (fun _ k => k _ N10 (fun _ h => List.mem_append_right _ h) (List.mem_append_left _ hD10) (hP10.mono fun _ h => List.mem_append_left _ h)) ?_
              intro nwB NB sB hDB hPB
              clear N10 ap10 hP10 hD10
              have hkB := sB _ (sA _ hk8)
              have hpB := sB _ (sA _ hp8)
              k_steps
              refine ⟨?_⟩
              rename Fr _ _ _ _ => kFs
              rename News _ _ _ _ => kNs
              refine slice_upto (n := nk) kFs kNs hkB (by omega) (by omega) rfl ?_
              intro Bk hh1 FB1 NB1 lB1
              try dsimp only
              k_steps
              refine ⟨?_⟩
              rw [show ((hf : Nat) : Int) + 1 = ((hf + 1 : Nat) : Int) by omega]
              rename Fr _ _ _ _ => kFs
              rename News _ _ _ _ => kNs
              refine slice_upto (n := np) kFs kNs (.tail _ hpB) (by omega) (by omega) rfl ?_
              intro Bp hh2 FB2 NB2 lB2
              try dsimp only
              k_steps
              refine ⟨?_⟩
              refine' TurnSpec.use (g₀ := g') (lrow w Bk Bp (vk.take hf) (vp.take (hf + 1)) (ks.take hf) (pg.take (hf + 1)) 0 0) ?mXB ?mTB ?mT0 ?mD ?mB ?mF ?mX ?mN ?mT ?mhd ?mhu ?mp ?_
              (case mB => k_asm); (case mF => k_asm); (case mX => k_asm); (case mN => k_asm); (case mT => k_asm); (case mhd => first | exact room2 (by assumption) (by rfl) | exact room1 (by assumption) (by rfl) | exact room3 (by assumption) (by rfl) | exact room4 (by assumption) (by rfl) | (simp only [m_dd, m_kd, m_1d, m_md, m_td]; omega) | decide); (case mhu => first | exact room2 (by assumption) (by rfl) | exact room1 (by assumption) (by rfl) | exact room3 (by assumption) (by rfl) | exact room4 (by assumption) (by rfl) | (simp only [m_du, m_ku, m_1u, m_mu, m_tu]; omega) | decide)
              (case mXB => assumption); (case mTB => assumption); (case mT0 => first | assumption | exact KtsTurn.refl); (case mD => assumption)
              case mp => exact ⟨.tail _ (.head _), .head _, K.ik.take _, K.ip.take _, by simp; omega, by simp; omega⟩
              intro r11 nwC gC h11 tkC TC BC XC PC DC FC NC hpC
              obtain ⟨D11, us11, e11, hDC, hPC, sC⟩ := hpC
              subst e11
              rw [← Row.take] at hPC
              have sBC : ∀ q ∈ nwB, q ∈ nwC := fun q hq => sC _ (.tail _ (.tail _ hq))
              clear T2 BL X2 P2 D2 sC
              obtain ⟨hq1, hq2⟩ := trips_same (news := nwC) hPB hPC (fun q hq => sBC _ hq) (fun q hq => hq)
              try dsimp only
              k_steps
              refine ⟨?_⟩
              refine ne_same (n := 1) (T := "list") NC (.inr rfl) (sBC _ hDB) hDC hq1 hq2 (by k_units) ?_
              clear hq1 hq2 hPB hPC hz1A hz2A
              have hkC := sBC _ hkB
              have hpC := sBC _ hpB
              k_steps
              refine ⟨?_⟩
              rename Fr _ _ _ _ => kFs
              rename News _ _ _ _ => kNs
              refine slice_from (n := nk) kFs kNs hkC (by omega) (by omega) rfl ?_
              intro Bk2 hh3 FB3 NB3 lB3
              try dsimp only
              k_steps
              refine ⟨?_⟩
              rename Fr _ _ _ _ => kFs
              rename News _ _ _ _ => kNs
              refine slice_from (n := np) kFs kNs (.tail _ hpC) (by omega) (by omega) rfl ?_
              intro Bp2 hh4 FB4 NB4 lB4
              try dsimp only
              k_steps
              refine ⟨?_⟩
              refine' TurnSpec.use (g₀ := g') (lrow w Bk2 Bp2 (vk.drop hf) (vp.drop hf) (ks.drop hf) (pg.drop hf) 0 0) ?mXB ?mTB ?mT0 ?mD ?mB ?mF ?mX ?mN ?mT ?mhd ?mhu ?mp ?_
              (case mB => k_asm); (case mF => k_asm); (case mX => k_asm); (case mN => k_asm); (case mT => k_asm); (case mhd => first | exact room2 (by assumption) (by rfl) | exact room1 (by assumption) (by rfl) | exact room3 (by assumption) (by rfl) | exact room4 (by assumption) (by rfl) | (simp only [m_dd, m_kd, m_1d, m_md, m_td]; omega) | decide); (case mhu => first | exact room2 (by assumption) (by rfl) | exact room1 (by assumption) (by rfl) | exact room3 (by assumption) (by rfl) | exact room4 (by assumption) (by rfl) | (simp only [m_du, m_ku, m_1u, m_mu, m_tu]; omega) | decide)
              (case mXB => assumption); (case mTB => assumption); (case mT0 => first | assumption | exact KtsTurn.refl); (case mD => assumption)
              case mp => exact ⟨.tail _ (.head _), .head _, K.ik.drop _, K.ip.drop _, by simp; omega, by simp; omega⟩
              intro r12 nwD gD h12 tkD TD BD XD PD DD FD ND hpD
              obtain ⟨D12, us12, e12, hDD, hPD, sD⟩ := hpD
              subst e12
              rw [← Row.drop] at hPD
              have sAD : ∀ q ∈ nwA, q ∈ nwD := fun q hq => sD _ (.tail _ (.tail _ (sBC _ (sB _ hq))))
              clear TC BC XC PC DC sD
              obtain ⟨hq1, hq2⟩ := trips_same (news := nwD) hPA hPD (fun q hq => sAD _ hq) (fun q hq => hq)
              try dsimp only
              k_steps
              refine ⟨?_⟩
              refine ne_same (n := 1) (T := "list") ND (.inr rfl) (sAD _ hDA) hDD hq1 hq2 (by k_units) ?_
              clear hq1 hq2 hPA hPD
              have s8D : ∀ q ∈ nw8, q ∈ nwD := fun q hq => sAD _ (sA _ hq)
              clear sA sAD sB sBC hkB hpB hkC hpC
              have hcD : confIs x c.vals nwD := hc8.solid fun q hq _ => s8D _ hq
              k_steps
              refine ⟨?_⟩
              refine' MutSpec.use (mk_InternalNode w x c 4 _) ?mB ?mF ?mX ?mN ?mT ?mhd ?mhu ?mp ?_
              (case mB => k_asm); (case mF => k_asm); (case mX => k_asm); (case mN => k_asm); (case mT => k_asm); (case mhd => first | exact room2 (by assumption) (by rfl) | exact room1 (by assumption) (by rfl) | exact room3 (by assumption) (by rfl) | exact room4 (by assumption) (by rfl) | (simp only [m_dd, m_kd, m_1d, m_md, m_td]; omega) | decide); (case mhu => first | exact room2 (by assumption) (by rfl) | exact room1 (by assumption) (by rfl) | exact room3 (by assumption) (by rfl) | exact room4 (by assumption) (by rfl) | (simp only [m_du, m_ku, m_1u, m_mu, m_tu]; omega) | decide)
              case mp => exact ⟨hcD, hod⟩
              intro r13 nwE h13 tkE FE NE hpE
              refine Made.elim hpE ?_
              intro o d0 le0 nt1 mn1 mx1 w1 w2 w3 w4 w5 w6 w7 w8 w9 n1 e13 ho1 ho2 zm19 hne zm21 zm22 sE
              clear zm19 zm21 zm22
              subst e13
              replace ho1 : (o, instObj 629 d0) ∈ rest d0 nwE := mem_rest ho1 (news_ne NE ho1 ho2 fun e => nomatch congrArg Obj.cls e)
              replace NE := news_rest NE ho2
              have s8E : ∀ q ∈ nw8, q ∈ rest d0 nwE := fun q hq => mem_rest (sE _ (s8D _ hq)) (hne _ (s8D _ hq))
              clear ho2 sE hne
              k_steps
              rename News _ _ _ _ => kN6
              rename Fr _ _ _ _ => kF6
              refine' set_dict (dx := d0) (news' := (d0, nodeDict w w1 w2 w3 w4 w5 w6 w7 w8 w9 x nt1 mn1 mx1 301 B1 (.int 4 _) .none .none n1) :: rest d0 nwE) kF6 ?k2 kN6 (InstAt.of_news kN6 (.tail _ ho1) (.head _)) rfl ?k6 ?k7 ?k8 ?k9 rfl rfl (.head rest_ne) (Nat.le_of_ble_eq_true rfl) ?_
              case k2 => k_asm
              case k6 => k_is
              case k7 => k_is
              case k8 => k_is
              case k9 => k_is
              intro h14 F14 N14
              refine gen (fun X => ∀ nwF, (News gD L' h14 nwF) → ((∀ q ∈ nw8, q ∈ nwF)) → ∀ t14, (nodeIs w 629 o B1 x nt1 mn1 mx1 301 (.int 4 t14) .none .none nwF) → X) (fun _ k => k _ N14 (fun q hq => .tail _ (s8E q hq)) _ ⟨d0, w1, w2, w3, w4, w5, w6, w7, w8, w9, n1, .tail _ ho1, .head _⟩) ?_
              intro nwF NF s8F t14 hn0
              clear N14 s8E ho1 s8D hcD
              have hIf : HoldIf := ⟨⟩
              k_steps
              refine ⟨?_⟩
              with_reducible rename HoldIf => hIf
              clear hIf
              rename Heap => hA
              rename Fr _ _ _ _ => kFh
              rename News _ _ _ _ => kNh
              refine gen (fun X => ∀ (m5 : Str → Option Value), (m5 "half" = some (.int (hf : Nat) th)) → (m5 "keys" = some (.ref dk)) → (m5 "pages" = some (.ref dp)) → (m5 "node" = some (.ref y)) → (m5 "root" = some (.bool b)) → (m5 "conf" = some (.ref x)) → (m5 "other" = some (.ref o)) → (Fr gD L' hA m5) → X) (fun _ k => k _ ((if_neg (by decide)).trans ((if_neg (by decide)).trans b1)) ((if_neg (by decide)).trans ((if_neg (by decide)).trans b2)) ((if_neg (by decide)).trans ((if_neg (by decide)).trans b3)) ((if_neg (by decide)).trans ((if_neg (by decide)).trans b4)) ((if_neg (by decide)).trans ((if_neg (by decide)).trans b5)) ((if_neg (by decide)).trans ((if_neg (by decide)).trans b6)) (if_pos rfl) kFh) ?_
              intro m5 b1' b2' b3' b4' b5' b6' b8' kF5
              clear kFh b1 b2 b3 b4 b5 b6 b7
              clear hDA hDB hDC hDD lB1 lB2 lB3 lB4
              refine cutG (fun X => InTail w C y B2 x dk dp L' c nt mn mx (.int 3 t5) ks pg vs' vk vp hf nk np b (Gr w mean mg mb (envX cn ⟨.function, nms, ig, ic, mo⟩ L a ccd cl :: outer) (ktrTop dpt un gd cn ⟨.function, nms, ig, ic, mo⟩ L a ccd cl outer) base g') (X .next)) ?popf ?tail
              case popf =>
                intro Qb hQ
                have hB2F := s8F _ hB2
                have hkF := s8F _ hk8
                have hpF := s8F _ hp8
                k_steps
                rename News _ _ _ _ => kNs
                refine ⟨?_⟩
                refine kgr_truthy kNs hkF rfl rfl (by omega) ?_
                cases hks : vk.isEmpty with
                | true =>
                  dsimp only [Bool.not]
                  k_steps
                  rename News _ _ _ _ => kNs
                  rename Fr _ _ _ _ => kFs
                  exact hQ _ _ _ _ _ nwF ⟨TD, BD, XD, PD, DD⟩ kFs kNs b1' b2' b3' b4' b5' b6' (hn8.sub s8F) hB2F (hc8.solid fun q hq _ => s8F _ hq) hkF hpF (RefRow.sub s8F (All2.take _ hR8))
                | false =>
                  dsimp only [Bool.not]
                  have hk0 : 0 < ks.length := by
                    rw [← hkl]
                    cases vk with
                    | nil => cases hks
                    | cons => exact Nat.succ_pos _
                  have hfl := hf2 hk0
                  have hB12 := hne8 hfl
                  obtain ⟨v0, hv0⟩ : ∃ v0, vs'[hf]? = some v0 := ⟨vs'[hf]'(by omega), List.getElem?_eq_getElem _⟩
                  obtain ⟨r0, hr0, a0, ta, tb, rfl, hz0⟩ := (RefRow.sub s8F hR8).get hv0
                  obtain ⟨hr1, hr2, hr3⟩ := Row.part hr0
                  have hdr : vs'.drop hf = .ref a0 :: vs'.drop (hf + 1) := by
                    rw [List.drop_eq_getElem_cons (by omega)]
                    congr 1
                    exact Option.some.inj ((List.getElem?_eq_getElem _).symm.trans hv0)
                  have hB1F := s8F _ hB1
                  rw [hdr] at hB1F
                  refine nodeIs.elim hn0 ?_
                  intro d0' y1 y2 y3 y4 y5 y6 y7 y8 y9 nn9 ho1 ho2
                  k_steps
                  refine ⟨?_⟩
                  rename News _ _ _ _ => kNp
                  have lB1 := Loner.list kNp hB1F
                  have hdkB := ints_ne kNp K.ik hkF hB1F
                  have hdpB := ints_ne kNp K.ip hpF hB1F
                  refine' MutSpec.use (node_pop w 629 o a0 B1 x nt1 mn1 mx1 301 (.int 4 t14) .none .none (vs'.drop (hf + 1)) 0 (.tail _ (.tail _ (.tail _ (.head _))))) ?mB ?mF ?mX ?mN ?mT ?mhd ?mhu ?mp ?_
                  (case mB => k_asm); (case mF => k_asm); (case mX => k_asm); (case mN => k_asm); (case mT => k_asm); (case mhd => first | exact room2 (by assumption) (by rfl) | exact room1 (by assumption) (by rfl) | exact room3 (by assumption) (by rfl) | exact room4 (by assumption) (by rfl) | (simp only [m_dd, m_kd, m_1d, m_md, m_td]; omega) | decide); (case mhu => first | exact room2 (by assumption) (by rfl) | exact room1 (by assumption) (by rfl) | exact room3 (by assumption) (by rfl) | exact room4 (by assumption) (by rfl) | (simp only [m_du, m_ku, m_1u, m_mu, m_tu]; omega) | decide)
                  case mp => exact ⟨hn0, hB1F, by simp; omega⟩
                  intro r15 nwG h15 tkG FG NG hpG
                  obtain ⟨e15, hB1G, sG⟩ := hpG
                  subst e15
                  have hzG := hz0.kept lB1 sG
                  have hn0G := hn0.kept lB1 sG
                  have hnyG := (hn8.sub s8F).kept lB1 sG
                  have hB2G := sG _ hB2F (Ne.symm hB12)
                  have hkG := sG _ hkF hdkB
                  have hpG := sG _ hpF hdpB
                  have hcG : confIs x c.vals nwG := by
                    obtain ⟨dx, c1, c2⟩ := hc8
                    exact ⟨dx, sG _ (s8F _ c1) (lB1.conf _ _ _ _ (s8F _ c1)), sG _ (s8F _ c2) (news_ne kNp (s8F _ c2) hB1F fun e => absurd (congrArg Obj.cls e) (show ¬Value.type "dict" = Value.type "list" by decide))⟩
                  have hRG : RefRow w x nwG vs' (Row ks pg) := All2.imp (fun _ _ ⟨a, u1, u2, e, h⟩ => ⟨a, u1, u2, e, h.kept lB1 sG⟩) (RefRow.sub s8F hR8)
                  obtain ⟨v1, hv1⟩ : ∃ v1, vk[hf]? = some v1 := ⟨vk[hf]'(by omega), List.getElem?_eq_getElem _⟩
                  obtain ⟨v2, hv2⟩ : ∃ v2, vp[hf]? = some v2 := ⟨vp[hf]'(by omega), List.getElem?_eq_getElem _⟩
                  obtain ⟨v3, hv3⟩ : ∃ v3, vp[hf + 1]? = some v3 := ⟨vp[hf + 1]'(by omega), List.getElem?_eq_getElem _⟩
                  obtain ⟨k1, tk1', rfl, hk1⟩ := K.ik.at hf v1 hv1
                  obtain ⟨k2, tk2', rfl, hk2⟩ := K.ip.at hf v2 hv2
                  obtain ⟨k3, tk3', rfl, hk3⟩ := K.ip.at (hf + 1) v3 hv3
                  rw [hr1] at hk1
                  rw [hr2] at hk2
                  rw [hr3] at hk3
                  cases hk1
                  cases hk2
                  cases hk3
                  clear hz0 hn0 hB2F hkF hpF hB1F ho1 ho2 sG kNp
                  refine refIs.elim hzG ?_
                  intro dq q1 q2 q3 q4 q5 tq lq nq hq1 hq2
                  refine nodeIs.elim hn0G ?_
                  intro d0' y1 y2 y3 y4 y5 y6 y7 y8 y9 nn9 ho1 ho2
                  k_steps
                  refine ⟨?_⟩
                  rename News _ _ _ _ => kNs
                  refine item_at kNs (.tail _ hkG) hv1 (by omega) ?_
                  k_steps
                  refine ⟨?_⟩
                  rename News _ _ _ _ => kNs
                  refine item_at kNs (.tail _ hpG) hv2 (by omega) ?_
                  k_steps
                  refine ⟨?_⟩
                  rw [show ((hf : Nat) : Int) + 1 = ((hf + 1 : Nat) : Int) by omega]
                  rename News _ _ _ _ => kNs
                  refine item_at kNs (.tail _ hpG) hv3 (by omega) ?_
                  k_steps
                  refine ⟨?_⟩
                  rename News _ _ _ _ => kNs
                  refine ne_same (n := 0) (T := "tuple") (xs := [.int r0.1 tq, .int r0.2.1 ta, .int r0.2.2 tb]) (ys := [.int r0.1 tk1', .int r0.2.1 tk2', .int r0.2.2 tk3']) kNs (.inl rfl) (.tail _ (.head _)) (.head _) rfl (ints_same (ks := [r0.1, r0.2.1, r0.2.2]) (.cons _ _ (.cons _ _ (.cons _ _ .nil))) (.cons _ _ (.cons _ _ (.cons _ _ .nil)))) (by k_units) ?_
                  k_steps
                  refine ⟨?_⟩
                  refine' TreeSpec.use (lrefs w B1 x (vs'.drop (hf + 1)) ((Row ks pg).drop (hf + 1)) (0 + 1)) ?mB ?mF ?mX ?mN ?mT ?mhd ?mhu ?mp ?_
                  (case mB => k_asm); (case mF => k_asm); (case mX => k_asm); (case mN => k_asm); (case mT => k_asm); (case mhd => first | exact room2 (by assumption) (by rfl) | exact room1 (by assumption) (by rfl) | exact room3 (by assumption) (by rfl) | exact room4 (by assumption) (by rfl) | (simp only [m_dd, m_kd, m_1d, m_md, m_td]; omega) | decide); (case mhu => first | exact room2 (by assumption) (by rfl) | exact room1 (by assumption) (by rfl) | exact room3 (by assumption) (by rfl) | exact room4 (by assumption) (by rfl) | (simp only [m_du, m_ku, m_1u, m_mu, m_tu]; omega) | decide)
                  case mp => exact ⟨.tail _ (.tail _ hB1G), by simp; omega, RefRow.sub (fun _ h => .tail _ (.tail _ h)) (All2.drop _ hRG)⟩
                  intro r16 tl16 h16 tk16 F16 N16 ap16 hp16
                  obtain ⟨D16, us16, e16, hD16, hP16⟩ := hp16
                  subst e16
                  refine gen (fun X => ∀ nwH, (News gD L' h16 nwH) → ((∀ q ∈ nwG, q ∈ nwH)) → ((D16, lst us16 us16.length) ∈ nwH) → (TripsAre nwH us16 ((Row ks pg).drop (hf + 1))) → X) (fun _ k => k _ N16 (fun _ h => List.mem_append_right _ (.tail _ (.tail _ h))) (List.mem_append_left _ hD16) (hP16.mono fun _ h => List.mem_append_left _ h)) ?_
                  intro nwH NH sH hDH hPH
                  clear N16 ap16 hP16 hD16 hq1 hq2 ho1 ho2
                  have hkH := sH _ hkG
                  have hpH := sH _ hpG
                  k_steps
                  refine ⟨?_⟩
                  rw [show ((hf : Nat) : Int) + 1 = ((hf + 1 : Nat) : Int) by omega]
                  rename Fr _ _ _ _ => kFs
                  rename News _ _ _ _ => kNs
                  refine slice_from (n := nk) kFs kNs hkH (by omega) (by omega) rfl ?_
                  intro Bk3 hh5 FB5 NB5 lB5
                  try dsimp only
                  k_steps
                  refine ⟨?_⟩
                  rw [show ((hf : Nat) : Int) + 1 = ((hf + 1 : Nat) : Int) by omega]
                  rename Fr _ _ _ _ => kFs
                  rename News _ _ _ _ => kNs
                  refine slice_from (n := np) kFs kNs (.tail _ hpH) (by omega) (by omega) rfl ?_
                  intro Bp3 hh6 FB6 NB6 lB6
                  try dsimp only
                  k_steps
                  refine ⟨?_⟩
                  refine' TurnSpec.use (g₀ := g') (lrow w Bk3 Bp3 (vk.drop (hf + 1)) (vp.drop (hf + 1)) (ks.drop (hf + 1)) (pg.drop (hf + 1)) 0 0) ?mXB ?mTB ?mT0 ?mD ?mB ?mF ?mX ?mN ?mT ?mhd ?mhu ?mp ?_
                  (case mB => k_asm); (case mF => k_asm); (case mX => k_asm); (case mN => k_asm); (case mT => k_asm); (case mhd => first | exact room2 (by assumption) (by rfl) | exact room1 (by assumption) (by rfl) | exact room3 (by assumption) (by rfl) | exact room4 (by assumption) (by rfl) | (simp only [m_dd, m_kd, m_1d, m_md, m_td]; omega) | decide); (case mhu => first | exact room2 (by assumption) (by rfl) | exact room1 (by assumption) (by rfl) | exact room3 (by assumption) (by rfl) | exact room4 (by assumption) (by rfl) | (simp only [m_du, m_ku, m_1u, m_mu, m_tu]; omega) | decide)
                  (case mXB => assumption); (case mTB => assumption); (case mT0 => first | assumption | exact KtsTurn.refl); (case mD => assumption)
                  case mp => exact ⟨.tail _ (.head _), .head _, K.ik.drop _, K.ip.drop _, by simp; omega, by simp; omega⟩
                  intro r17 nwI gI h17 tkI TI BI XI PI DI FI NI hpI
                  obtain ⟨D17, us17, e17, hDI, hPI, sI⟩ := hpI
                  subst e17
                  rw [← Row.drop] at hPI
                  have sHI : ∀ q ∈ nwH, q ∈ nwI := fun q hq => sI _ (.tail _ (.tail _ hq))
                  clear TD BD XD PD DD sI
                  obtain ⟨hq1, hq2⟩ := trips_same (news := nwI) hPH hPI (fun q hq => sHI _ hq) (fun q hq => hq)
                  try dsimp only
                  k_steps
                  refine ⟨?_⟩
                  refine ne_same (n := 1) (T := "list") NI (.inr rfl) (sHI _ hDH) hDI hq1 hq2 (by k_units) ?_
                  clear hq1 hq2 hPH hPI
                  have sGI : ∀ q ∈ nwG, q ∈ nwI := fun q hq => sHI _ (sH _ hq)
                  k_steps
                  rename News _ _ _ _ => kNs
                  rename Fr _ _ _ _ => kFs
                  exact hQ _ _ _ _ _ nwI ⟨TI, BI, XI, PI, DI⟩ kFs kNs ((if_neg (by decide)).trans b1') ((if_neg (by decide)).trans b2') ((if_neg (by decide)).trans b3') ((if_neg (by decide)).trans b4') ((if_neg (by decide)).trans b5') ((if_neg (by decide)).trans b6') (hnyG.sub sGI) (sGI _ hB2G) (hcG.solid fun q hq _ => sGI _ hq) (sGI _ hkG) (sGI _ hpG) (RefRow.sub sGI (All2.take _ hRG))
              case tail =>
                intro g6 h6 tk6 m6 th6 nw6 G6 F6 N6 c1 c2 c3 c4 c5 c6 hn6 hB6 hc6 hk6 hp6 hR6
                obtain ⟨T6, B6, X6, P6, D6⟩ := G6
                clear TD BD XD PD DD hn8 hR8 hk8 hp8 hc8 hB1 hB2 hne8 s8F hn0 b1' b2' b3' b4' b5' b6' b8' kF5
                show wpAny _ _ (execs _ _) _ _ _
                refine nodeIs.elim hn6 ?_
                intro dy u1 u2 u3 u4 u5 u6 u7 u8 u9 n9 hy1 hy2
                cases b with
                | false =>
                  k_steps
                  refine hQ _ _ ?_
                  k_steps
                  refine' post _ _ _ _ _ ⟨?zt, ?zb, ?zx, ?zp, ?zd⟩ ?zf ?zn rfl
                  (case zf => assumption); (case zn => assumption); (case zb => assumption); (case zt => first | assumption | exact KtsTurn.refl); (case zx => assumption); (case zp => assumption); (case zd => assumption)
                | true =>
                  obtain rfl : C = 607 := hCb rfl
                  clear hC
                  k_steps
                  refine ⟨?_⟩
                  refine' MutSpec.use (conv_inner w y B2 x c nt mn mx 3 t5 .none .none _ (.head _)) ?mB ?mF ?mX ?mN ?mT ?mhd ?mhu ?mp ?_
                  (case mB => k_asm); (case mF => k_asm); (case mX => k_asm); (case mN => k_asm); (case mT => k_asm); (case mhd => first | exact room2 (by assumption) (by rfl) | exact room1 (by assumption) (by rfl) | exact room3 (by assumption) (by rfl) | exact room4 (by assumption) (by rfl) | (simp only [m_dd, m_kd, m_1d, m_md, m_td]; omega) | decide); (case mhu => first | exact room2 (by assumption) (by rfl) | exact room1 (by assumption) (by rfl) | exact room3 (by assumption) (by rfl) | exact room4 (by assumption) (by rfl) | (simp only [m_du, m_ku, m_1u, m_mu, m_tu]; omega) | decide)
                  case mp => exact ⟨hn6, hc6, hod⟩
                  intro rD nwD2 hD2' tkD2 FD2 ND2 hpD2
                  obtain ⟨⟨zz, nt', mn', vv3, eD, hnD⟩, hsubD⟩ := hpD2
                  subst eD
                  refine nodeIs.elim hnD ?_
                  intro dz' y1 y2 y3 y4 y5 y6 y7 y8 y9 nn9 hzz1 hzz2
                  have hcD2 : confIs x c.vals nwD2 := hc6.solid fun q hq _ => hsubD _ hq
                  k_steps
                  try dsimp only
                  refine' TreeSpec.use (conf_order w x c true) ?mB ?mF ?mX ?mN ?mT ?mhd ?mhu ?mp ?_
                  (case mB => k_asm); (case mF => k_asm); (case mX => k_asm); (case mN => k_asm); (case mT => k_asm); (case mhd => first | exact room2 (by assumption) (by rfl) | exact room1 (by assumption) (by rfl) | exact room3 (by assumption) (by rfl) | exact room4 (by assumption) (by rfl) | (simp only [m_dd, m_kd, m_1d, m_md, m_td]; omega) | decide); (case mhu => first | exact room2 (by assumption) (by rfl) | exact room1 (by assumption) (by rfl) | exact room3 (by assumption) (by rfl) | exact room4 (by assumption) (by rfl) | (simp only [m_du, m_ku, m_1u, m_mu, m_tu]; omega) | decide)
                  case mp => exact hcD2.sub fun _ h => .tail _ h
                  intro rF tlF hF tkF FF NF apF hpF
                  obtain ⟨eF, eF'⟩ := hpF
                  subst eF eF'
                  replace NF := news_sub NF sub_nil0
                  k_steps
                  rename News _ _ _ _ => kN9
                  refine ⟨?_⟩
                  refine ne_same (n := 0) (T := "tuple") (xs := [.int 3 _, .int c.od _]) (ys := [.int 3 _, .int c.od _]) kN9 (.inl rfl) (.tail _ (.head _)) (.head _) rfl (ints_same (.cons _ _ (.cons _ _ .nil)) (.cons _ _ (.cons _ _ .nil))) (by k_units) ?_
                  k_steps
                  refine ⟨?_⟩
                  refine' TreeSpec.use (lrefs w B2 x (vs'.take hf) ((Row ks pg).take hf) 0) ?mB ?mF ?mX ?mN ?mT ?mhd ?mhu ?mp ?_
                  (case mB => k_asm); (case mF => k_asm); (case mX => k_asm); (case mN => k_asm); (case mT => k_asm); (case mhd => first | exact room2 (by assumption) (by rfl) | exact room1 (by assumption) (by rfl) | exact room3 (by assumption) (by rfl) | exact room4 (by assumption) (by rfl) | (simp only [m_dd, m_kd, m_1d, m_md, m_td]; omega) | decide); (case mhu => first | exact room2 (by assumption) (by rfl) | exact room1 (by assumption) (by rfl) | exact room3 (by assumption) (by rfl) | exact room4 (by assumption) (by rfl) | (simp only [m_du, m_ku, m_1u, m_mu, m_tu]; omega) | decide)
                  case mp => exact ⟨.tail _ (.tail _ (hsubD _ hB6)), by simp; omega, RefRow.sub (fun _ h => .tail _ (.tail _ (hsubD _ h))) hR6⟩
                  intro r18 tl18 h18 tk18 F18 N18 ap18 hp18
                  obtain ⟨D18, us18, e18, hD18, hP18⟩ := hp18
                  subst e18
                  refine gen (fun X => ∀ nwH, (News g6 L' h18 nwH) → ((∀ q ∈ nw6, q ∈ nwH)) → ((D18, lst us18 us18.length) ∈ nwH) → (TripsAre nwH us18 ((Row ks pg).take hf)) → X) (fun _ k => k _ N18 (fun _ h => List.mem_append_right _ (.tail _ (.tail _ (hsubD _ h)))) (List.mem_append_left _ hD18) (hP18.mono fun _ h => List.mem_append_left _ h)) ?_
                  intro nwH NH sH hDH hPH
                  clear N18 ap18 hP18 hD18 hzz1 hzz2
                  have hkH := sH _ hk6
                  have hpH := sH _ hp6
                  k_steps
                  refine ⟨?_⟩
                  rename Fr _ _ _ _ => kFs
                  rename News _ _ _ _ => kNs
                  refine slice_upto (n := nk) kFs kNs hkH (by omega) (by omega) rfl ?_
                  intro Bk3 hh5 FB5 NB5 lB5
                  try dsimp only
                  k_steps
                  refine ⟨?_⟩
                  rw [show ((hf : Nat) : Int) + 1 = ((hf + 1 : Nat) : Int) by omega]
                  rename Fr _ _ _ _ => kFs
                  rename News _ _ _ _ => kNs
                  refine slice_upto (n := np) kFs kNs (.tail _ hpH) (by omega) (by omega) rfl ?_
                  intro Bp3 hh6 FB6 NB6 lB6
                  try dsimp only
                  k_steps
                  refine ⟨?_⟩
                  refine' TurnSpec.use (g₀ := g') (lrow w Bk3 Bp3 (vk.take hf) (vp.take (hf + 1)) (ks.take hf) (pg.take (hf + 1)) 0 0) ?mXB ?mTB ?mT0 ?mD ?mB ?mF ?mX ?mN ?mT ?mhd ?mhu ?mp ?_
                  (case mB => k_asm); (case mF => k_asm); (case mX => k_asm); (case mN => k_asm); (case mT => k_asm); (case mhd => first | exact room2 (by assumption) (by rfl) | exact room1 (by assumption) (by rfl) | exact room3 (by assumption) (by rfl) | exact room4 (by assumption) (by rfl) | (simp only [m_dd, m_kd, m_1d, m_md, m_td]; omega) | decide); (case mhu => first | exact room2 (by assumption) (by rfl) | exact room1 (by assumption) (by rfl) | exact room3 (by assumption) (by rfl) | exact room4 (by assumption) (by rfl) | (simp only [m_du, m_ku, m_1u, m_mu, m_tu]; omega) | decide)
                  (case mXB => assumption); (case mTB => assumption); (case mT0 => first | assumption | exact KtsTurn.refl); (case mD => assumption)
                  case mp => exact ⟨.tail _ (.head _), .head _, K.ik.take _, K.ip.take _, by simp; omega, by simp; omega⟩
                  intro r19 nwI gI h19 tkI TI BI XI PI DI FI NI hpI
                  obtain ⟨D19, us19, e19, hDI, hPI, sI⟩ := hpI
                  subst e19
                  rw [← Row.take] at hPI
                  have sHI : ∀ q ∈ nwH, q ∈ nwI := fun q hq => sI _ (.tail _ (.tail _ hq))
                  clear T6 B6 X6 P6 D6 sI
                  obtain ⟨hq1, hq2⟩ := trips_same (news := nwI) hPH hPI (fun q hq => sHI _ hq) (fun q hq => hq)
                  try dsimp only
                  k_steps
                  refine ⟨?_⟩
                  refine eq_same (n := 1) (T := "list") NI (.inr rfl) (sHI _ hDH) hDI hq1 hq2 (by k_units) ?_
                  k_steps
                  refine hQ _ _ ?_
                  k_steps
                  refine' post _ _ _ _ _ ⟨?zt, ?zb, ?zx, ?zp, ?zd⟩ ?zf ?zn rfl
                  (case zf => assumption); (case zn => assumption); (case zb => assumption); (case zt => first | assumption | exact KtsTurn.refl); (case zx => assumption); (case zp => assumption); (case zd => assumption)
end Mine
end

section
open PySem PySem.W PyProof.Rows
/-- between two texts: the walk forgets the lines of the text before, as a fresh process has none -/
theorem Mine.calm98 : ∀ (prog : Program) (w : World) (A : Around) (env : Env) (E : Value → Shared → Prop) (s : Shared) (Q : Flow → Shared → Prop), Q .next s → wpAny (model prog w) A (execs [] env) Q E s := by
  w_top off
  intro prog w A env E s Q h
  walk1
  exact h
end

section
open PySem PySem.W PyProof.Rows PySem.Calls
set_option Elab.async false
set_option maxRecDepth 100000
set_option maxHeartbeats 4000000
namespace Mine
--
theorem mk_ser (w : World) : TreeSpec w (call (.ref 676) []) 12 (fun _ => True) (fun r _ _ => ∃ y, r = .ref y) := by
  unfold TreeSpec
  k_fill
  intro mean mg mb dp un gd cn nms ig ic mo a ccd cl outer A₀ base h₀ L m news s Q E B F X N T hdp hun pre0 post
  k_steps
  rename News _ _ _ _ => kN
  with_reducible rename AllLt _ news => l1
  with_reducible rename @LT.lt Nat _ _ _ => l2
  exact post _ [_, _] _ _ (by assumption) kN (Apart.cons (fun q hq => Nat.ne_of_lt (Nat.lt_trans (ktn_ltOf l1 q hq) l2)) (Apart.cons (fun q hq => Nat.ne_of_lt (ktn_ltOf l1 q hq)) Apart.nil)) ⟨_, rfl⟩
end Mine
end

section
open PySem PySem.W PyProof.Rows
/-- between two texts: the walk forgets the lines of the text before, as a fresh process has none -/
theorem Mine.calm100 : ∀ (prog : Program) (w : World) (A : Around) (env : Env) (E : Value → Shared → Prop) (s : Shared) (Q : Flow → Shared → Prop), Q .next s → wpAny (model prog w) A (execs [] env) Q E s := by
  w_top off
  intro prog w A env E s Q h
  walk1
  exact h
end

section
open PySem PySem.W PyProof.Rows PySem.Calls
set_option Elab.async false
set_option linter.unusedSimpArgs false
set_option maxRecDepth 100000
set_option maxHeartbeats 4000000
namespace Mine
--
local macro_rules | `(tactic| walk_at "call ref") => `(tactic| refine' Held.out ?_)
local macro_rules | `(tactic| walk_at "eval ListComp") => `(tactic| refine' Held.out ?_)
local macro_rules | `(tactic| walk_at "exec If") => `(tactic| ((with_reducible rename HoldIf => hIf); refine' Held.out ?_))
local macro_rules | `(tactic| walk_at "compareOp NotEq ref ref") => `(tactic| refine' Held.out ?_)
local macro_rules | `(tactic| walk_at "compareOp Eq ref ref") => `(tactic| refine' Held.out ?_)
--
local macro_rules | `(tactic| k_qdec) => `(tactic| kernel_rfl)
theorem law_holds : PySem.Challenge.rw_ke0002_02.Holds := by
  refine hd ?_
  k_go0
  all_goals try k_fold
  rename Shared => s1
  rename IntsAre _ _ => hI
  rename Heap.IsList _ _ _ => hL
  rename Below _ _ _ _ => K0
  rename Frag.In _ _ => KX
  rename Top _ _ _ _ _ _ => TT
  rename Fr _ _ _ _ => F0
  rename News _ _ _ _ => N0
  rename List Int => ns
  rename List Value => vs
  rename ¬ (_ < _) => hc63
  rename World => w
  rename Addr => ax
  have TB : Top vw lsw _ _ _ s1.heap := lsw_eq ▸ TT
  refine cut (fun X => ∀ a t tk h m1, (Fr s1.heap s1.heap.objs.size h m1) → (m1 "script" = some (.ref ax)) → (m1 "a" = some (.int a t)) → X h tk) ?fst ?rest1
  case fst =>
    intro Qb hQ
    k_steps
    all_goals exact hQ _ _ _ _ _ (by assumption) rfl rfl
  case rest1 =>
    intro a t tk h m1 F1 hs ha
    show wpAny _ _ (execs _ _) _ _ _
    clear F0
    have N1 : News s1.heap s1.heap.objs.size h [] := fun q hq => nomatch hq
    clear N0
    k_steps
    refine ⟨?_⟩
    refine' TreeSpec.use (mk_ser w) ?mB ?mF ?mX ?mN ?mT ?mhd ?mhu ?mp ?_
    (case mB => k_asm); (case mF => k_asm); (case mX => k_asm); (case mN => k_asm); (case mT => k_asm); (case mhd => first | exact room2 (by assumption) (by rfl) | exact room1 (by assumption) (by rfl) | exact room3 (by assumption) (by rfl) | exact room4 (by assumption) (by rfl) | (simp only [m_dd, m_kd, m_1d, m_md, m_td]; omega) | decide); (case mhu => first | exact room2 (by assumption) (by rfl) | exact room1 (by assumption) (by rfl) | exact room3 (by assumption) (by rfl) | exact room4 (by assumption) (by rfl) | (simp only [m_du, m_ku, m_1u, m_mu, m_tu]; omega) | decide)
    case mp => trivial
    intro r1 tl1 h1 tk1 F1 N1 ap1 hp1
    obtain ⟨y, e1⟩ := hp1
    subst e1
    k_steps
    refine ⟨?_⟩
    refine' TreeSpec.use (conf_make w ⟨512, 3 + a.fmod 7, 2, 1, _, _, _, _, y⟩) ?mB ?mF ?mX ?mN ?mT ?mhd ?mhu ?mp ?_
    (case mB => k_asm); (case mF => k_asm); (case mX => k_asm); (case mN => k_asm); (case mT => k_asm); (case mhd => first | exact room2 (by assumption) (by rfl) | exact room1 (by assumption) (by rfl) | exact room3 (by assumption) (by rfl) | exact room4 (by assumption) (by rfl) | (simp only [m_dd, m_kd, m_1d, m_md, m_td]; omega) | decide); (case mhu => first | exact room2 (by assumption) (by rfl) | exact room1 (by assumption) (by rfl) | exact room3 (by assumption) (by rfl) | exact room4 (by assumption) (by rfl) | (simp only [m_du, m_ku, m_1u, m_mu, m_tu]; omega) | decide)
    case mp => trivial
    intro r2 tl2 h2 tk2 F2 N2 ap2 hp2
    obtain ⟨x, dx, e2, e3⟩ := hp2
    subst e2 e3
    have hod : 1 ≤ 3 + a.fmod 7 := by
      have := Int.fmod_nonneg_of_pos a (b := 7) (by decide)
      omega
    refine gen (fun X => ∀ (nw2 : Led) (c : Cf), (News s1.heap s1.heap.objs.size h2 nw2) → (confIs x c.vals nw2) → (c.vz = 1) → (c.ks = 2) → (1 ≤ c.od) → X) (fun _ k => k _ ⟨512, 3 + a.fmod 7, 2, 1, _, _, _, _, y⟩ N2 ⟨dx, .head _, .tail _ (.head _)⟩ rfl rfl hod) ?_
    intro nw2 c N2' hc2 hvz hks hod
    clear N2 ap1 ap2 N1 F1
    k_steps
    rename IntsAre _ _ => hI2
    rename List Value => ws2
    refine gen (fun X => ∀ ns2 : List Int, (IntsAre ws2 ns2) → (ws2.length < 100) → X) (fun _ k => k _ hI2 (by rw [hI2.length, List.length_append, List.length_take]; simp; omega)) ?_
    intro ns2 hJ2 hl2
    refine ⟨?_⟩
    refine' TurnSpec.use (g₀ := s1.heap) (leaves w x _ c ws2 ns2 0 hvz hks hod) ?mXB ?mTB ?mT0 ?mD ?mB ?mF ?mX ?mN ?mT ?mhd ?mhu ?mp ?_
    (case mB => k_asm); (case mF => k_asm); (case mX => k_asm); (case mN => k_asm); (case mT => k_asm); (case mhd => first | exact room2 (by assumption) (by rfl) | exact room1 (by assumption) (by rfl) | exact room3 (by assumption) (by rfl) | exact room4 (by assumption) (by rfl) | (simp only [m_dd, m_kd, m_1d, m_md, m_td]; omega) | decide); (case mhu => first | exact room2 (by assumption) (by rfl) | exact room1 (by assumption) (by rfl) | exact room3 (by assumption) (by rfl) | exact room4 (by assumption) (by rfl) | (simp only [m_du, m_ku, m_1u, m_mu, m_tu]; omega) | decide)
    case mXB => exact KX
    case mTB => exact TB
    case mT0 => exact KtsTurn.refl
    case mD => exact ktsDicts_nil
    case mp => exact ⟨hc2.sub fun _ h => .tail _ (.tail _ (.tail _ h)), .head _, hJ2, hl2⟩
    intro r3 nw3 g3 h3 tk3 T3 B3 X3 P3 D3 F3 N3 hp3
    obtain ⟨e3, keep3⟩ := hp3
    subst e3
    have hc3 : confIs x c.vals nw3 := confIs.kept9 (fun q hq h9 => keep3 q (.tail _ (.tail _ (.tail _ hq))) h9) hc2
    have hL3 : g3.IsList ax vs.toArray := hL.at fun o e => T3.other _ _ e (fun q => nomatch q)
    clear hI2 hJ2 hl2
    k_steps
    rename IntsAre _ _ => hI3
    rename List Value => ws3
    refine gen (fun X => ∀ ns3 : List Int, (IntsAre ws3 ns3) → (ws3.length < 100) → X) (fun _ k => k _ hI3 (by rw [hI3.length, List.length_append, List.length_take]; simp; omega)) ?_
    intro ns3 hJ3 hl3
    refine ⟨?_⟩
    refine' TurnSpec.use (g₀ := s1.heap) (inner w x _ c ws3 ns3 0 hod) ?mXB ?mTB ?mT0 ?mD ?mB ?mF ?mX ?mN ?mT ?mhd ?mhu ?mp ?_
    (case mB => k_asm); (case mF => k_asm); (case mX => k_asm); (case mN => k_asm); (case mT => k_asm); (case mhd => first | exact room2 (by assumption) (by rfl) | exact room1 (by assumption) (by rfl) | exact room3 (by assumption) (by rfl) | exact room4 (by assumption) (by rfl) | (simp only [m_dd, m_kd, m_1d, m_md, m_td]; omega) | decide); (case mhu => first | exact room2 (by assumption) (by rfl) | exact room1 (by assumption) (by rfl) | exact room3 (by assumption) (by rfl) | exact room4 (by assumption) (by rfl) | (simp only [m_du, m_ku, m_1u, m_mu, m_tu]; omega) | decide)
    case mXB => exact KX
    case mTB => exact TB
    case mT0 => exact T3
    case mD => exact ktsDicts_nil
    case mp => exact ⟨hc3.sub fun _ h => .tail _ (.tail _ (.tail _ h)), .head _, hJ3, hl3⟩
    intro r4 nw4 g4 h4 tk4 T4 B4 X4 P4 D4 F4 N4 hp4
    subst hp4
    k_steps
    have F5 : Fr s1.heap s1.heap.objs.size h4 _ := ⟨F4.ns, fun b o e => F4.keep b o (T4.other b o e fun q => nomatch q), T4.size ▸ F4.above⟩
    clear F4
    wrow_close
end Mine
end

section
open PySem PySem.W PyProof.Rows
/-- between two texts: the walk forgets the lines of the text before, as a fresh process has none -/
theorem Mine.calm102 : ∀ (prog : Program) (w : World) (A : Around) (env : Env) (E : Value → Shared → Prop) (s : Shared) (Q : Flow → Shared → Prop), Q .next s → wpAny (model prog w) A (execs [] env) Q E s := by
  w_top off
  intro prog w A env E s Q h
  walk1
  exact h
end

end
theorem PySem.Challenge.cw_ke0002_02_holds : PySem.Challenge.rw_ke0002_02.Holds :=
  Mine.law_holds
