import PyProof.Rows.All
import Wide.All
import OpenK.AllK
import Wide.FinOn
import PyProof.ByEvalTree
import KE.BitLaws
import Lean
import PySem.Challenge.RW_im0096_03
set_option Elab.async false
set_option genSizeOf false
set_option genInjectivity false
set_option maxRecDepth 100000
namespace Mine
open PySem PySem.W PySem.Calls PyProof.Rows

/-! ## a dict whose entries are known in their order -/
inductive Ents : List DictEntry → List (Str × Value) → Prop
  | nil : Ents [] []
  | cons {e : DictEntry} {x : Str} {v : Value} {t : Tok} {es l} : e.key = .str x t → e.val = v → Ents es l → Ents (e :: es) ((x, v) :: l)
theorem Ents.snoc {h : Int} {x : Str} {t : Tok} {v : Value} : ∀ {es l}, Ents es l → Ents (es ++ [⟨h, .str x t, v⟩]) (l ++ [(x, v)])
  | _, _, .nil => .cons rfl rfl .nil
  | _, _, .cons a b r => .cons a b r.snoc
theorem Ents.find {x : Str} : ∀ {es l}, Ents es l → (es.find? (fun e => e.key.isStr x)).map (·.val) = l.lookup x
  | _, _, .nil => rfl
  | _, _, .cons (e := e) (x := y) (v := v) (t := t) a b r => by
    have hk : e.key.isStr x = (y == x) := by rw [a]; rfl
    rw [List.find?_cons, List.lookup_cons, hk]
    by_cases h : y = x
    · subst h; simp [b]
    · have h1 : (y == x) = false := by simpa using h
      have h2 : (x == y) = false := by simpa using (fun e => h e.symm : ¬ x = y)
      rw [h1, h2]; exact r.find
theorem Ents.strs {es l} (h : Ents es l) : ∀ e ∈ es, ∃ n t, e.key = .str n t := by
  induction h with
  | nil => exact fun e h => nomatch h
  | cons a _ _ ih => exact fun e h => (List.mem_cons.mp h).elim (fun q => q ▸ ⟨_, _, a⟩) (ih e)
theorem Ents.length : ∀ {es l}, Ents es l → es.length = l.length
  | _, _, .nil => rfl
  | _, _, .cons _ _ r => by simp [r.length]

noncomputable def DictIs (h : Heap) (a : Addr) (l : List (Str × Value)) : Prop :=
  ∃ es n, h.get? a = some ⟨.type "dict", none, .dict es n, #[]⟩ ∧ Ents es.toList l
theorem DictIs.ns {h : Heap} {a : Addr} {l} (D : DictIs h a l) : h.Ns a (fun x => l.lookup x) := by
  obtain ⟨es, n, e, r⟩ := D
  refine ⟨_, es, n, e, rfl, fun e he => r.strs e (Array.mem_toList_iff.mpr he), fun x => ?_⟩
  unfold nsFind findBy
  rw [← Array.find?_toList]
  exact r.find
theorem DictIs.at {h h' : Heap} {a : Addr} {l} (D : DictIs h a l) (e : ∀ o, h.get? a = some o → h'.get? a = some o) : DictIs h' a l :=
  let ⟨es, n, x, r⟩ := D; ⟨es, n, e _ x, r⟩
theorem DictIs.lt {h : Heap} {a : Addr} {l} (D : DictIs h a l) : a < h.objs.size := let ⟨_, _, x, _⟩ := D; Heap.lt_size x
theorem DictIs.new (h : Heap) : DictIs (h.push { cls := .type "dict", data := .dict #[] }) h.objs.size [] := ⟨#[], 0, Heap.get?_push_size _ rfl, .nil⟩

section
variable {M : Model} {A : Around} {E : Value → Shared → Prop} {s : Shared}
theorem wpT {α : Type} {b : Bool} {x y : Sem α} {Q : α → Shared → Prop} (h : b = true) (k : wpAny M A x Q E s) : wpAny M A (if b = true then x else y) Q E s := by rw [if_pos h]; exact k
theorem wpF {α : Type} {b : Bool} {x y : Sem α} {Q : α → Shared → Prop} (h : b = false) (k : wpAny M A y Q E s) : wpAny M A (if b = true then x else y) Q E s := by rw [h, if_neg Bool.false_ne_true]; exact k
theorem wpI {α : Type} {c : Prop} [Decidable c] {x y : Sem α} {Q : α → Shared → Prop} (h : c) (k : wpAny M A x Q E s) : wpAny M A (if c then x else y) Q E s := by rw [if_pos h]; exact k
theorem wpN {α : Type} {c : Prop} [Decidable c] {x y : Sem α} {Q : α → Shared → Prop} (h : ¬ c) (k : wpAny M A y Q E s) : wpAny M A (if c then x else y) Q E s := by rw [if_neg h]; exact k
theorem wpEq {α : Type} {x y : Sem α} {Q : α → Shared → Prop} (h : x = y) (k : wpAny M A y Q E s) : wpAny M A x Q E s := h ▸ k
theorem lookup_none_of {x : Str} : ∀ {l : List (Str × Value)}, x ∉ l.map (·.1) → l.lookup x = none
  | [], _ => rfl
  | (y, v) :: l, h => by
    simp only [List.map_cons, List.mem_cons, not_or] at h
    rw [List.lookup_cons]
    have : (x == y) = false := by simpa using h.1
    rw [this]; exact lookup_none_of h.2
/-- a new name is laid behind the others -/
theorem nsSet_new {a : Addr} {l : List (Str × Value)} {x : Str} {v : Value} {Q : Unit → Shared → Prop} (D : DictIs s.heap a l) (hn : x ∉ l.map (·.1))
    (h : ∀ h', DictIs h' a (l ++ [(x, v)]) → Heap.SameBut a s.heap h' → Q () { s with heap := h', toks := s.toks + 1 }) : wpAny M A (nsSet a x v) Q E s := by
  obtain ⟨es, n, ho, r⟩ := D
  unfold nsSet strHash
  refine wpAny_bind (wpAny_bind (wpAny_askSetting (wpAny_pure (wpAny_bind (wpAny_mkText (wpAny_bind (wpAny_loadPart ho ?_)))))))
  dsimp only
  have hany : es.any (·.refKey) = false := by
    rw [Array.any_eq_false']; intro e he; obtain ⟨n, t, h⟩ := r.strs e (Array.mem_toList_iff.mpr he); simp [DictEntry.refKey, h]
  have hf : es.find? (fun e => e.key.isStr x) = none := by
    have := r.find (x := x)
    rw [lookup_none_of hn] at this
    rw [← Array.find?_toList]
    exact Option.map_eq_none_iff.mp this
  have hi : es.findIdx? (fun e => e.key.isStr x) = none := by
    rw [Array.findIdx?_eq_none_iff]
    intro e he
    have := Array.find?_eq_none.mp hf e he
    simpa using this
  refine wpN (by rw [aRefKeyMayBeTheName_eq]; unfold aRefKeyMayBeTheNameByArray; rw [hany]; simp) ?_
  refine wpAny_updatePart ho (h _ ?_ (Heap.SameBut.update ..))
  refine ⟨es.push ⟨(if x.cps.isEmpty = true then 0 else reduceHash (M.w.params.strHash x.cps)), .str x s.toks, v⟩, n + 1, ?_, ?_⟩
  · rw [Heap.get?_update_self _ ho (by simp only [Obj.putName_eq, Obj.putNameByArray, hi]; rfl)]
    simp only [Obj.putName_eq, Obj.putNameByArray, hi]
  · rw [Array.toList_push]
    exact r.snoc
theorem nsGet_dict {a : Addr} {l : List (Str × Value)} {x : Str} {Q : Option Value → Shared → Prop} (D : DictIs s.heap a l) (h : Q (l.lookup x) s) : wpAny M A (nsGet a x) Q E s :=
  wpAny_nsGet D.ns h
end
end Mine
set_option genSizeOf false
set_option genInjectivity false
set_option maxRecDepth 100000
namespace Mine
open PySem PySem.W PySem.Calls PyProof.Rows

/-! ## a def at the top or in a class's body; how many objects it makes -/
theorem none_some {α : Type} {a : α} {P : Prop} (h : (none : Option α) = some a) : P := nomatch h
theorem if_some {α : Type} {b : Bool} {x y : Option α} {a : α} (hy : y = none) (h : (if b = true then x else y) = some a) : b = true ∧ x = some a := by
  cases b with
  | true => exact ⟨rfl, h⟩
  | false => exact none_some (hy.symm.trans h)
theorem and_t {a b : Bool} (h : (a && b) = true) : a = true ∧ b = true := by cases a <;> cases b <;> first | exact ⟨rfl, rfl⟩ | cases h
theorem not_t {a : Bool} (h : (!a) = true) : a = false := by cases a; rfl; cases h
theorem some_eq {α : Type} {a b : α} (h : some a = some b) : a = b := by cases h; rfl
theorem nil_of {α : Type} {l : List α} (h : l.isEmpty = true) : l = [] := by cases l; rfl; cases h
theorem none_of {α : Type} {o : Option α} (h : o.isNone = true) : o = none := by cases o; rfl; cases h
noncomputable def plainArgs (a : Arguments) : Bool := a.posonlyargs.isEmpty && a.vararg.isNone && a.kwonlyargs.isEmpty && a.kw_defaults.isEmpty && a.kwarg.isNone
theorem plainArgs_spec {a : Arguments} (h : plainArgs a = true) : a = ⟨[], a.args, none, [], [], none, a.defaults⟩ := by
  obtain ⟨h, h5⟩ := and_t h
  obtain ⟨h, h4⟩ := and_t h
  obtain ⟨h, h3⟩ := and_t h
  obtain ⟨h1, h2⟩ := and_t h
  have e1 := nil_of h1
  have e2 := none_of h2
  have e3 := nil_of h3
  have e4 := nil_of h4
  have e5 := none_of h5
  clear h1 h2 h3 h4 h5 h
  cases a with
  | mk p as va ko kd kw ds =>
    obtain rfl : p = [] := e1
    obtain rfl : va = none := e2
    obtain rfl : ko = [] := e3
    obtain rfl : kd = [] := e4
    obtain rfl : kw = none := e5
    rfl
noncomputable def okArgs (a : Arguments) : Bool := plainArgs a && (a.args.all (fun x => x.annotation.isNone) && a.defaults.all Expr.isPlainConst)
noncomputable def okDef (a : Arguments) (scope : Scope) (body : List Stmt) : Bool :=
  okArgs a && (scope.names.all fun x => x.2 != .free) && (docOf body).isNone

theorem annotationsOf_none (e : Env) : ∀ as : List Arg, (as.all fun x => x.annotation.isNone) = true → annotationsOf as e = []
  | [], _ => rfl
  | ⟨n, o, p⟩ :: r, h => by
    obtain ⟨h1, h2⟩ := and_t h
    have ih := annotationsOf_none e r h2
    obtain rfl : o = none := none_of h1
    exact ih
theorem annTrees_none {a : Arguments} (h : okArgs a = true) (e : Env) : annTrees a none e = [] := by
  obtain ⟨h1, h2⟩ := and_t h
  have h3 := annotationsOf_none e a.args (and_t h2).1
  rw [plainArgs_spec h1]
  show annotationsOf (a.args ++ [] ++ [] ++ [] ++ []) e ++ [] = []
  rw [List.append_nil, List.append_nil, List.append_nil, List.append_nil, List.append_nil]
  exact h3
theorem okArgs_kw {a : Arguments} (h : okArgs a = true) : a.kwonlyargs = [] ∧ a.kw_defaults = [] ∧ ∀ e ∈ a.defaults, e.isPlainConst = true := by
  obtain ⟨h1, h2⟩ := and_t h
  have e := plainArgs_spec h1
  exact ⟨congrArg (·.kwonlyargs) e, congrArg (·.kw_defaults) e, List.all_eq_true.mp (and_t h2).2⟩

inductive IsC (h : Heap) (c P : Addr) (ps : Array Value) : Prop
  | mk (o : Obj) (vs : Array Value) (file : Str) (tf : Tok) (flags : Int) (tg : Tok) (inF : Bool) (text : Int) (tt : Tok) (op : Obj) (x : h.get? c = some o) (r1 : o.data = .fields vs) (r2 : vs.getD 11 .none = .ref P) (r3 : vs.getD 18 .none = .str file tf)
    (r4 : vs.getD 7 .none = .int flags tg) (r5 : vs.getD 9 .none = .bool inF) (r6 : vs.getD 10 .none = .int text tt) (y : h.get? P = some op) (r7 : op.data = .fields ps) (r8 : TriplesOk ps.toList) (r9 : c ≠ P) : IsC h c P ps
theorem toC {h : Heap} {c P : Addr} {ps : Array Value} (x : h.IsCode c P ps) : IsC h c P ps := by
  obtain ⟨o, vs, file, tf, flags, tg, inF, text, tt, op, a, r1, r2, r3, r4, r5, r6, b, r7, r8, r9⟩ := x
  exact ⟨o, vs, file, tf, flags, tg, inF, text, tt, op, a, r1, r2, r3, r4, r5, r6, b, r7, r8, r9⟩
theorem ofC {h : Heap} {c P : Addr} {ps : Array Value} (x : IsC h c P ps) : h.IsCode c P ps :=
  let ⟨o, vs, file, tf, flags, tg, inF, text, tt, op, a, r1, r2, r3, r4, r5, r6, b, r7, r8, r9⟩ := x
  ⟨o, vs, file, tf, flags, tg, inF, text, tt, op, a, r1, r2, r3, r4, r5, r6, b, r7, r8, r9⟩
theorem codeKeep {h h' : Heap} {c P : Addr} {ps : Array Value} (x : h.IsCode c P ps) (k1 : ∀ o, h.get? c = some o → h'.get? c = some o) (k2 : ∀ o, h.get? P = some o → h'.get? P = some o) : h'.IsCode c P ps := by
  obtain ⟨o, vs, file, tf, flags, tg, inF, text, tt, op, a, r1, r2, r3, r4, r5, r6, b, r7, r8, r9⟩ := toC x
  exact ofC ⟨o, vs, file, tf, flags, tg, inF, text, tt, op, k1 _ a, r1, r2, r3, r4, r5, r6, k2 _ b, r7, r8, r9⟩
theorem tabKeep {h h' : Heap} {c P : Addr} {ps : Array Value} (x : h.TableAt c P ps) (k1 : ∀ o, h.get? c = some o → h'.get? c = some o) (k2 : ∀ o, h.get? P = some o → h'.get? P = some o) : h'.TableAt c P ps :=
  ⟨x.1.elim fun o h => h.elim fun vs h => ⟨o, vs, k1 _ h.1, h.2⟩, k2 _ x.2⟩
theorem recKeep {h h' : Heap} {c : Addr} {q : Str} (x : h.CodeRec (.ref c) q) (k1 : ∀ o, h.get? c = some o → h'.get? c = some o) : h'.CodeRec (.ref c) q := by
  obtain ⟨c, o, vs, t, e, g, r⟩ := x
  cases e
  exact ⟨_, o, vs, t, rfl, k1 _ g, r⟩
inductive TabAt (n₀ : Nat) (h : Heap) (c' : Addr) : Prop
  | mk (P' : Addr) (le : n₀ ≤ P') (i : h.IsCode c' P' #[]) (t : h.TableAt c' P' #[]) : TabAt n₀ h c'
inductive DflAt (n₀ : Nat) (h : Heap) (dv : List Value) (dV : Value) : Prop
  | none (e1 : dv = []) (e2 : dV = .none) : DflAt n₀ h dv dV
  | some (T : Addr) (ne : dv ≠ []) (e : dV = .ref T) (le : n₀ ≤ T) (g : h.get? T = some { cls := .type "tuple", data := .seq dv.toArray }) : DflAt n₀ h dv dV
/-- the function object of a def, its code record, its defaults -/
structure FnAt (n₀ : Nat) (h : Heap) (a : Addr) (name qual : Str) (params : Arguments) (body : List Stmt) (scope : Scope) (pm : Value) (dv : List Value) (dV : Value) (c' : Addr) : Prop where
  lo : n₀ ≤ a
  loc : n₀ ≤ c'
  fn : h.get? a = some { cls := .type "function", data := .func (defFd name qual params body scope mainGlobals dV .none none pm (.ref c') .none) }
  cr : h.CodeRec (.ref c') qual
  tab : TabAt n₀ h c'
  dvs : ConstVals params.defaults dv
  dfl : DflAt n₀ h dv dV

/-- everything from n₀ on stands -/
theorem FnAt.keep {n₀ : Nat} {h h' : Heap} {a name qual params body scope pm dv dV c'} (F : FnAt n₀ h a name qual params body scope pm dv dV c')
    (k : ∀ b o, n₀ ≤ b → h.get? b = some o → h'.get? b = some o) : FnAt n₀ h' a name qual params body scope pm dv dV c' := by
  refine ⟨F.lo, F.loc, k _ _ F.lo F.fn, recKeep F.cr fun o => k _ o F.loc, ?_, F.dvs, ?_⟩
  · obtain ⟨P', hP, hi, ht⟩ := F.tab
    exact ⟨P', hP, codeKeep hi (fun o => k _ o F.loc) (fun o => k _ o hP), tabKeep ht (fun o => k _ o F.loc) (fun o => k _ o hP)⟩
  · rcases F.dfl with ⟨x, y⟩ | ⟨T, x, e, hT, g⟩
    · exact .none x y
    · exact .some T x e hT (k _ _ hT g)
theorem FnAt.weaken {n₀ n₁ : Nat} {h : Heap} {a name qual params body scope pm dv dV c'} (F : FnAt n₁ h a name qual params body scope pm dv dV c') (le : n₀ ≤ n₁) : FnAt n₀ h a name qual params body scope pm dv dV c' := by
  refine ⟨Nat.le_trans le F.lo, Nat.le_trans le F.loc, F.fn, F.cr, ?_, F.dvs, ?_⟩
  · obtain ⟨P', hP, r1, r2⟩ := F.tab
    exact ⟨P', Nat.le_trans le hP, r1, r2⟩
  · rcases F.dfl with ⟨x, y⟩ | ⟨T, x, e, hT, g⟩
    · exact .none x y
    · exact .some T x e (Nat.le_trans le hT) g

section
variable {M : Model} {A : Around} {E : Value → Shared → Prop} {s : Shared}
noncomputable def kOf : Option (List Str × List Str) → Nat
  | some _ => 5
  | none => 3
noncomputable def bodyK (body : List Stmt) : Nat := match mayInlineStmts body with
  | true => 3
  | false => 5
theorem localNames_k (p : Arguments) (scope : Scope) (body : List Stmt) : kOf (localNames p scope (.stmts body)) = bodyK body := by
  unfold localNames bodyK
  cases h : mayInlineStmts body <;> simp [h, kOf]
theorem newCodeE {ctx : CodeContext} {name qualname : Str} {firstLine argc posonly kwonly flags : Nat} {free : List Str} {isFunction : Bool}
    {parse : Option Nat} {l : Option (List Str × List Str)} {fd : FuncData} {Q : Value → Shared → Prop}
    (hQ : ∀ c P h' tk, c = s.heap.objs.size + kOf l → (∀ b o, s.heap.get? b = some o → h'.get? b = some o) → h'.objs.size = s.heap.objs.size + (kOf l + 1) → s.heap.objs.size ≤ P → h'.IsCode c P #[] → h'.TableAt c P #[] →
      h'.CodeRec (.ref c) qualname → Q (.ref c) { s with heap := h', toks := tk }) :
    wpAny M A (newCode ctx name qualname firstLine argc posonly kwonly flags free isFunction parse l (some fd)) Q E s := by
  unfold newCode
  refine wpAny_bind (wpAny_mkText (wpAny_bind (wpAny_mkText (wpAny_bind (wpAny_mkText (wpAny_bind (wpAny_mkStrs fun fs =>
    wpAny_bind (wpAny_newObjAsIs_type (wpAny_bind (wpAny_alloc ?_))))))))))
  generalize hH : (s.heap.push { cls := .type "tuple", dict := none, data := .seq fs.toArray }) = H
  have hz : H.objs.size = s.heap.objs.size + 1 := by rw [← hH, Heap.size_push]
  have hk : ∀ b o, s.heap.get? b = some o → H.get? b = some o := fun b o e => hH ▸ Heap.get?_push_of_some _ e
  have hPl : (H.push { cls := .none, data := .fields #[] }).get? H.objs.size = some { cls := .none, data := .fields #[] } := Heap.get?_push_size _ rfl
  cases l with
  | some l =>
    refine wpAny_bind (wpAny_mkStrs fun a => wpAny_bind (wpAny_newObjAsIs_type (wpAny_bind (wpAny_mkStrs fun b => wpAny_bind (wpAny_newObjAsIs_type
      (wpAny_bind (wpAny_bind (wpAny_alloc (wpAny_pure (wpAny_bind (wpAny_fresh (wpAny_bind (wpAny_mkText (wpAny_newObj_type ?_ (by size_fits)))))))))))))))
    refine hQ _ H.objs.size _ _ (by simp only [Heap.size_push, hz]; rfl) (fun b o e => Heap.get?_push_of_some _ (Heap.get?_push_of_some _ (Heap.get?_push_of_some _ (Heap.get?_push_of_some _ (Heap.get?_push_of_some _ (hk b o e))))))
      (by simp only [Heap.size_push, hz]; rfl) (by rw [hz]; lia)
      (ofC ⟨_, _, _, _, _, _, _, _, _, _, Heap.get?_push_size _ rfl, rfl, rfl, rfl, rfl, rfl, rfl,
        Heap.get?_push_of_some _ (Heap.get?_push_of_some _ (Heap.get?_push_of_some _ (Heap.get?_push_of_some _ hPl))), rfl, trivial, by simp only [Heap.size_push]; exact Nat.ne_of_gt (by lia)⟩)
      ⟨⟨_, _, Heap.get?_push_size _ rfl, rfl, rfl, rfl⟩, Heap.get?_push_of_some _ (Heap.get?_push_of_some _ (Heap.get?_push_of_some _ (Heap.get?_push_of_some _ hPl)))⟩
      ⟨_, _, _, _, rfl, Heap.get?_push_size _ rfl, rfl, rfl⟩
  | none =>
    refine wpAny_bind (wpAny_pure (wpAny_bind (wpAny_pure
      (wpAny_bind (wpAny_bind (wpAny_alloc (wpAny_pure (wpAny_bind (wpAny_fresh (wpAny_bind (wpAny_mkText (wpAny_newObj_type ?_ (by size_fits)))))))))))))
    refine hQ _ H.objs.size _ _ (by simp only [Heap.size_push, hz]; rfl) (fun b o e => Heap.get?_push_of_some _ (Heap.get?_push_of_some _ (Heap.get?_push_of_some _ (hk b o e))))
      (by simp only [Heap.size_push, hz]; rfl) (by rw [hz]; lia)
      (ofC ⟨_, _, _, _, _, _, _, _, _, _, Heap.get?_push_size _ rfl, rfl, rfl, rfl, rfl, rfl, rfl,
        Heap.get?_push_of_some _ (Heap.get?_push_of_some _ hPl), rfl, trivial, by simp only [Heap.size_push]; exact Nat.ne_of_gt (by lia)⟩)
      ⟨⟨_, _, Heap.get?_push_size _ rfl, rfl, rfl, rfl⟩, Heap.get?_push_of_some _ (Heap.get?_push_of_some _ hPl)⟩
      ⟨_, _, _, _, rfl, Heap.get?_push_size _ rfl, rfl, rfl⟩

theorem codeAtE {env : Env} {c P : Addr} {ps : Array Value} {pos : Pos} {mk : CodeContext → Sem Value} {Q : Value → Shared → Prop} {X : Addr → Heap → Prop} (hc : env.code = .ref c) (hok : s.heap.IsCode c P ps) (hnf : codeAmong pos ps.toList = none)
    (hm : ∀ (ctx : CodeContext) (Q' : Value → Shared → Prop), (∀ c' h' tk, s.heap.objs.size ≤ c' → (∀ b o, s.heap.get? b = some o → h'.get? b = some o) → X c' h' → Q' (.ref c') { s with heap := h', toks := tk }) → wpAny M A (mk ctx) Q' E s)
    (hQ : ∀ c' h' h'' tk, s.heap.objs.size ≤ c' → P < s.heap.objs.size → X c' h' → Heap.SameBut P h' h'' → Heap.ExtBut P s.heap h'' → h''.IsCode c P (ps ++ #[rawInt pos.line, rawInt pos.col, .ref c']) → Q (.ref c') { s with heap := h'', toks := tk }) :
    wpAny M A (codeAt env pos mk) Q E s := by
  obtain ⟨o, vs, file, tf, flags, tg, inF, text, tt, op, ho, hd, h11, h2, h7, h9, h10, hop, hpd, htr, hne⟩ := toC hok
  unfold codeAt
  refine wpF (by rw [hc]; rfl) ?_
  rw [hc]
  refine wpAny_bind (wpAny_fieldsOf ho hd ?_)
  rw [h11]
  refine wpAny_bind (wpAny_fieldsOf hop hpd ?_)
  rw [hnf, h2, h7, h9, h10]
  refine wpAny_bind (hm _ _ fun c' h' tk hc' hk x => ?_)
  have hop' := hk _ _ hop
  refine wpAny_bind (wpAny_updateFieldsOfTheText hop' hpd ?_)
  have hnew : (Obj.mapFields (fun vs => if (codeAmong pos vs.toList).isSome = true then vs else vs ++ #[rawInt pos.line, rawInt pos.col, .ref c']) op).data =
      .fields (ps ++ #[rawInt pos.line, rawInt pos.col, .ref c']) := by
    rw [Obj.data_mapFields hpd, hnf]; rfl
  have hget := Heap.get?_update_self (h := h') (fun o => Obj.mapFields (fun vs => if (codeAmong pos vs.toList).isSome = true then vs else
    vs ++ #[rawInt pos.line, rawInt pos.col, .ref c']) o) hop' (Obj.isFreed_of_fields hnew)
  refine wpAny_bind (wpAny_fieldsOf hget hnew ?_)
  have hl : (ps ++ #[rawInt pos.line, rawInt pos.col, Value.ref c']).toList = ps.toList ++ [rawInt pos.line, rawInt pos.col, .ref c'] := by simp
  rw [hl, codeAmong_snoc _ htr hnf]
  have sb : ∀ f, Heap.SameBut P h' (h'.update P f) := fun f => Heap.SameBut.update ..
  refine wpAny_pure (hQ c' h' _ _ hc' (Heap.lt_size hop) x (sb _) (fun b o' hb e => ((sb _).extBut b o' hb (hk b o' e))) (ofC ⟨o, vs, file, tf, flags, tg, inF, text, tt, _, (sb _).extBut _ _ hne (hk _ _ ho), hd, h11, h2, h7, h9, h10, hget, hnew, ?_, hne⟩))
  rw [hl]; exact TriplesOk_snoc _ _ _ _ htr
theorem SameBut.ne {P : Addr} {h h' : Heap} (sb : Heap.SameBut P h h') {c : Addr} (hc : c ≠ P) : ∀ o, h.get? c = some o → h'.get? c = some o := fun o e => (sb.2 c hc).trans e
structure FnCd (n k : Nat) (q : Str) (c' : Addr) (h' : Heap) : Prop where
  c : c' = n + k
  z : h'.objs.size = n + (k + 1)
  t : TabAt n h' c'
  r : h'.CodeRec (.ref c') q
theorem functionCodeE {env : Env} {c P : Addr} {ps : Array Value} {pos : Pos} {firstLine : Nat} {name qualname : Str} {p : Arguments} {scope : Scope} {body : List Stmt}
    {Q : Value → Shared → Prop} (hc : env.code = .ref c) (hok : s.heap.IsCode c P ps) (hnf : codeAmong pos ps.toList = none)
    (hQ : ∀ h' tk, Heap.ExtBut P s.heap h' → h'.objs.size = s.heap.objs.size + (bodyK body + 1) → h'.IsCode c P (ps ++ #[rawInt pos.line, rawInt pos.col, .ref (s.heap.objs.size + bodyK body)]) → h'.CodeRec (.ref (s.heap.objs.size + bodyK body)) qualname →
      TabAt s.heap.objs.size h' (s.heap.objs.size + bodyK body) →
      Q (.ref (s.heap.objs.size + bodyK body)) { s with heap := h', toks := tk }) :
    wpAny M A (functionCode env pos firstLine name qualname p scope (.stmts body)) Q E s := by
  unfold functionCode
  refine codeAtE (X := FnCd s.heap.objs.size (bodyK body) qualname) hc hok hnf (fun ctx Q' h => newCodeE fun c' P' h' tk ec hk hz hP' hcode' htab' hrec' => ?_) fun c' h' h'' tk hc' hP x sb ex ok => ?_
  · rw [localNames_k] at ec hz
    exact h c' h' tk (by rw [ec]; exact Nat.le_add_right ..) hk ⟨ec, hz, ⟨P', hP', hcode', htab'⟩, hrec'⟩
  · obtain ⟨ec, hz, ⟨P', hP', hi, ht⟩, hr⟩ := x
    have n1 := SameBut.ne sb (Nat.ne_of_gt (Nat.lt_of_lt_of_le hP hc'))
    have n2 := SameBut.ne sb (Nat.ne_of_gt (Nat.lt_of_lt_of_le hP hP'))
    subst ec
    exact hQ h'' tk ex (sb.1.trans hz) ok (recKeep hr n1) ⟨P', hP', codeKeep hi n1 n2, tabKeep ht n1 n2⟩

theorem makeFunctionE {name qualname : Str} {params : Arguments} {body : List Stmt} {scope : Scope} {env : Env} {mg} {c Pl : Addr} {ps : Array Value} {pos : Pos} {firstLine : Nat} {dv : List Value} {Q : Value → Shared → Prop}
    (hkw : params.kwonlyargs = []) (hfree : ∀ x ∈ scope.names, x.2 ≠ .free) (hgl : env.globals = mainGlobals) (hdvs : ConstVals params.defaults dv)
    (hdoc : docOf body = none) (hg : s.heap.Ns mainGlobals mg) (hcode : env.code = .ref c) (hok : s.heap.IsCode c Pl ps) (hnf : codeAmong pos ps.toList = none) (hgP : mainGlobals ≠ Pl)
    (hb : s.heap.BuiltinsAt mg Pl)
    (h : ∀ c' h' tk dV, Heap.ExtBut Pl s.heap h' → h'.objs.size = s.heap.objs.size + (bodyK body + 2 + min 1 dv.length) → FnAt s.heap.objs.size h' (s.heap.objs.size + (bodyK body + 1 + min 1 dv.length)) name qualname params body scope ((mg "__name__").getD .none) dv dV c' →
      h'.IsCode c Pl (ps ++ #[rawInt pos.line, rawInt pos.col, .ref c']) →
      Q (.ref (s.heap.objs.size + (bodyK body + 1 + min 1 dv.length))) { s with heap := h', toks := tk }) :
    wpAny M A (makeFunction name qualname params (.stmts body) scope env dv [] [] pos firstLine) Q E s := by
  rw [makeFunction_eq, hkw]
  simp only [List.zip_nil_left, List.filterMap_nil, List.isEmpty_nil, if_true, pure_bind]
  have hc : closureFor scope env = pure [] := closureFor_none hfree
  have tail : ∀ (dV : Value) (h₀ : Heap), (∀ b o, s.heap.get? b = some o → h₀.get? b = some o) → h₀.objs.size = s.heap.objs.size + min 1 dv.length →
      ((dv = [] ∧ dV = .none) ∨ (dv ≠ [] ∧ ∃ T, dV = .ref T ∧ s.heap.objs.size ≤ T ∧ T < h₀.objs.size ∧ h₀.get? T = some { cls := .type "tuple", data := .seq dv.toArray })) →
      wpAny M A (makeTail name qualname params (.stmts body) scope env dV .none none pos firstLine) Q E { s with heap := h₀ } := by
    intro dV h₀ k₀ z₀ hd
    simp only [makeTail, List.isEmpty_nil, if_true, pure_bind, hc, hdoc]
    refine wpAny_bind (functionCodeE (s := { s with heap := h₀ }) hcode (hok.keeps k₀) hnf fun h' tk hx hz hok' hrec htb => ?_)
    dsimp only at hx hz hok' hrec htb ⊢
    have hb' := hb.keeps k₀
    obtain ⟨bm, o, hbm, hne0, _, hneP, hbo, hcls, hdict, hdata⟩ := hb'
    have hg' := (hg.keeps k₀).extBut hx hgP
    refine wpAny_bind (wpAny_builtinsFor (by rw [hgl]; exact hg') hbm hne0 (hx _ _ hneP hbo) hcls hdict hdata ?_)
    refine wpAny_bind (wpAny_nsGet (by rw [hgl]; exact hg') ?_)
    refine wpAny_newObj_type ?_ (by size_fits)
    have e1 : h'.objs.size = s.heap.objs.size + (bodyK body + 1 + min 1 dv.length) := by rw [hz, z₀]; lia
    rw [hgl]
    have ex : Heap.ExtBut Pl s.heap h' := fun b o hb e => hx b o hb (k₀ b o e)
    have hPl : Pl < s.heap.objs.size := hok.lt.2
    have key := h (h₀.objs.size + bodyK body) (h'.push { cls := .type "function", data := .func (defFd name qualname params body scope mainGlobals dV .none none ((mg "__name__").getD .none) (.ref (h₀.objs.size + bodyK body)) .none) }) tk dV
      (ex.push _) (by rw [Heap.size_push, e1]; lia) ?_ (hok'.push _)
    · rw [← e1] at key; exact key
    · refine ⟨Nat.le_add_right .., by rw [z₀]; lia, ?_, hrec.push _, ?_, hdvs, ?_⟩
      · rw [← e1]; exact Heap.get?_push_size _ rfl
      · obtain ⟨P', hP, a, b⟩ := htb
        exact ⟨P', by rw [z₀] at hP; lia, a.push _, b.push _⟩
      · rcases hd with ⟨x, y⟩ | ⟨x, T, e, hT, hT2, g⟩
        · exact .none x y
        · exact .some T x e hT (Heap.get?_push_of_some _ (hx _ _ (Nat.ne_of_gt (Nat.lt_of_lt_of_le hPl hT)) g))
  cases dv with
  | nil =>
    have := tail .none s.heap (fun _ _ e => e) rfl (.inl ⟨rfl, rfl⟩)
    simp only [List.isEmpty_nil, if_true, pure_bind]
    exact this
  | cons d ds =>
    refine wpAny_bind (wpAny_newTextTuple ?_)
    refine tail (.ref s.heap.objs.size) _ (fun b o e => Heap.get?_push_of_some _ e) (by rw [Heap.size_push, List.length_cons]; lia) (.inr ⟨List.cons_ne_nil _ _, _, rfl, Nat.le_refl _, by rw [Heap.size_push]; exact Nat.lt_succ_self _, Heap.get?_push_size _ rfl⟩)

theorem ConstVals.len : ∀ {es : List Expr} {vs : List Value}, ConstVals es vs → es.length = vs.length
  | [], [], _ => rfl
  | _ :: _, _ :: _, h => by simp [ConstVals.len h.2]

noncomputable def defSize (a : Arguments) (body : List Stmt) : Nat := bodyK body + 2 + min 1 a.defaults.length

theorem def_make {env : Env} {name : Str} {args : Arguments} {body : List Stmt} {scope : Scope} {pos : Pos} {c Pl : Addr} {ps : Array Value} {mg} {Q : Flow → Shared → Prop}
    (ok : okDef args scope body = true) (hgl : env.globals = mainGlobals) (hcode : env.code = .ref c) (hok : s.heap.IsCode c Pl ps) (hnf : codeAmong pos ps.toList = none) (hgP : mainGlobals ≠ Pl)
    (hg : s.heap.Ns mainGlobals mg) (hb : s.heap.BuiltinsAt mg Pl)
    (h : ∀ c' dv dV h' tk, Heap.ExtBut Pl s.heap h' → h'.objs.size = s.heap.objs.size + defSize args body → FnAt s.heap.objs.size h' (s.heap.objs.size + (defSize args body - 1)) name (qualnameIn env name name) args body scope ((mg "__name__").getD .none) dv dV c' →
      h'.IsCode c Pl (ps ++ #[rawInt pos.line, rawInt pos.col, .ref c']) → wpAny M A (bindName env name (.ref (s.heap.objs.size + (defSize args body - 1)))) (fun _ => Q .next) E { s with heap := h', toks := tk }) :
    wpAny M A (exec (.FunctionDef name args body [] none [] scope none name pos) env) Q E s := by
  simp only [okDef, Bool.and_eq_true, List.all_eq_true, Option.isNone_iff_eq_none] at ok
  obtain ⟨⟨ok1, ok2⟩, ok3⟩ := ok
  obtain ⟨k1, k2, k3⟩ := okArgs_kw ok1
  have hfree : ∀ x ∈ scope.names, x.2 ≠ .free := fun x hx => by simpa using ok2 x hx
  rw [exec_def, defaultsOf_eq, k2, annTrees_none ok1]
  refine wpAny_bind (wpAny_standAt (wpAny_bind (wpAny_holding ?_)))
  refine wpAny_bind (wpAny_evalAll_consts _ _ _ k3 fun dv tk₁ hdv => ?_)
  refine wpAny_bind (wpAny_holding (wpAny_pure ?_))
  refine wpAny_holding (wpAny_bind (wpAny_pure ?_))
  have hlen := ConstVals.len hdv
  refine makeFunctionE (s := { s with toks := tk₁ }) k1 hfree hgl hdv ok3 hg hcode hok hnf hgP hb fun c' h' tk dV hx hz F hok' => wpAny_bind (wpAny_standAt (wpAny_bind ?_))
  dsimp only at hz F ⊢
  rw [← hlen] at hz F ⊢
  have e : bodyK body + 1 + min 1 args.defaults.length = defSize args body - 1 := by unfold defSize; lia
  rw [e] at F ⊢
  exact wpAny_mono (h c' dv dV h' tk hx hz F hok') (fun _ _ z => wpAny_pure z) fun _ _ z => z
end
end Mine
set_option genSizeOf false
set_option genInjectivity false
set_option maxRecDepth 100000
namespace Mine
open PySem PySem.W PySem.Calls PyProof.Rows

/-! ## quick looks at names -/
noncomputable def natsEq : List Nat → List Nat → Bool
  | [], [] => true
  | a :: as, b :: bs => Nat.beq a b && natsEq as bs
  | _, _ => false
theorem ff {P : Prop} (h : false = true) : P := nomatch h
theorem natsEq_of : ∀ {a b : List Nat}, natsEq a b = true → a = b
  | [], [], _ => rfl
  | [], _ :: _, h => ff h
  | _ :: _, [], h => ff h
  | a :: as, b :: bs, h => by
    obtain ⟨h1, h2⟩ := and_t (show (Nat.beq a b && natsEq as bs) = true from h)
    rw [Nat.eq_of_beq_eq_true h1, natsEq_of h2]
theorem natsEq_self : ∀ a : List Nat, natsEq a a = true
  | [] => rfl
  | a :: as => by
    show (Nat.beq a a && natsEq as as) = true
    rw [Nat.beq_refl, natsEq_self as]; rfl
theorem natsEq_iff {a b : List Nat} : natsEq a b = true ↔ a = b := ⟨natsEq_of, fun h => h ▸ natsEq_self a⟩
noncomputable def sEq (a b : Str) : Bool := natsEq a.cps.toList b.cps.toList
theorem sEq_iff {a b : Str} : sEq a b = true ↔ a = b := by
  unfold sEq
  rw [natsEq_iff]
  constructor
  · intro h; cases a; cases b; exact congrArg Str.mk (Array.ext' h)
  · intro h; rw [h]
theorem sEq_beq (a b : Str) : sEq a b = (a == b) := by
  cases h : sEq a b with
  | true => rw [sEq_iff.mp h]; simp
  | false =>
    have : ¬ a = b := fun e => by rw [sEq_iff.mpr e] at h; cases h
    simp [this]
noncomputable def sMem (x : Str) : List Str → Bool
  | [] => false
  | y :: r => sEq x y || sMem x r
theorem sMem_iff {x : Str} : ∀ {l : List Str}, sMem x l = true ↔ x ∈ l
  | [] => ⟨fun h => ff h, fun h => nomatch h⟩
  | y :: r => by
    show (sEq x y || sMem x r) = true ↔ x ∈ y :: r
    rw [Bool.or_eq_true, sEq_iff, sMem_iff, List.mem_cons]
theorem sMem_false {x : Str} {l : List Str} : sMem x l = false ↔ x ∉ l := by
  rw [← sMem_iff]; simp
noncomputable def sLook {β : Type} (x : Str) : List (Str × β) → Option β
  | [] => none
  | (y, v) :: r => if sEq x y then some v else sLook x r
theorem sLook_eq {β : Type} (x : Str) : ∀ l : List (Str × β), sLook x l = l.lookup x
  | [] => rfl
  | (y, v) :: r => by
    show (if sEq x y then some v else sLook x r) = _
    rw [List.lookup_cons, sEq_beq, sLook_eq x r]
    cases (x == y) <;> rfl
noncomputable def isLoc0 : Option NameKind → Bool
  | some .local => true
  | _ => false
noncomputable def isLocal (names : List (Str × NameKind)) (x : Str) : Bool := isLoc0 (sLook x names)
theorem isLoc0_spec {o : Option NameKind} (h : isLoc0 o = true) : o = some .local := by
  cases o with
  | none => exact ff h
  | some k => cases k with
    | «local» => rfl
    | _ => exact ff h
theorem isLocal_spec {names : List (Str × NameKind)} {x : Str} (h : isLocal names x = true) : names.lookup x = some .local := sLook_eq x names ▸ isLoc0_spec h

/-! ## a class's body -/
inductive TL (L : Nat) : List Value → Prop
  | nil : TL L []
  | cons {a b : Int} {t u : Tok} {x : Value} {r : List Value} : a < (L : Int) → TL L r → TL L (.int a t :: .int b u :: x :: r)
theorem TL.none {L : Nat} {p : Pos} (hp : L ≤ p.line) {l : List Value} (h : TL L l) : codeAmong p l = none := by
  induction h with
  | nil => rfl
  | @cons a b t u x r h _ ih =>
    show (if (a == (p.line : Int) && b == (p.col : Int)) = true then some x else codeAmong p r) = Option.none
    rw [beq_false_of_ne (Int.ne_of_lt (Int.lt_of_lt_of_le h (Int.ofNat_le.mpr hp)))]
    exact ih
theorem TL.snoc {L L' : Nat} (hL : L ≤ L') {a b : Int} {c : Value} (ha : a < (L' : Int)) {l : List Value} (h : TL L l) : TL L' (l ++ [rawInt a, rawInt b, c]) := by
  induction h with
  | nil => exact .cons ha .nil
  | cons h _ ih => exact .cons (Int.lt_of_lt_of_le h (Int.ofNat_le.mpr hL)) ih
structure CB (n₀ n : Nat) (h : Heap) (N c Pl : Addr) (mg : Str → Option Value) (l : List (Str × Value)) (ps : Array Value) : Prop where
  d : DictIs h N l
  code : h.IsCode c Pl ps
  g : h.Ns mainGlobals mg
  b : h.BuiltinsAt mg Pl
  size : h.objs.size = n
  le : n₀ ≤ n
  lN : N < n₀
  lP : Pl < n₀
  nNP : N ≠ Pl
  nNG : mainGlobals ≠ N
  nPG : mainGlobals ≠ Pl
  nc : c ≠ N

/-- what a step in a class's body keeps -/
noncomputable def Keeps2 (N Pl : Addr) (h h' : Heap) : Prop := ∀ b o, b ≠ N → b ≠ Pl → h.get? b = some o → h'.get? b = some o
theorem Keeps2.refl (N Pl : Addr) (h : Heap) : Keeps2 N Pl h h := fun _ _ _ _ e => e
theorem Keeps2.trans {N Pl : Addr} {h h' h'' : Heap} (x : Keeps2 N Pl h h') (y : Keeps2 N Pl h' h'') : Keeps2 N Pl h h'' := fun b o h1 h2 e => y b o h1 h2 (x b o h1 h2 e)
theorem CB.up {n₀ n : Nat} {h h' : Heap} {N c Pl mg l ps} (B : CB n₀ n h N c Pl mg l ps) (k : Keeps2 N Pl h h') : ∀ b o, n₀ ≤ b → h.get? b = some o → h'.get? b = some o :=
  fun b o hb e => k b o (Nat.ne_of_gt (Nat.lt_of_lt_of_le B.lN hb)) (Nat.ne_of_gt (Nat.lt_of_lt_of_le B.lP hb)) e

theorem BuiltinsAt.moved {h h' : Heap} {mg} {Pl N : Addr} {l} (x : h.BuiltinsAt mg Pl) (D : DictIs h N l) (k : Keeps2 N Pl h h') : h'.BuiltinsAt mg Pl := by
  obtain ⟨bm, o, a, b, c, d, e, f, g, r⟩ := x
  refine ⟨bm, o, a, b, c, d, k _ _ ?_ d e, f, g, r⟩
  rintro rfl
  obtain ⟨es, n, q, _⟩ := D
  rw [e] at q; cases q; have f' : Value.type "dict" = Value.type "module" := f; exact absurd f' (by decide)

section
variable {M : Model} {A : Around} {E : Value → Shared → Prop} {s : Shared}
theorem lookup_some_of {x : Str} {l : List (Str × Value)} (h : x ∈ l.map (·.1)) : l.lookup x ≠ none := fun q => by
  obtain ⟨p, hp, e⟩ := List.mem_map.mp h
  have := List.lookup_eq_none_iff.mp q p hp
  rw [e, bne_self_eq_false] at this
  exact ff this
theorem class_store {env : Env} {x : Str} {v : Value} {l : List (Str × Value)} {Q : Unit → Shared → Prop} (hk : env.scope.kind = .class) (hl : env.kindOf x = some .local)
    (D : DictIs s.heap env.locals l) (hn : x ∉ l.map (·.1)) (h : ∀ h', DictIs h' env.locals (l ++ [(x, v)]) → Heap.SameBut env.locals s.heap h' → Q () { s with heap := h', toks := s.toks + 1 }) :
    wpAny M A (storeName env x v) Q E s := by
  have e : storeName env x v = localSet env x v := by
    unfold storeName
    rw [hl, hk]
    rfl
  refine wpEq e ?_
  unfold localSet
  have D' := D
  obtain ⟨es, n, ho, _⟩ := D'
  refine wpAny_bind (wpAny_load ho ?_)
  exact nsSet_new D hn h
theorem class_bind {env : Env} {x : Str} {v : Value} {l : List (Str × Value)} {Q : Unit → Shared → Prop} (hk : env.scope.kind = .class) (hl : env.kindOf x = some .local)
    (D : DictIs s.heap env.locals l) (hn : x ∉ l.map (·.1)) (h : ∀ h', DictIs h' env.locals (l ++ [(x, v)]) → Heap.SameBut env.locals s.heap h' → Q () { s with heap := h', toks := s.toks + 1 }) :
    wpAny M A (bindName env x v) Q E s := wpAny_bindName (class_store hk hl D hn h)
theorem class_load {env : Env} {x : Str} {v : Value} {l : List (Str × Value)} {Q : Value → Shared → Prop} (hk : env.scope.kind = .class) (hl : env.kindOf x = some .local)
    (D : DictIs s.heap env.locals l) (hv : l.lookup x = some v) (h : Q v s) : wpAny M A (loadName env x) Q E s := by
  obtain ⟨es, n, ho, _⟩ := id D
  unfold loadName Env.blockKind
  rw [hl, hk]
  refine wpF rfl (wpAny_bind ?_)
  unfold localGet
  refine wpAny_bind (wpAny_load ho ?_)
  refine nsGet_dict D ?_
  rw [hv]
  exact wpAny_pure h

noncomputable def nameP1 : Expr → Option Str
  | .Name y _ => some y
  | _ => none
noncomputable def EltIs (l : List (Str × Value)) : Expr → Value → Prop
  | .Name y _, v => l.lookup y = some v
  | .Constant c _ _, v => c.Val v
  | _, _ => False
noncomputable def EltsAre (l : List (Str × Value)) : List Expr → List Value → Prop
  | [], [] => True
  | e :: es, v :: vs => EltIs l e v ∧ EltsAre l es vs
  | _, _ => False
theorem EltsAre.length {l : List (Str × Value)} : ∀ {es vs}, EltsAre l es vs → es.length = vs.length
  | [], [], _ => rfl
  | _ :: _, _ :: _, h => by simp [EltsAre.length h.2]
noncomputable def okEltN (names : List (Str × NameKind)) (bound : List Str) (e : Expr) : Option Str → Bool
  | some y => isLocal names y && sMem y bound && !sEq y "__debug__"
  | none => e.isPlainConst
noncomputable def okElt (names : List (Str × NameKind)) (bound : List Str) (e : Expr) : Bool := okEltN names bound e (nameP1 e)
theorem class_elt {env : Env} {l : List (Str × Value)} {s : Shared} (hk : env.scope.kind = .class) {Q : Value → Shared → Prop} (D : DictIs s.heap env.locals l) {e : Expr} (ok1 : okElt env.scope.names (l.map (·.1)) e = true)
    (h : ∀ v tk, EltIs l e v → Q v { s with toks := tk }) : wpAny M A (eval e env) Q E s ∧ ∀ r, starEach (e :: r) env = (false, eval e env) :: starEach r env := by
  cases e with
  | Name y p =>
    obtain ⟨ok1, okD⟩ := and_t ok1
    obtain ⟨okL, okM⟩ := and_t ok1
    cases hq : l.lookup y with
    | some v => exact ⟨wpAny_Name (class_load hk (isLocal_spec okL) D hq (h v s.toks hq)) ((sEq_beq ..).symm.trans (not_t okD)), fun _ => rfl⟩
    | none => exact absurd hq (lookup_some_of (sMem_iff.mp okM))
  | Constant c k p => exact ⟨wpAny_eval_const ok1 fun v tk hv => h v tk hv, fun _ => rfl⟩
  | _ => exact ff ok1
theorem class_elts {env : Env} {l : List (Str × Value)} (hk : env.scope.kind = .class) {pos : Pos} (es : List Expr) : ∀ (s : Shared) (Q : List Value → Shared → Prop), DictIs s.heap env.locals l →
    (es.all (okElt env.scope.names (l.map (·.1)))) = true → (∀ vs tk, EltsAre l es vs → Q vs { s with toks := tk }) → wpAny M A (spliced (backTo pos (starEach es env))) Q E s := by
  induction es with
  | nil => exact fun s Q _ _ h => wpAny_items_nil (h [] s.toks trivial)
  | cons e es ih =>
    intro s Q D ok h
    obtain ⟨ok1, ok2⟩ := and_t ok
    have x := class_elt (M := M) (A := A) (E := E) hk (Q := fun v s₁ => wpAny M A (spliced (backTo pos (starEach es env))) (fun vs s₂ => Q (v :: vs) s₂) E s₁) D ok1 fun v tk hv =>
      ih { s with toks := tk } _ D ok2 fun vs tk' hvs => h (v :: vs) tk' ⟨hv, hvs⟩
    exact wpAny_items_cons x.1 (x.2 es)
end
end Mine
set_option genSizeOf false
set_option genInjectivity false
set_option maxRecDepth 100000
namespace Mine
open PySem PySem.W PySem.Calls PyProof.Rows

/-- a value but for its token -/
inductive Kd where
  | fn | lst | tup
noncomputable def Kd.name : Kd → String
  | .fn => "function"
  | .lst => "list"
  | .tup => "tuple"
inductive SV where
  | ref (a : Addr) (k : Kd)
  | none
  | bool (b : Bool)
  | int (i : Int)
  | str (s : Str)
noncomputable def SV.Is : SV → Value → Prop
  | .ref a _, v => v = .ref a
  | .none, v => v = .none
  | .bool b, v => v = .bool b
  | .int i, v => ∃ t, v = .int i t
  | .str s, v => ∃ t, v = .str s t
noncomputable def constSV : Const → Option SV
  | .none => some .none
  | .bool b => some (.bool b)
  | .int i => some (.int i)
  | .str s => some (.str s)
  | _ => Option.none
theorem constSV_is {c : Const} {v : Value} {sv : SV} (h : constSV c = some sv) (hv : c.Val v) : sv.Is v := by
  cases c <;> cases h <;> exact hv
noncomputable def SVsAre : List (Str × SV) → List (Str × Value) → Prop
  | [], [] => True
  | p :: r, q :: r' => p.1 = q.1 ∧ p.2.Is q.2 ∧ SVsAre r r'
  | _, _ => False
theorem SVsAre.snoc {x : Str} {sv : SV} {v : Value} (h : sv.Is v) : ∀ {r : List (Str × SV)} {r' : List (Str × Value)}, SVsAre r r' → SVsAre (r ++ [(x, sv)]) (r' ++ [(x, v)])
  | [], [], _ => ⟨rfl, h, trivial⟩
  | [], _ :: _, q => q.elim
  | _ :: _, [], q => q.elim
  | _ :: r, _ :: r', q => ⟨q.1, q.2.1, SVsAre.snoc (r := r) (r' := r') h q.2.2⟩
theorem SVsAre.names : ∀ {r : List (Str × SV)} {r' : List (Str × Value)}, SVsAre r r' → r.map (·.1) = r'.map (·.1)
  | [], [], _ => rfl
  | [], _ :: _, q => q.elim
  | _ :: _, [], q => q.elim
  | _ :: r, _ :: r', q => congr (congrArg List.cons q.1) (SVsAre.names (r := r) (r' := r') q.2.2)

noncomputable def ObjsOK (n₀ : Nat) (h : Heap) (l : List (Str × SV)) : Prop := ∀ x a k, (x, SV.ref a k) ∈ l → n₀ ≤ a ∧ ∃ dat, h.get? a = some ⟨.type k.name, none, dat, #[]⟩
theorem ObjsOK.keep {n₀ : Nat} {h h' : Heap} {l : List (Str × SV)} (O : ObjsOK n₀ h l) (k : ∀ b o, n₀ ≤ b → h.get? b = some o → h'.get? b = some o) : ObjsOK n₀ h' l := fun x a kd hm => by
  obtain ⟨a1, dat, e⟩ := O x a kd hm
  exact ⟨a1, dat, k _ _ a1 e⟩
theorem ObjsOK.snoc {n₀ : Nat} {h : Heap} {l : List (Str × SV)} (O : ObjsOK n₀ h l) {x : Str} {sv : SV} (hs : ∀ a k, sv = .ref a k → n₀ ≤ a ∧ ∃ dat, h.get? a = some ⟨.type k.name, none, dat, #[]⟩) : ObjsOK n₀ h (l ++ [(x, sv)]) := fun y a kd hm => by
  rcases List.mem_append.mp hm with hm | hm
  · exact O y a kd hm
  · rcases List.mem_singleton.mp hm with e
    cases e
    exact hs a kd rfl

inductive StOK (n₀ : Nat) (h : Heap) (pm : Value) (qual : Str) (l : List (Str × Value)) : Stmt → Prop
  | def_ {name args body scope bind pos a dv dV c'} : l.lookup name = some (.ref a) → FnAt n₀ h a name (qual ++ name) args body scope pm dv dV c' →
      StOK n₀ h pm qual l (.FunctionDef name args body [] none [] scope none bind pos)
  | const {x p c k p2 p3 v} : l.lookup x = some v → c.Val v → StOK n₀ h pm qual l (.Assign [.Name x p] (.Constant c k p2) p3)
  | list {x p es p2 p3 a items} : l.lookup x = some (.ref a) → n₀ ≤ a → h.get? a = some { cls := .type "list", data := .seq (List.toArray items) } → EltsAre l es items → StOK n₀ h pm qual l (.Assign [.Name x p] (.List es p2) p3)

theorem lookup_more {l more : List (Str × Value)} {x : Str} {v : Value} (h : l.lookup x = some v) : (l ++ more).lookup x = some v := by
  rw [List.lookup_append, h]; rfl
theorem EltIs.more {l more : List (Str × Value)} {e : Expr} {v : Value} (h : EltIs l e v) : EltIs (l ++ more) e v := by
  cases e with
  | Name y p => exact lookup_more h
  | Constant c k p => exact h
  | _ => exact False.elim h
theorem EltsAre.more {l more : List (Str × Value)} : ∀ {es : List Expr} {vs : List Value}, EltsAre l es vs → EltsAre (l ++ more) es vs
  | [], [], _ => trivial
  | _ :: _, _ :: _, h => ⟨h.1.more, EltsAre.more h.2⟩
theorem StOK.keep {n₀ : Nat} {h h' : Heap} {pm : Value} {qual : Str} {l more : List (Str × Value)} {st : Stmt} (S : StOK n₀ h pm qual l st) (k : ∀ b o, n₀ ≤ b → h.get? b = some o → h'.get? b = some o) :
    StOK n₀ h' pm qual (l ++ more) st := by
  cases S with
  | def_ a f => exact .def_ (lookup_more a) (f.keep k)
  | const a c => exact .const (lookup_more a) c
  | list a n g e => exact .list (lookup_more a) n (k _ _ n g) e.more

structure Step where
  L : Nat
  n : Nat
  x : Str
  sv : SV
noncomputable def optB {α β : Type} (o : Option α) (k : α → Option β) : Option β := match o with
  | some a => k a
  | none => none
noncomputable def noB {β : Type} (c : Bool) (k : Option β) : Option β := match c with
  | true => none
  | false => k
theorem optB_iff {α β : Type} {o : Option α} {k : α → Option β} {b : β} (h : optB o k = some b) : ∃ a, o = some a ∧ k a = some b := by
  cases o with
  | none => exact none_some h
  | some a => exact ⟨a, rfl, h⟩
theorem noB_iff {β : Type} {c : Bool} {k : Option β} {b : β} (h : noB c k = some b) : c = false ∧ k = some b := by
  cases c with
  | true => exact none_some h
  | false => exact ⟨rfl, h⟩
noncomputable def orB {α β : Type} (o : Option α) (k : α → Option β) (d : Option β) : Option β := match o with
  | some a => k a
  | none => d
theorem orB_iff {α β : Type} {o : Option α} {k : α → Option β} {d : Option β} {b : β} (h : orB o k d = some b) : (∃ a, o = some a ∧ k a = some b) ∨ d = some b := by
  cases o with
  | none => exact .inr h
  | some a => exact .inl ⟨a, rfl, h⟩
structure FD where
  name : Str
  args : Arguments
  body : List Stmt
  scope : Scope
  pos : Pos
noncomputable def FD.st (f : FD) : Stmt := .FunctionDef f.name f.args f.body [] none [] f.scope none f.name f.pos
noncomputable def fdP : Stmt → Option FD
  | .FunctionDef name args body ds ret tps scope ts bind pos => if ds.isEmpty && ret.isNone && tps.isEmpty && ts.isNone && sEq bind name then some ⟨name, args, body, scope, pos⟩ else none
  | _ => none
theorem fdP_spec {st : Stmt} {f : FD} (h : fdP st = some f) : st = f.st := by
  cases st with
  | FunctionDef name args body ds ret tps scope ts bind pos =>
    obtain ⟨q, e⟩ := if_some rfl h
    obtain ⟨q, q5⟩ := and_t q
    obtain ⟨q, q4⟩ := and_t q
    obtain ⟨q, q3⟩ := and_t q
    obtain ⟨q1, q2⟩ := and_t q
    rw [nil_of q1, none_of q2, nil_of q3, none_of q4, sEq_iff.mp q5, ← some_eq e]
    rfl
  | _ => exact none_some h
noncomputable def one {α : Type} : List α → Option α
  | [a] => some a
  | _ => none
theorem one_eq {α : Type} {l : List α} {a : α} (h : one l = some a) : l = [a] := by
  cases l with
  | nil => exact none_some h
  | cons b r => cases r with
    | nil => cases some_eq h; rfl
    | cons _ _ => exact none_some h
noncomputable def nameQ : Expr → Option (Str × Pos)
  | .Name x p => some (x, p)
  | _ => none
noncomputable def nameP (ts : List Expr) : Option (Str × Pos) := optB (one ts) nameQ
theorem nameQ_eq {e : Expr} {q : Str × Pos} (h : nameQ e = some q) : e = .Name q.1 q.2 := by
  cases e with
  | Name x p => rw [← some_eq h]
  | _ => exact none_some h
theorem nameP_spec {ts : List Expr} {q : Str × Pos} (h : nameP ts = some q) : ts = [.Name q.1 q.2] :=
  let ⟨_, e, h⟩ := optB_iff h
  (one_eq e).trans (congrArg (fun x => [x]) (nameQ_eq h))
noncomputable def asP : Stmt → Option (Str × Pos × Expr × Pos)
  | .Assign ts e p => optB (nameP ts) fun q => some (q.1, q.2, e, p)
  | _ => none
theorem asP_spec {st : Stmt} {q : Str × Pos × Expr × Pos} (h : asP st = some q) : st = .Assign [.Name q.1 q.2.1] q.2.2.1 q.2.2.2 := by
  cases st with
  | Assign ts e p =>
    obtain ⟨r, h1, h2⟩ := optB_iff h
    rw [nameP_spec h1, ← some_eq h2]
  | _ => exact none_some h
inductive OkSt (names : List (Str × NameKind)) (L n : Nat) (bound : List Str) : Stmt → Step → Prop
  | def_ {name : Str} {args : Arguments} {body : List Stmt} {scope : Scope} {pos : Pos} : okDef args scope body = true → isLocal names name = true → sMem name bound = false → L ≤ pos.line →
      OkSt names L n bound (.FunctionDef name args body [] none [] scope none name pos) ⟨pos.line + 1, n + defSize args body, name, .ref (n + (defSize args body - 1)) .fn⟩
  | const {x : Str} {p₁ p p₃ : Pos} {c : Const} {k : Nat} {sv : SV} : (Expr.Constant c k p).isPlainConst = true → isLocal names x = true → sMem x bound = false → constSV c = some sv →
      OkSt names L n bound (.Assign [.Name x p₁] (.Constant c k p) p₃) ⟨L, n, x, sv⟩
  | list {x : Str} {p₁ p p₃ : Pos} {es : List Expr} : es.all (okElt names bound) = true → es.length ≤ 100000 → isLocal names x = true → sMem x bound = false → OkSt names L n bound (.Assign [.Name x p₁] (.List es p) p₃) ⟨L, n + 1, x, .ref n .lst⟩
noncomputable def okFd (names : List (Str × NameKind)) (L n : Nat) (bound : List Str) (f : FD) : Option Step :=
  if okDef f.args f.scope f.body && isLocal names f.name && !sMem f.name bound && Nat.ble L f.pos.line then some ⟨f.pos.line + 1, n + defSize f.args f.body, f.name, .ref (n + (defSize f.args f.body - 1)) .fn⟩ else none
noncomputable def okVal (names : List (Str × NameKind)) (L n : Nat) (bound : List Str) (x : Str) : Expr → Option Step
  | .Constant c k p => if (Expr.Constant c k p).isPlainConst && isLocal names x && !sMem x bound then (constSV c).map fun sv => ⟨L, n, x, sv⟩ else none
  | .List es _ => if es.all (okElt names bound) && Nat.ble es.length 100000 && isLocal names x && !sMem x bound then some ⟨L, n + 1, x, .ref n .lst⟩ else none
  | _ => none
noncomputable def okCls (names : List (Str × NameKind)) (L n : Nat) (bound : List Str) (st : Stmt) : Option Step := orB (fdP st) (okFd names L n bound) (optB (asP st) fun q => okVal names L n bound q.1 q.2.2.1)
theorem okVal_spec {names : List (Str × NameKind)} {L n : Nat} {bound : List Str} {x : Str} {p₁ p₃ : Pos} {v : Expr} {S : Step} (h : okVal names L n bound x v = some S) : OkSt names L n bound (.Assign [.Name x p₁] v p₃) S := by
  cases v with
  | Constant c k p =>
    obtain ⟨q, e⟩ := if_some rfl h
    obtain ⟨q, q3⟩ := and_t q
    obtain ⟨q1, q2⟩ := and_t q
    obtain ⟨sv, h1, h2⟩ := Option.map_eq_some_iff.mp e
    exact h2 ▸ .const q1 q2 (not_t q3) h1
  | List es p =>
    obtain ⟨q, e⟩ := if_some rfl h
    obtain ⟨q, q4⟩ := and_t q
    obtain ⟨q, q3⟩ := and_t q
    obtain ⟨q1, q2⟩ := and_t q
    exact some_eq e ▸ .list q1 (Nat.le_of_ble_eq_true q2) q3 (not_t q4)
  | _ => exact none_some h
theorem okFd_spec {names : List (Str × NameKind)} {L n : Nat} {bound : List Str} {f : FD} {S : Step} (h : okFd names L n bound f = some S) : OkSt names L n bound f.st S := by
  obtain ⟨q, e⟩ := if_some rfl h
  obtain ⟨q, q5⟩ := and_t q
  obtain ⟨q, q4⟩ := and_t q
  obtain ⟨q2, q3⟩ := and_t q
  exact some_eq e ▸ .def_ q2 q3 (not_t q4) (Nat.le_of_ble_eq_true q5)
theorem okCls_spec {names : List (Str × NameKind)} {L n : Nat} {bound : List Str} {st : Stmt} {S : Step} (h : okCls names L n bound st = some S) : OkSt names L n bound st S := by
  rcases orB_iff h with ⟨f, hf, h⟩ | h
  · rw [fdP_spec hf]; exact okFd_spec h
  · obtain ⟨q, hq, h⟩ := optB_iff h
    rw [asP_spec hq]; exact okVal_spec h
/-- the whole body: its names with their values, and the size behind it -/
noncomputable def okBody (names : List (Str × NameKind)) (L n : Nat) (bound : List (Str × SV)) : List Stmt → Option (Nat × List (Str × SV))
  | [] => some (n, bound)
  | st :: r => optB (okCls names L n (bound.map (·.1)) st) fun S => okBody names S.L S.n (bound ++ [(S.x, S.sv)]) r

section
variable {M : Model} {A : Around} {E : Value → Shared → Prop}
structure ClsR (n₀ n : Nat) (N c Pl : Addr) (mg : Str → Option Value) (pm : Value) (qual : Str) (h : Heap) (l : List (Str × Value)) (st : Stmt) (S : Step) (h₁ : Heap) (ps₁ : Array Value) (v : Value) : Prop where
  cb : CB n₀ S.n h₁ N c Pl mg (l ++ [(S.x, v)]) ps₁
  is : S.sv.Is v
  ob : ∀ a k, S.sv = .ref a k → n₀ ≤ a ∧ ∃ dat, h₁.get? a = some ⟨.type k.name, none, dat, #[]⟩
  tl : TL S.L ps₁.toList
  ok : StOK n₀ h₁ pm qual (l ++ [(S.x, v)]) st
  keep : Keeps2 N Pl h h₁
theorem constSV_ref {cc : Const} {sv : SV} (h : constSV cc = some sv) {a : Addr} {k : Kd} (e : sv = .ref a k) {P : Prop} : P := by subst e; cases cc <;> cases h
theorem lookup_last {l : List (Str × Value)} {x : Str} {v : Value} (hx : x ∉ l.map (·.1)) : (l ++ [(x, v)]).lookup x = some v := by
  rw [List.lookup_append, lookup_none_of hx, List.lookup_cons, beq_self_eq_true]; rfl
theorem class_put {env : Env} {n₀ n N c Pl : Addr} {mg : Str → Option Value} {pm : Value} {l : List (Str × Value)} {ps ps₁ : Array Value} {s : Shared} {st : Stmt} {S : Step} {Q : Unit → Shared → Prop} {hp : Heap} {tk : Nat} {v : Value} (hk : env.scope.kind = .class) (hN : env.locals = N)
    (B : CB n₀ n s.heap N c Pl mg l ps) (hsv : S.sv.Is v) (hob : ∀ a k, S.sv = .ref a k → n₀ ≤ a ∧ ∃ dat, hp.get? a = some ⟨.type k.name, none, dat, #[]⟩) (hb : hp.BuiltinsAt mg Pl) (D : DictIs hp N l) (hcode : hp.IsCode c Pl ps₁) (hg : hp.Ns mainGlobals mg)
    (hz : hp.objs.size = S.n) (hz2 : n ≤ S.n) (K : Keeps2 N Pl s.heap hp) (T₁ : TL S.L ps₁.toList) (hl : isLocal env.scope.names S.x = true) (hn : sMem S.x (l.map (·.1)) = false) (hS : ∀ h₁, (∀ b o, n₀ ≤ b → hp.get? b = some o → h₁.get? b = some o) → StOK n₀ h₁ pm env.qual (l ++ [(S.x, v)]) st)
    (rest : ∀ h₁ tk, ClsR n₀ n N c Pl mg pm env.qual s.heap l st S h₁ ps₁ v → Q () { s with heap := h₁, toks := tk }) : wpAny M A (storeName env S.x v) Q E { s with heap := hp, toks := tk } := by
  refine class_store (s := { s with heap := hp, toks := tk }) hk (isLocal_spec hl) (by rw [hN]; exact D) (sMem_false.mp hn) fun h₁ D₁ hs₁ => ?_
  rw [hN] at D₁ hs₁
  have K₁ : Keeps2 N Pl hp h₁ := fun b o h1 _ e => (hs₁.2 b h1).trans e
  have up : ∀ b o, n₀ ≤ b → hp.get? b = some o → h₁.get? b = some o := fun b o hb' e => (hs₁.2 b (Nat.ne_of_gt (Nat.lt_of_lt_of_le B.lN hb'))).trans e
  exact rest h₁ _ ⟨⟨D₁, hcode.sameBut hs₁ B.nc (Ne.symm B.nNP), hg.sameBut hs₁ B.nNG, BuiltinsAt.moved hb D K₁, by rw [hs₁.1]; exact hz, Nat.le_trans B.le hz2, B.lN, B.lP, B.nNP, B.nNG, B.nPG, B.nc⟩, hsv,
    fun a k e => ⟨(hob a k e).1, (hob a k e).2.imp fun dat g => up _ _ (hob a k e).1 g⟩, T₁, hS h₁ up, K.trans K₁⟩
theorem class_one {env : Env} {n₀ n N c Pl : Addr} {mg : Str → Option Value} {pm : Value} {L : Nat} {l : List (Str × Value)} {ps : Array Value} {s : Shared} {st : Stmt} {S : Step} {Q : Flow → Shared → Prop} (hk : env.scope.kind = .class) (hN : env.locals = N) (hG : env.globals = mainGlobals)
    (hc : env.code = .ref c) (hpm : (mg "__name__").getD .none = pm) (sp : OkSt env.scope.names L n (l.map (·.1)) st S) (B : CB n₀ n s.heap N c Pl mg l ps) (T : TL L ps.toList)
    (rest : ∀ h₁ ps₁ tk v, ClsR n₀ n N c Pl mg pm env.qual s.heap l st S h₁ ps₁ v → Q .next { s with heap := h₁, toks := tk }) : wpAny M A (exec st env) Q E s := by
  cases sp with
  | @def_ name args body scope pos q2 q3 q4 hL =>
    refine def_make q2 hG hc B.code (T.none hL) B.nPG B.g B.b fun c' dv dV h₁ tk hx hz F hok => ?_
    have K : Keeps2 N Pl s.heap h₁ := fun b o _ h2 e => hx b o h2 e
    rw [B.size] at hz F ⊢
    refine wpAny_bindName (class_put (S := ⟨pos.line + 1, n + defSize args body, name, .ref (n + (defSize args body - 1)) .fn⟩) hk hN B rfl (fun a k e => by cases e; exact ⟨Nat.le_trans B.le (Nat.le_add_right ..), _, F.fn⟩) (BuiltinsAt.moved B.b B.d K) (B.d.at fun o e => hx _ _ B.nNP e) hok (B.g.extBut hx B.nPG) hz (Nat.le_add_right ..) K ?_ q3 q4 (fun h₂ k₂ => ?_) fun h₁ tk => rest h₁ _ tk _)
    · have : (ps ++ #[rawInt ↑pos.line, rawInt ↑pos.col, Value.ref c']).toList = ps.toList ++ [rawInt ↑pos.line, rawInt ↑pos.col, Value.ref c'] := by simp
      rw [this]
      show TL (pos.line + 1) _
      exact T.snoc (by lia) (by lia)
    · have hq : qualnameIn env name name = env.qual ++ name := by
        unfold qualnameIn
        rw [show env.kindOf name = some .local from isLocal_spec q3]
        rfl
      rw [hq, hpm] at F
      exact .def_ (lookup_last (sMem_false.mp q4)) ((F.weaken B.le).keep k₂)
  | @const x p₁ p p₃ cc k sv q1 q2 q3 h1 =>
    refine wpAny_Assign_Name (wpAny_eval_const q1 fun v tk hv => ?_)
    exact class_put (S := ⟨L, n, x, sv⟩) (hp := s.heap) (tk := tk) hk hN B (constSV_is h1 hv) (fun a k e => constSV_ref h1 e) B.b B.d B.code B.g B.size (Nat.le_refl _) (Keeps2.refl _ _ _) T q2 q3 (fun h₂ k₂ => .const (lookup_last (sMem_false.mp q3)) hv) fun h₁ tk => rest h₁ _ tk _
  | @list x p₁ p p₃ es q1 q2 q3 q4 =>
    refine wpAny_Assign_Name (wpAny_List (class_elts hk es _ _ (by rw [hN]; exact B.d) q1 fun vs tk hvs => ⟨?_, ?_⟩))
    · rw [← hvs.length]
      exact Nat.le_trans q2 (by unfold sizeLine; lia)
    · have K : Keeps2 N Pl s.heap (s.heap.push { cls := .type "list", data := .seq vs.toArray }) := fun b o _ _ e => Heap.get?_push_of_some _ e
      exact class_put (S := ⟨L, n + 1, x, .ref n .lst⟩) (hp := s.heap.push { cls := .type "list", data := .seq vs.toArray }) (tk := tk) (v := .ref s.heap.objs.size) hk hN B (by rw [B.size]; rfl) (fun a k e => by cases e; exact ⟨B.le, _, by rw [← B.size]; exact Heap.get?_push_size _ rfl⟩) (BuiltinsAt.moved B.b B.d K) (B.d.at fun o e => Heap.get?_push_of_some _ e) (B.code.push _) (B.g.push _)
        (by rw [Heap.size_push, B.size]) (Nat.le_succ _) K T q3 q4 (fun h₂ k₂ => .list (lookup_last (sMem_false.mp q4)) (by rw [B.size]; exact B.le) (k₂ _ _ (by rw [B.size]; exact B.le) (Heap.get?_push_size _ rfl)) hvs.more) fun h₁ tk => rest h₁ _ tk _
theorem class_body {env : Env} {n₀ N c Pl : Addr} {mg : Str → Option Value} {pm : Value} (hk : env.scope.kind = .class) (hN : env.locals = N) (hG : env.globals = mainGlobals) (hc : env.code = .ref c) (hpm : (mg "__name__").getD .none = pm) {nf : Nat} {fin : List (Str × SV)} :
    ∀ (body : List Stmt) (L n : Nat) (sl : List (Str × SV)) (l : List (Str × Value)) (ps : Array Value) (s : Shared) (Q : Flow → Shared → Prop),
      okBody env.scope.names L n sl body = some (nf, fin) → SVsAre sl l → ObjsOK n₀ s.heap sl → CB n₀ n s.heap N c Pl mg l ps → TL L ps.toList →
      (∀ h' l' ps' tk more, CB n₀ nf h' N c Pl mg l' ps' → l' = l ++ more → SVsAre fin l' → ObjsOK n₀ h' fin → (∀ st ∈ body, StOK n₀ h' pm env.qual l' st) → Keeps2 N Pl s.heap h' → Q .next { s with heap := h', toks := tk }) →
      wpAny M A (execs body env) Q E s
  | [], L, n, sl, l, ps, s, Q, ok, SA, OB, B, T, h => by
    cases ok
    exact wpAny_execs_nil (h s.heap l ps s.toks [] B (by simp) SA OB (fun _ hm => (nomatch hm)) (Keeps2.refl _ _ _))
  | st :: r, L, n, sl, l, ps, s, Q, ok, SA, OB, B, T, h => by
    obtain ⟨S, e, ok⟩ := optB_iff ok
    rw [SA.names] at e
    refine wpAny_execs_cons (class_one hk hN hG hc hpm (okCls_spec e) B T fun h₁ ps₁ tk v X => ?_)
    refine class_body hk hN hG hc hpm r S.L S.n _ _ ps₁ { s with heap := h₁, toks := tk } Q ok (SA.snoc X.is) ((OB.keep (B.up X.keep)).snoc X.ob) X.cb X.tl fun h' l' ps' tk' more B' em ef ob hs K' => ?_
    refine h h' l' ps' tk' ([(S.x, v)] ++ more) B' (by rw [em, List.append_assoc]) ef ob (fun st' hm => ?_) (X.keep.trans K')
    refine (List.mem_cons.mp hm).elim (fun q => ?_) (hs st')
    rw [q, em]; exact X.ok.keep (X.cb.up K')
end
end Mine
set_option genSizeOf false
set_option genInjectivity false
set_option maxRecDepth 100000
namespace Mine
open PySem PySem.W PySem.Calls PyProof.Rows

/-! ## a runner of trees over objects that are written out -/
noncomputable def look : List (Addr × Obj) → Addr → Option Obj
  | [], _ => none
  | (b, o) :: r, a => match Nat.beq b a with
    | true => some o
    | false => look r a
noncomputable def putO (a : Addr) (f : Obj → Obj) : List (Addr × Obj) → List (Addr × Obj)
  | [] => []
  | (b, o) :: r => match Nat.beq b a with
    | true => (b, f o) :: r
    | false => (b, o) :: putO a f r
theorem look_put (a : Addr) (f : Obj → Obj) (b : Addr) : ∀ T, look (putO a f T) b = if b = a then (look T b).map f else look T b
  | [] => by simp [putO, look]
  | (c, o) :: r => by
    unfold putO
    cases h : Nat.beq c a with
    | true =>
      have := Nat.eq_of_beq_eq_true h
      subst this
      simp only [look]
      cases h2 : Nat.beq c b with
      | true => have := Nat.eq_of_beq_eq_true h2; simp [this]
      | false =>
        have : ¬ b = c := fun e => by rw [e, Nat.beq_refl] at h2; cases h2
        simp [this]
    | false =>
      simp only [look]
      rw [look_put a f b r]
      cases h2 : Nat.beq c b with
      | true =>
        have e := Nat.eq_of_beq_eq_true h2
        have : ¬ b = a := fun e2 => by rw [e, e2, Nat.beq_refl] at h; cases h
        simp [this]
      | false => rfl

structure RS where
  T : List (Addr × Obj)
  n : Nat
  tk : Nat

mutual
noncomputable def rn (den : Code → Sem Fin) (S : Setting) (lo : Nat) : Nat → (α : Type) → RS → Sem α → Option (Except Value α × RS)
  | 0, _, _, _ => none
  | n + 1, α, st, t => match t with
    | .pure a => some (.ok a, st)
    | .raise e => some (.error e, st)
    | .rule _ k => rn den S lo n α st (k ())
    | .at _ k => rn den S lo n α st (k ())
    | .point _ k => rn den S lo n α st (k ())
    | .load a _ k => optB (look st.T a) fun o => rn den S lo n α st (k o)
    | .update a _ f k => optB (look st.T a) fun o => noB ((f o).isFreed || Nat.blt a lo) (rn den S lo n α ⟨putO a f st.T, st.n, st.tk⟩ (k ()))
    | .alloc o k => noB o.isFreed (rn den S lo n α ⟨(st.n, o) :: st.T, st.n + 1, st.tk⟩ (k st.n))
    | .fresh k => rn den S lo n α ⟨st.T, st.n, st.tk + 1⟩ (k st.tk)
    | .ask k => rn den S lo n α st (k S)
    | .handled own k => noB own (rn den S lo n α st (k none))
    | .call c hd _ _ k => (match hd with
      | none => optB (rnC den S lo n st c) fun p => rn den S lo n α p.2 (k p.1)
      | some _ => none)
    | _ => none
noncomputable def rnC (den : Code → Sem Fin) (S : Setting) (lo : Nat) : Nat → RS → Code → Option (Result × RS)
  | 0, _, _ => none
  | n + 1, st, c => optB (rn den S lo n Fin st (den c)) fun p => match p.1 with
    | .ok (.done f) => some (.ok f, p.2)
    | .ok (.again c') => noB (!c'.quiet) (rnC den S lo n p.2 c')
    | .error e => some (.error e, p.2)
end

structure RepT (st : RS) (s : Shared) : Prop where
  own : ∀ a o, look st.T a = some o → s.heap.get? a = some o
  size : s.heap.objs.size = st.n
  toks : s.toks = st.tk
structure After (lo : Nat) (st st' : RS) (s s' : Shared) : Prop where
  gens : s'.gens = s.gens
  drawn : s'.drawn = s.drawn
  os : s'.os = s.os
  keep : ∀ b o, b < lo → s.heap.get? b = some o → s'.heap.get? b = some o
  le : st.n ≤ st'.n
theorem After.refl (lo : Nat) (st : RS) (s : Shared) : After lo st st s s := ⟨rfl, rfl, rfl, fun _ _ _ e => e, Nat.le_refl _⟩
theorem After.trans {lo : Nat} {st₁ st₂ st₃ : RS} {s₁ s₂ s₃ : Shared} (x : After lo st₁ st₂ s₁ s₂) (y : After lo st₂ st₃ s₂ s₃) : After lo st₁ st₃ s₁ s₃ :=
  ⟨y.gens.trans x.gens, y.drawn.trans x.drawn, y.os.trans x.os, fun b o h e => y.keep b o h (x.keep b o h e), Nat.le_trans x.le y.le⟩

theorem RepT.update {lo : Nat} {st : RS} {s : Shared} (R : RepT st s) {a : Addr} {o : Obj} {f : Obj → Obj} (h : look st.T a = some o) (hf : (f o).isFreed = false) (hlo : lo ≤ a) :
    RepT ⟨putO a f st.T, st.n, st.tk⟩ { s with heap := s.heap.update a f } ∧ After lo st ⟨putO a f st.T, st.n, st.tk⟩ s { s with heap := s.heap.update a f } := by
  have hs : Heap.SameBut a s.heap (s.heap.update a f) := Heap.SameBut.update ..
  refine ⟨⟨fun b o' e => ?_, hs.1.trans R.size, R.toks⟩, ⟨rfl, rfl, rfl, fun b o' e g => (hs.2 b (Nat.ne_of_lt (Nat.lt_of_lt_of_le e hlo))).trans g, Nat.le_refl _⟩⟩
  rw [look_put] at e
  split at e
  · rename_i q
    subst q
    rw [h] at e
    cases e
    exact Heap.get?_update_self _ (R.own _ _ h) hf
  · rename_i q
    exact (hs.2 b q).trans (R.own _ _ e)
theorem RepT.alloc {lo : Nat} {st : RS} {s : Shared} (R : RepT st s) {o : Obj} (hf : o.isFreed = false) :
    RepT ⟨(st.n, o) :: st.T, st.n + 1, st.tk⟩ { s with heap := s.heap.push o } ∧ After lo st ⟨(st.n, o) :: st.T, st.n + 1, st.tk⟩ s { s with heap := s.heap.push o } := by
  refine ⟨⟨fun b o' e => ?_, by rw [Heap.size_push, R.size], R.toks⟩, ⟨rfl, rfl, rfl, fun b o' e g => Heap.get?_push_of_some _ g, Nat.le_succ _⟩⟩
  simp only [look] at e
  split at e
  · rename_i q
    have := Nat.eq_of_beq_eq_true q
    subst this
    cases e
    rw [← R.size]; exact Heap.get?_push_size _ hf
  · exact Heap.get?_push_of_some _ (R.own _ _ e)
theorem RepT.fresh {lo : Nat} {st : RS} {s : Shared} (R : RepT st s) : RepT ⟨st.T, st.n, st.tk + 1⟩ { s with toks := s.toks + 1 } ∧ After lo st ⟨st.T, st.n, st.tk + 1⟩ s { s with toks := s.toks + 1 } :=
  ⟨⟨R.own, R.size, by simp only [R.toks]⟩, ⟨rfl, rfl, rfl, fun _ _ _ e => e, Nat.le_refl _⟩⟩

noncomputable def endR {α : Type} (Q : α → Shared → Prop) (E : Value → Shared → Prop) : Except Value α → Shared → Prop
  | .ok a, s => Q a s
  | .error e, s => E e s

theorem under_handled (A : Around) (c : Code) : (A.under c).handled = A.handled := rfl

theorem rn_sound {prog : Program} {w : World} {lo : Nat} : ∀ n,
    (∀ (α : Type) (st : RS) (t : Sem α) (r : Except Value α) (st' : RS), rn (denote treeTable) ⟨prog, w.params⟩ lo n α st t = some (r, st') →
      ∀ (A : Around) (s : Shared) (Q : α → Shared → Prop) (E : Value → Shared → Prop), A.handled = none → RepT st s →
        (∀ s', RepT st' s' → After lo st st' s s' → endR Q E r s') → wpAny (model prog w) A t Q E s) ∧
    (∀ (st : RS) (c : Code) (r : Result) (st' : RS), rnC (denote treeTable) ⟨prog, w.params⟩ lo n st c = some (r, st') →
      ∀ (A : Around) (s : Shared) (R : Result → Shared → Prop), A.handled = none → RepT st s →
        (∀ s', RepT st' s' → After lo st st' s s' → R r s') → codeAny (model prog w) A c R s)
  | 0 => ⟨fun _ _ _ _ _ h => (nomatch h), fun _ _ _ _ h => (nomatch h)⟩
  | n + 1 => by
    obtain ⟨ih, ihC⟩ := rn_sound (prog := prog) (w := w) (lo := lo) n
    refine ⟨fun α st t r st' h A s Q E hA R k => ?_, fun st c r st' h A s Rr hA R k => ?_⟩
    · have step : ∀ {st₁ : RS} {s₁ : Shared} {t₁ : Sem α}, RepT st₁ s₁ → After lo st st₁ s s₁ → rn (denote treeTable) ⟨prog, w.params⟩ lo n α st₁ t₁ = some (r, st') → wpAny (model prog w) A t₁ Q E s₁ :=
        fun R₁ a₁ e => ih α _ _ r st' e A _ Q E hA R₁ fun s' R' a' => k s' R' (a₁.trans a')
      cases t with
      | pure a => cases h; exact wpAny_pure (k s R (After.refl _ _ _))
      | raise e => cases h; exact wpAny_throw (k s R (After.refl _ _ _))
      | rule _ f => exact step (t₁ := f ()) R (After.refl _ _ _) h
      | «at» p f => exact fun Γ q hΓ => step R (After.refl _ _ _) h Γ p hΓ
      | point _ f => exact step (t₁ := f ()) R (After.refl _ _ _) h
      | load a _ f =>
        obtain ⟨o, ho, h⟩ := optB_iff h
        exact nd_load (R.own _ _ ho) (step R (After.refl _ _ _) h)
      | update a part f kk =>
        obtain ⟨o, ho, h⟩ := optB_iff h
        obtain ⟨hf, h⟩ := noB_iff h
        rw [Bool.or_eq_false_iff] at hf
        obtain ⟨R₁, a₁⟩ := R.update (lo := lo) ho hf.1 (Nat.le_of_not_lt fun q => by have : Nat.blt a lo = true := Nat.ble_eq_true_of_le q; rw [this] at hf; cases hf.2)
        intro Γ q hΓ
        rw [Sem.wp_update]
        exact ⟨by rw [R.own _ _ ho]; rfl, step R₁ a₁ h Γ q hΓ⟩
      | alloc o kk =>
        obtain ⟨hf, h⟩ := noB_iff h
        obtain ⟨R₁, a₁⟩ := R.alloc (lo := lo) hf
        refine nd_alloc ?_
        rw [R.size]
        exact step R₁ a₁ h
      | fresh kk =>
        obtain ⟨R₁, a₁⟩ := R.fresh (lo := lo)
        refine nd_fresh ?_
        rw [R.toks]
        rw [R.toks] at R₁ a₁
        exact step R₁ a₁ h
      | ask kk => exact step (t₁ := kk ⟨prog, w.params⟩) R (After.refl _ _ _) h
      | handled own kk =>
        cases own with
        | true => cases h
        | false =>
          intro Γ q hΓ
          rw [Sem.wp_handled]
          have : (if false = true then Γ.own else Γ.handled) = none := by rw [if_neg Bool.false_ne_true, hΓ.1, hA]
          rw [this]
          exact step R (After.refl _ _ _) h Γ q hΓ
      | call c hd g l kk =>
        cases hd with
        | some e => cases h
        | none =>
          obtain ⟨⟨r₁, st₁⟩, e₁, h⟩ := optB_iff h
          intro Γ q hΓ
          rw [Sem.wp_call]
          have hc := ihC st c r₁ st₁ e₁ A s (fun r s' => wpAny (model prog w) A (kk r) Q E s') hA R fun s' R' a' => step R' a' h
          refine wpCode_mono (fun r s' z => z Γ q hΓ) (hc (Γ.enter c none q) q rfl ?_)
          exact hΓ.enter c none q (by intro x; cases x)
      | _ => exact (nomatch h)
    · obtain ⟨⟨r₁, st₁⟩, e₁, h⟩ := optB_iff h
      refine codeAny_of_tree ?_
      have den : (model prog w).den = denote treeTable := by show denote table = _; rw [table_eq_tree]
      rw [den]
      refine ih Fin _ _ _ _ e₁ _ s _ _ hA R fun s' R' a' => ?_
      cases r₁ with
      | error e => cases h; exact k s' R' a'
      | ok fin => cases fin with
        | done f => cases h; exact k s' R' a'
        | again c' =>
          obtain ⟨hq, h⟩ := noB_iff h
          have hq : c'.quiet = true := by cases hc : c'.quiet with
            | true => rfl
            | false => rw [hc] at hq; cases hq
          exact ⟨hq, ihC _ _ _ _ h A s' Rr hA R' fun s'' R'' a'' => k s'' R'' (a'.trans a'')⟩
end Mine
set_option genSizeOf false
set_option genInjectivity false
set_option maxRecDepth 100000
namespace Mine
open PySem PySem.W PySem.Calls PyProof.Rows

section
variable {M : Model} {A : Around} {E : Value → Shared → Prop} {s : Shared}
theorem newCodeE0 {ctx : CodeContext} {name qualname : Str} {firstLine argc posonly kwonly flags : Nat} {free : List Str} {isFunction : Bool} {Q : Value → Shared → Prop}
    (hQ : ∀ c P h' tk, c = s.heap.objs.size + 2 → (∀ b o, s.heap.get? b = some o → h'.get? b = some o) → h'.objs.size = s.heap.objs.size + 3 → P = s.heap.objs.size + 1 → h'.IsCode c P #[] → Q (.ref c) { s with heap := h', toks := tk }) :
    wpAny M A (newCode ctx name qualname firstLine argc posonly kwonly flags free isFunction none none none) Q E s := by
  unfold newCode
  refine wpAny_bind (wpAny_mkText (wpAny_bind (wpAny_mkText (wpAny_bind (wpAny_mkText (wpAny_bind (wpAny_mkStrs fun fs =>
    wpAny_bind (wpAny_newObjAsIs_type (wpAny_bind (wpAny_alloc ?_))))))))))
  generalize hH : (s.heap.push { cls := .type "tuple", dict := none, data := .seq fs.toArray }) = H
  have hz : H.objs.size = s.heap.objs.size + 1 := by rw [← hH, Heap.size_push]
  have hk : ∀ b o, s.heap.get? b = some o → H.get? b = some o := fun b o e => hH ▸ Heap.get?_push_of_some _ e
  have hPl : (H.push { cls := .none, data := .fields #[] }).get? H.objs.size = some { cls := .none, data := .fields #[] } := Heap.get?_push_size _ rfl
  refine wpAny_bind (wpAny_pure (wpAny_bind (wpAny_pure (wpAny_bind (wpAny_pure (wpAny_bind (wpAny_fresh (wpAny_bind (wpAny_mkText (wpAny_newObj_type ?_ (by size_fits)))))))))))
  exact hQ _ H.objs.size _ _ (by rw [Heap.size_push, hz]) (fun b o e => Heap.get?_push_of_some _ (Heap.get?_push_of_some _ (hk b o e))) (by rw [Heap.size_push, Heap.size_push, hz]) hz
    (ofC ⟨_, _, _, _, _, _, _, _, _, _, Heap.get?_push_size _ rfl, rfl, rfl, rfl, rfl, rfl, rfl, Heap.get?_push_of_some _ hPl, rfl, trivial, by rw [Heap.size_push]; exact Nat.succ_ne_self _⟩)

theorem classCodeE {env : Env} {c P : Addr} {ps : Array Value} {pos : Pos} {firstLine : Nat} {name qualname : Str} {scope : Scope}
    {Q : Value → Shared → Prop} (hc : env.code = .ref c) (hok : s.heap.IsCode c P ps) (hnf : codeAmong pos ps.toList = none)
    (hQ : ∀ c' P' h' tk, c' = s.heap.objs.size + 2 → P' = s.heap.objs.size + 1 → Heap.ExtBut P s.heap h' → h'.objs.size = s.heap.objs.size + 3 → h'.IsCode c P (ps ++ #[rawInt pos.line, rawInt pos.col, .ref c']) → h'.IsCode c' P' #[] →
      Q (.ref c') { s with heap := h', toks := tk }) :
    wpAny M A (classCode env pos firstLine name qualname scope) Q E s := by
  unfold classCode
  refine codeAtE (X := fun c' h' => c' = s.heap.objs.size + 2 ∧ h'.objs.size = s.heap.objs.size + 3 ∧ h'.IsCode c' (s.heap.objs.size + 1) #[]) hc hok hnf (fun ctx Q' h => newCodeE0 fun c' P' h' tk ec hk hz eP hcode' => ?_) fun c' h' h'' tk hc' hP x sb ex ok => ?_
  · subst eP
    exact h c' h' tk (by rw [ec]; exact Nat.le_add_right ..) hk ⟨ec, hz, hcode'⟩
  · exact hQ c' _ h'' tk x.1 rfl ex (sb.1.trans x.2.1) ok (codeKeep x.2.2 (SameBut.ne sb (Nat.ne_of_gt (Nat.lt_of_lt_of_le hP hc'))) (SameBut.ne sb (Nat.ne_of_gt (Nat.lt_of_lt_of_le hP (Nat.le_succ _)))))

theorem class_store0 {env : Env} {x : Str} {v : Value} {l : List (Str × Value)} {Q : Unit → Shared → Prop} (hk : env.scope.kind = .class) (hl : env.kindOf x = none) (hx : compilersOwnNames.contains x = true)
    (D : DictIs s.heap env.locals l) (hn : x ∉ l.map (·.1)) (h : ∀ h', DictIs h' env.locals (l ++ [(x, v)]) → Heap.SameBut env.locals s.heap h' → Q () { s with heap := h', toks := s.toks + 1 }) :
    wpAny M A (storeName env x v) Q E s := by
  have e : storeName env x v = localSet env x v := by
    simp only [storeName, hl, hk, Env.blockKind, ScopeKind.isAnnotationScope, hx]
    rfl
  rw [e]
  unfold localSet
  have D' := D
  obtain ⟨es, n, ho, _⟩ := D'
  refine wpAny_bind (wpAny_load ho ?_)
  exact nsSet_new D hn h
theorem class_load0 {env : Env} {x : Str} {v : Value} {l : List (Str × Value)} {mg} {Q : Value → Shared → Prop} (hk : env.scope.kind = .class) (hl : env.kindOf x = none) (hx : compilersOwnNames.contains x = true)
    (D : DictIs s.heap env.locals l) (hn : x ∉ l.map (·.1)) (hg : s.heap.Ns env.globals mg) (hv : mg x = some v) (h : Q v s) : wpAny M A (loadName env x) Q E s := by
  obtain ⟨es, n, ho, _⟩ := id D
  simp only [loadName, hl, hk, Env.blockKind, ScopeKind.isAnnotationScope, Bool.false_and, Bool.false_eq_true, if_false, hx, Bool.not_true]
  refine wpAny_bind ?_
  unfold localGet
  refine wpAny_bind (wpAny_load ho ?_)
  refine nsGet_dict D ?_
  rw [lookup_none_of hn]
  refine wpAny_bind (wpAny_nsGet hg ?_)
  rw [hv]
  exact wpAny_pure h
end

section
variable {prog : Program} {w : World} {A : Around} {E : Value → Shared → Prop} {s : Shared}
theorem by_rn {α : Type} {t : Sem α} {T : List (Addr × Obj)} {lo fuel n : Nat} {r : α} {st' : RS} {Q : α → Shared → Prop}
    (h : rn (denote treeTable) ⟨prog, w.params⟩ lo fuel α ⟨T, n, s.toks⟩ t = some (.ok r, st')) (hz : s.heap.objs.size = n) (own : ∀ a o, look T a = some o → s.heap.get? a = some o) (hA : A.handled = none)
    (k : ∀ h', (∀ a o, look st'.T a = some o → h'.get? a = some o) → h'.objs.size = st'.n → (∀ b o, b < lo → s.heap.get? b = some o → h'.get? b = some o) → Q r { s with heap := h', toks := st'.tk }) :
    wpAny (model prog w) A t Q E s := by
  refine (rn_sound fuel).1 α _ t _ _ h A s Q E hA ⟨own, hz, rfl⟩ fun s' R a => ?_
  obtain ⟨hp, g, d, tk, os⟩ := s'
  have := k hp R.own R.size a.keep
  have e1 : g = s.gens := a.gens
  have e2 : d = s.drawn := a.drawn
  have e3 : os = s.os := a.os
  have e4 : tk = st'.tk := R.toks
  subst e1 e2 e3 e4
  exact this

noncomputable def prepObj : Obj := ⟨.type "builtin_function_or_method", none, .fields #[.builtin "type.__prepare__", .type "type"], #[]⟩
theorem prep_get (S : Setting) (tk : Nat) : rn (denote treeTable) S 23 300 (Option Value) ⟨[], 23, tk⟩ (getAttr? (.type "type") "__prepare__") = some (.ok (some (.ref 23)), ⟨[(23, prepObj)], 24, tk + 1⟩) := by kernel_rfl
noncomputable def nsObj : Obj := ⟨.type "dict", none, .dict #[] 0, #[]⟩
theorem prep_call (S : Setting) (tk t : Nat) (x : Str) : rn (denote treeTable) S 24 300 Value ⟨[(23, prepObj)], 24, tk⟩ (call (.ref 23) [.str x t, .ref 22] []) = some (.ok (.ref 24), ⟨[(24, nsObj), (23, prepObj)], 25, tk⟩) := by kernel_rfl
theorem prep_item (S : Setting) (tk : Nat) : rn (denote treeTable) S 25 300 (Option Value) ⟨[(24, nsObj)], 25, tk⟩ (specialOf (.ref 24) "__getitem__") = some (.ok (some (.builtin "dict.__getitem__")), ⟨[(24, nsObj)], 25, tk⟩) := by kernel_rfl
end
end Mine
set_option genSizeOf false
set_option genInjectivity false
set_option maxRecDepth 100000
namespace Mine
open PySem PySem.W PySem.Calls PyProof.Rows

/-- the call of type: what comes out -/
structure TypeRun (prog : Program) (w : World) (n : Nat) (sl : List (Str × SV)) (l : List (Str × Value)) (cname : Str) (C : Addr) (P : Heap → Prop) : Prop where
  go : ∀ (A : Around) (s : Shared) (t : Nat) (Q : Value → Shared → Prop) (E : Value → Shared → Prop), A.handled = none → s.heap.objs.size = n → DictIs s.heap 24 l → ObjsOK 29 s.heap sl → s.heap.get? 22 = some ⟨.type "tuple", none, .seq #[] 0, #[]⟩ →
    s.heap.get? cStatics = some ⟨.none, none, .dict #[] 0, #[]⟩ →
    (∀ h' tk, P h' → (∀ b o, b < n → s.heap.get? b = some o → h'.get? b = some o) → n ≤ h'.objs.size → Q (.ref C) { s with heap := h', toks := tk }) →
    wpAny (model prog w) A (call (.type "type") [.str cname t, .ref 22, .ref 24] []) Q E s

theorem mapM_strs {M : Model} {A : Around} {E : Value → Shared → Prop} : ∀ (l : List Str) (s : Shared) (Q : List Value → Shared → Prop), (∀ x ∈ l, x.length ≤ sizeLine) → (∀ vs, vs.length = l.length → Q vs { s with toks := s.toks + l.length }) → wpAny M A (l.mapM mkText) Q E s
  | [], s, Q, _, h => by rw [List.mapM_nil]; exact wpAny_pure (h [] rfl)
  | x :: l, s, Q, hx, h => by
    rw [List.mapM_cons]
    refine wpAny_bind (wpAny_mkText (wpAny_bind (mapM_strs l _ _ (fun y hy => hx y (.tail _ hy)) fun vs hv => wpAny_pure ?_)))
    have := h (.str x s.toks :: vs) (by simp [hv])
    simpa only [List.length_cons, Nat.add_assoc, Nat.add_comm 1] using this

noncomputable def statS (n : Nat) : List (Str × SV) := [(Str.ofString "__static_attributes__", SV.ref n .tup)]
noncomputable def headS (xn qual : Str) (fl : Nat) : List (Str × SV) := [(Str.ofString "__module__", SV.str xn), (Str.ofString "__qualname__", SV.str qual), (Str.ofString "__firstlineno__", SV.int fl)]
section
variable {prog : Program} {w : World} {A : Around} {E : Value → Shared → Prop} {s : Shared}

structure ClsArgs (scope : Scope) (body : List Stmt) (names : List (Str × NameKind)) : Prop where
  kind : scope.kind = .class
  names : scope.names = names
  nocell : ∀ x ∈ scope.names, x.2 ≠ .free ∧ x.2 ≠ .cell
  own : ∀ x ∈ (["__name__", "__module__", "__qualname__", "__firstlineno__", "__static_attributes__", "__class__", "__classdict__"] : List Str), scope.names.lookup x = none
  ann : hasAnns body = false
  doc : docOf body = none

theorem build_class {name qual : Str} {body : List Stmt} {scope : Scope} {statics : List Str} {firstLine : Nat} {env : Env} {pos : Pos} {Q : Value → Shared → Prop} {names : List (Str × NameKind)}
    {c Pl : Addr} {ps : Array Value} {mg : Str → Option Value} {xn : Str} {tn : Nat} {nf : Nat} {fin : List (Str × SV)} {C : Addr} {P : List (Str × Value) → Heap → Prop}
    (K : ClsArgs scope body names) (hz : s.heap.objs.size = 22) (hA : A.handled = none) (hroom : A.depth + 1 < recursionLimit) (hlim : s.heap.NoLimit)
    (hgl : env.globals = mainGlobals) (hcode : env.code = .ref c) (hok : s.heap.IsCode c Pl ps) (hnf : codeAmong pos ps.toList = none) (hg : s.heap.Ns mainGlobals mg) (hPl : mainGlobals ≠ Pl ∧ cStatics ≠ Pl)
    (hb : s.heap.BuiltinsAt mg Pl) (hname : mg "__name__" = some (.str xn tn)) (hst : s.heap.get? cStatics = some ⟨.none, none, .dict #[] 0, #[]⟩)
    (hbody : okBody names 0 29 (headS xn qual firstLine) body = some (nf, fin)) (hstat : ∀ x ∈ statics, x.length ≤ sizeLine) (hfin : sMem "__static_attributes__" (fin.map (·.1)) = false)
    (hty : ∀ l, SVsAre (fin ++ statS nf) l → TypeRun prog w (nf + 1) (fin ++ statS nf) l name C (P l))
    (h : ∀ h' l tk, P l h' → SVsAre (fin ++ statS nf) l → (∀ st ∈ body, StOK 29 h' (.str xn tn) (qual ++ ".") l st) → (∀ b o, b < 22 → b ≠ Pl → s.heap.get? b = some o → h'.get? b = some o) →
      (∃ c', h'.IsCode c Pl (ps ++ #[rawInt pos.line, rawInt pos.col, .ref c'])) → nf + 1 ≤ h'.objs.size → Q (.ref C) { s with heap := h', toks := tk }) :
    wpAny (model prog w) A (buildClass name qual [] [] body scope statics firstLine env pos none) Q E s := by
  unfold buildClass
  refine wpAny_bind (wpAny_newObj_type ?_ (by size_fits))
  refine wpAny_bind (wpAny_pure (a := (([] : List Value), false)) ?_)
  refine wpAny_bind (wpAny_pure (a := Value.type "type") ?_)
  refine wpAny_bind (wpAny_pure (a := true) ?_)
  refine wpAny_ite_true rfl ?_
  refine wpAny_bind (wpAny_pure (a := Value.type "type") ?_)
  refine wpAny_bind (wpAny_mkText ?_)
  refine wpAny_ite_false rfl ?_
  refine wpAny_bind (wpAny_pure (a := Value.ref s.heap.objs.size) ?_)
  refine wpAny_holding (wpAny_bind ?_)
  have h22 : (s.heap.push { cls := Value.type "tuple", data := .seq #[] }).get? 22 = some ⟨.type "tuple", none, .seq #[] 0, #[]⟩ := hz ▸ Heap.get?_push_size _ rfl
  have k22 : ∀ b o, s.heap.get? b = some o → (s.heap.push { cls := Value.type "tuple", data := .seq #[] }).get? b = some o := fun b o e => Heap.get?_push_of_some _ e
  have z22 : (s.heap.push { cls := Value.type "tuple", data := .seq #[] }).objs.size = 23 := by rw [Heap.size_push, hz]
  have lt22 : ∀ b o, s.heap.get? b = some o → b < 22 := fun b o e => hz ▸ Heap.lt_size e
  rw [hz]
  generalize (s.heap.push { cls := Value.type "tuple", data := .seq #[] }) = h1 at *
  refine by_rn (prep_get _ _) z22 (fun _ _ e => (nomatch e)) hA fun h2 own2 z2 k2 => ?_
  dsimp only at own2 z2
  refine wpAny_bind (by_rn (prep_call _ _ _ _) z2 own2 hA fun h3 own3 z3 k3 => ?_)
  dsimp only at own3 z3 k3
  refine wpAny_bind (wpAny_pure ?_)
  refine wpAny_bind (by_rn (T := [(24, nsObj)]) (prep_item _ _) z3 (fun a o e => own3 a o (by
    simp only [look] at e ⊢
    split at e
    · exact e
    · cases e)) hA fun h4 own4 z4 k4 => ?_)
  dsimp only at own4 z4 k4
  refine wpN (by decide) ?_
  refine wpAny_holding ?_
  have nc : ∀ x : Str, scope.names.lookup x = none → (scope.names.lookup x == some NameKind.cell) = false := fun x e => by rw [e]; rfl
  refine wpF (nc _ (K.own "__class__" (by decide +kernel))) ?_
  refine wpAny_bind (wpAny_pure (a := (Option.none : Option Addr)) ?_)
  refine wpF (nc _ (K.own "__classdict__" (by decide +kernel))) ?_
  refine wpAny_bind (wpAny_pure (a := (Option.none : Option Addr)) ?_)
  have kk : ∀ b o, s.heap.get? b = some o → h4.get? b = some o := fun b o e =>
    have hb : @LT.lt Nat _ b 22 := lt22 b o e
    k4 b o (by lia) (k3 b o (by lia) (k2 b o (by lia) (k22 b o e)))
  have h24 : h4.get? 24 = some nsObj := own4 24 _ rfl
  have g22 : h4.get? 22 = some ⟨.type "tuple", none, .seq #[] 0, #[]⟩ := k4 _ _ (by lia) (k3 _ _ (by lia) (k2 _ _ (by lia) h22))
  have hPlt : Pl < 22 := hz ▸ hok.lt.2
  refine wpAny_bind (classCodeE (s := { s with heap := h4, toks := s.toks + 1 + 1 }) hcode (hok.keeps kk) hnf fun c' P' h5 tk5 ec eP x5 z5 hok5 hcode5 => ?_)
  dsimp only at ec eP x5 z5 ⊢
  rw [z4] at ec eP z5
  have hb4 := hb.keeps kk
  obtain ⟨bm, o, hbm, hne0, hneG, hneP, hbo, hcls, hdict, hdata⟩ := hb4
  have hg5 := (hg.keeps kk).extBut x5 hPl.1
  refine wpAny_bind (wpAny_builtinsFor (by rw [hgl]; exact hg5) hbm hne0 (x5 _ _ hneP hbo) hcls hdict hdata ?_)
  unfold newBodyFrame
  refine wpAny_bind (wpAny_bind (wpAny_nsGet (by rw [hgl]; exact hg5) (wpAny_alloc ?_)))
  have hcl : closureFor scope env = pure [] := closureFor_none fun x hx => (K.nocell x hx).1
  refine wpAny_bind (wpEq hcl (wpAny_pure ?_))
  have z5' : h5.objs.size = 28 := z5
  have hP24 : 24 ≠ Pl := Nat.ne_of_gt (Nat.lt_trans hPlt (by decide))
  -- the frame
  generalize hf6 : h5.push _ = h6
  have k6 : ∀ b o, b ≠ Pl → h4.get? b = some o → h6.get? b = some o := fun b o hb e => by rw [← hf6]; exact Heap.get?_push_of_some _ (x5 _ _ hb e)
  have z6 : h6.objs.size = 29 := by rw [← hf6, Heap.size_push, z5']
  have hok6 : h6.IsCode c Pl (ps ++ #[rawInt pos.line, rawInt pos.col, .ref c']) := by rw [← hf6]; exact hok5.push _
  have hcode6 : h6.IsCode c' P' #[] := by rw [← hf6]; exact hcode5.push _
  have D6 : DictIs h6 24 [] := ⟨#[], 0, k6 _ _ hP24 h24, .nil⟩
  have g6 : h6.Ns mainGlobals mg := by rw [← hf6]; exact hg5.push _
  have b6 : h6.BuiltinsAt mg Pl := ⟨bm, o, hbm, hne0, hneG, hneP, k6 _ _ hneP hbo, hcls, hdict, hdata⟩
  have lim6 : h6.NoLimit := by
    obtain ⟨mc, a, b⟩ := hlim
    exact ⟨mc, a.at fun o e => k6 _ _ hPl.2 (kk _ _ e), b⟩
  refine wpAny_holding (wpAny_bind (wpAny_enterFrame lim6 (Nat.lt_of_succ_lt hroom) ?_))
  rw [z5']
  dsimp only [Option.map, Option.toList, List.nil_append]
  generalize hce : ({ scope := scope, locals := 24, globals := env.globals, cells := [], qual := qual ++ Str.ofString ".", code := Value.ref c', frame := some 28, builtins := builtinsNs } : Env) = cenv
  have ce1 : cenv.scope = scope := by rw [← hce]
  have ce2 : cenv.locals = 24 := by rw [← hce]
  have ce3 : cenv.globals = mainGlobals := by rw [← hce]; exact hgl
  have ce4 : cenv.code = .ref c' := by rw [← hce]
  have ce5 : cenv.qual = qual ++ Str.ofString "." := by rw [← hce]
  have kof : ∀ x : Str, x ∈ (["__name__", "__module__", "__qualname__", "__firstlineno__", "__static_attributes__", "__class__", "__classdict__"] : List Str) → cenv.kindOf x = none := fun x hx => by
    unfold Env.kindOf; rw [ce1]; exact K.own x hx
  have kcl : cenv.scope.kind = .class := by rw [ce1]; exact K.kind
  have nG24 : mainGlobals ≠ (24 : Addr) := by decide
  have nC24 : cStatics ≠ (24 : Addr) := by decide
  refine wpAny_bind (wpAny_onRaise ?_)
  refine wpAny_bind (class_load0 (s := { s with heap := h6, toks := tk5 }) (l := []) kcl (kof _ (by decide +kernel)) (by decide +kernel) (by rw [ce2]; exact D6) (fun h => (nomatch h)) (by rw [ce3]; exact g6) hname ?_)
  refine wpAny_bind (class_store0 (s := { s with heap := h6, toks := tk5 }) (l := []) kcl (kof _ (by decide +kernel)) (by decide +kernel) (by rw [ce2]; exact D6) (fun h => (nomatch h)) fun h7 D7 s7 => ?_)
  refine wpAny_bind (wpAny_mkText ?_)
  refine wpAny_bind (class_store0 (s := { s with heap := h7, toks := tk5 + 1 + 1 }) (l := [("__module__", .str xn tn)]) kcl (kof _ (by decide +kernel)) (by decide +kernel) D7 (sMem_false.mp (show sMem (Str.ofString "__qualname__") [Str.ofString "__module__"] = false from by decide +kernel)) fun h8 D8 s8 => ?_)
  refine wpAny_bind (wpAny_mkInt ?_)
  refine wpAny_bind (class_store0 (s := { s with heap := h8, toks := tk5 + 1 + 1 + 1 + 1 }) (l := [("__module__", .str xn tn), ("__qualname__", .str qual (tk5 + 1))]) kcl (kof _ (by decide +kernel)) (by decide +kernel) D8 (sMem_false.mp (show sMem (Str.ofString "__firstlineno__") [Str.ofString "__module__", Str.ofString "__qualname__"] = false from by decide +kernel)) fun h9 D9 s9 => ?_)
  refine wpAny_pure ?_
  rw [ce2] at D9 s7 s8 s9
  have s79 : Heap.SameBut 24 h6 h9 := (s7.trans s8).trans s9
  have nPl : Pl ≠ 24 := Ne.symm hP24
  have hc24 : c ≠ 24 := Nat.ne_of_lt (Nat.lt_trans (hz ▸ hok.lt.1) (by decide))
  refine wpAny_bind (wpAny_run (codeAny_body K.ann K.doc ?_))
  have CB9 : CB 29 29 h9 24 c' P' mg [("__module__", .str xn tn), ("__qualname__", .str qual (tk5 + 1)), ("__firstlineno__", .int firstLine (tk5 + 1 + 1 + 1))] #[] := by
    refine ⟨D9, hcode6.sameBut s79 (by rw [ec]; decide) (by rw [eP]; decide), g6.sameBut s79 nG24, ?_, by rw [s79.1, z6], Nat.le_refl _, by decide, by rw [eP]; decide, by rw [eP]; decide, nG24, by rw [eP]; decide, by rw [ec]; decide⟩
    refine ⟨bm, o, hbm, hne0, hneG, ?_, (s79.2 bm ?_).trans (k6 _ _ hneP hbo), hcls, hdict, hdata⟩
    · rw [eP]; exact Nat.ne_of_lt (Nat.lt_of_lt_of_le (Heap.lt_size hbo) (by rw [z4]; decide))
    · rintro rfl
      rw [h24] at hbo; cases hbo; cases hdata
  refine class_body (mg := mg) (pm := .str xn tn) kcl ce2 ce3 ce4 (by rw [hname]; rfl) body 0 29 (headS xn qual firstLine) _ #[] { s with heap := h9, toks := tk5 + 1 + 1 + 1 + 1 + 1 } _ (by rw [ce1, K.names]; exact hbody) ?_ ?_ CB9 .nil fun h10 l10 ps10 tk10 more B10 em SA10 OB10 OK10 K10 => ?_
  · exact ⟨rfl, ⟨_, rfl⟩, rfl, ⟨_, rfl⟩, rfl, ⟨_, rfl⟩, trivial⟩
  · intro x a k hm; rcases hm with _ | ⟨_, _ | ⟨_, _ | ⟨_, hm⟩⟩⟩; cases hm
  -- the static attributes
  refine wpAny_bind (wpAny_onRaise ?_)
  refine wpAny_bind (mapM_strs statics _ _ hstat fun vs hvs => ?_)
  refine wpAny_bind (wpAny_newTextTuple ?_)
  have B10' := B10
  have z10 := B10.size
  dsimp only at z10 ⊢
  rw [z10]
  generalize hf11 : h10.push _ = h11
  have k11 : ∀ b o, h10.get? b = some o → h11.get? b = some o := fun b o e => by rw [← hf11]; exact Heap.get?_push_of_some _ e
  have z11 : h11.objs.size = nf + 1 := by rw [← hf11, Heap.size_push, z10]
  refine wpAny_bind (class_store0 (s := { s with heap := h11, toks := tk10 + statics.length }) (l := l10) kcl (kof _ (by decide +kernel)) (by decide +kernel) (by rw [ce2]; exact B10.d.at fun o e => k11 _ _ e) (by rw [← SA10.names]; exact sMem_false.mp hfin) fun h12 D12 s12 => ?_)
  rw [ce2] at D12 s12
  refine wpAny_bind (wpAny_pure (wpAny_pure ?_))
  refine wpF rfl ?_
  have SA12 : SVsAre (fin ++ statS nf) (l10 ++ [(Str.ofString "__static_attributes__", Value.ref nf)]) := SVsAre.snoc (sv := .ref nf .tup) (v := .ref nf) rfl SA10
  have tr := hty _ SA12
  -- what stands behind the body
  have k12 : ∀ b o, b ≠ 24 → b ≠ P' → h9.get? b = some o → h12.get? b = some o := fun b o h1 h2 e => (s12.2 b h1).trans (k11 _ _ (K10 b o h1 h2 e))
  have k9 : ∀ b o, b ≠ 24 → b ≠ Pl → h4.get? b = some o → h9.get? b = some o := fun b o h1 h2 e => (s79.2 b h1).trans (k6 _ _ h2 e)
  have n26 : ∀ b : Addr, @LT.lt Nat _ b 22 → b ≠ 24 ∧ b ≠ P' := fun b hb => ⟨Nat.ne_of_lt (Nat.lt_trans hb (by decide)), by rw [eP]; exact Nat.ne_of_lt (Nat.lt_trans hb (by decide))⟩
  have old : ∀ b o, @LT.lt Nat _ b 22 → b ≠ Pl → s.heap.get? b = some o → h12.get? b = some o := fun b o hb h2 e =>
    k12 b o (n26 b hb).1 (n26 b hb).2 (k9 b o (n26 b hb).1 h2 (kk b o e))
  refine wpAny_bind (tr.go A { s with heap := h12, toks := tk10 + statics.length + 1 } s.toks _ E hA (by rw [s12.1, z11]) D12 ?_ ?_ ?_ fun h13 tk13 hP k13 z13 => ?_)
  · have O12 : ObjsOK 29 h12 fin := OB10.keep fun b o hb e => (s12.2 b (Nat.ne_of_gt (Nat.lt_of_lt_of_le (by decide) hb))).trans (k11 _ _ e)
    refine O12.snoc fun a k e => ?_
    cases e
    refine ⟨B10.le, _, (s12.2 nf (Nat.ne_of_gt (Nat.lt_of_lt_of_le (by decide) B10.le))).trans (?_ : h11.get? nf = some { cls := .type "tuple", data := .seq vs.toArray })⟩
    rw [← hf11, ← z10]; exact Heap.get?_push_size _ rfl
  · exact k12 22 _ (by decide) (by rw [eP]; decide) (k9 22 _ (by decide) (Ne.symm (Nat.ne_of_lt hPlt)) g22)
  · exact old cStatics _ (by decide) hPl.2 hst
  · refine wpAny_pure ?_
    have hlt : 29 ≤ nf := B10.le
    refine h h13 _ tk13 hP SA12 (fun st hst' => ?_) (fun b o hb h2 e => k13 b o ?_ (old b o hb h2 e)) ⟨c', ?_⟩ z13
    · have S1 := OK10 st hst'
      rw [ce5] at S1
      refine S1.keep fun b o hb e => ?_
      have hb2 : @LT.lt Nat _ b nf := by rw [← z10]; exact Heap.lt_size e
      exact k13 b o (Nat.lt_succ_of_lt hb2) ((s12.2 b (Nat.ne_of_gt (Nat.lt_of_lt_of_le (by decide) hb))).trans (k11 _ _ e))
    · exact Nat.lt_of_lt_of_le hb (by lia)
    · have hc22 : @LT.lt Nat _ c 22 := hz ▸ hok.lt.1
      have e1 : ∀ b o, (b = c ∨ b = Pl) → h6.get? b = some o → h13.get? b = some o := fun b o hb e => by
        have hlt : @LT.lt Nat _ b 22 := by rcases hb with rfl | rfl; exact hc22; exact hPlt
        exact k13 b o (Nat.lt_of_lt_of_le hlt (by lia)) (k12 b o (n26 b hlt).1 (n26 b hlt).2 ((s79.2 b (n26 b hlt).1).trans e))
      exact codeKeep hok6 (fun o => e1 _ o (.inl rfl)) fun o => e1 _ o (.inr rfl)
end
end Mine
set_option genSizeOf false
set_option genInjectivity false
set_option maxRecDepth 100000
namespace Mine
open PySem PySem.W PySem.Calls PyProof.Rows

noncomputable def svV (t : Nat) : SV → Value
  | .ref a _ => .ref a
  | .none => .none
  | .bool b => .bool b
  | .int i => .int i t
  | .str s => .str s t
noncomputable def entsOf (hs : Nat → Int) (ts us : Nat → Nat) : Nat → List (Str × SV) → List DictEntry
  | _, [] => []
  | i, (x, sv) :: r => ⟨hs i, .str x (ts i), svV (us i) sv⟩ :: entsOf hs ts us (i + 1) r
noncomputable def tokOf : Option Value → Nat
  | some (.int _ t) => t
  | some (.str _ t) => t
  | _ => 0
theorem svV_is {sv : SV} {v : Value} (h : sv.Is v) : svV (tokOf (some v)) sv = v := by
  cases sv <;> first | exact h.symm | (obtain ⟨t, rfl⟩ := h; rfl)
theorem ents_of (full : List DictEntry) {es : List DictEntry} {l : List (Str × Value)} (hE : Ents es l) : ∀ (sl : List (Str × SV)) (pre : List DictEntry), full = pre ++ es → SVsAre sl l →
    es = entsOf (fun j => ((full[j]?).map (·.hash)).getD 0) (fun j => tokOf ((full[j]?).map (·.key))) (fun j => tokOf ((full[j]?).map (·.val))) pre.length sl := by
  induction hE with
  | nil =>
    intro sl pre _ h
    cases sl with
    | nil => rfl
    | cons _ _ => exact h.elim
  | @cons en y v t es l a b r ih =>
    intro sl pre e h
    cases sl with
    | nil => exact h.elim
    | cons p sl =>
      have hg : full[pre.length]? = some en := by rw [e, List.getElem?_append_right (Nat.le_refl _), Nat.sub_self]; rfl
      have ih := ih sl (pre ++ [en]) (by rw [e, List.append_assoc]; rfl) h.2.2
      rw [List.length_append] at ih
      refine congr (congrArg List.cons ?_) ih
      dsimp only
      rw [hg]
      have h2 := svV_is (b ▸ h.2.1 : p.2.Is en.val)
      have h1 : p.1 = y := h.1
      show en = ⟨en.hash, .str p.1 (tokOf (some en.key)), svV (tokOf (some en.val)) p.2⟩
      rw [h2, h1, a]
      show en = ⟨en.hash, .str y t, en.val⟩
      rw [← a]

noncomputable def objsOf (dat : Addr → Data) : List (Str × SV) → List (Addr × Obj)
  | [] => []
  | (_, .ref a k) :: r => (a, ⟨.type k.name, none, dat a, #[]⟩) :: objsOf dat r
  | _ :: r => objsOf dat r
theorem objsOf_own {h : Heap} {n₀ : Nat} {dat : Addr → Data} : ∀ {sl : List (Str × SV)}, (∀ x a k, (x, SV.ref a k) ∈ sl → h.get? a = some ⟨.type k.name, none, dat a, #[]⟩) → ∀ a o, look (objsOf dat sl) a = some o → h.get? a = some o
  | [], _, _, _, e => nomatch e
  | (x, sv) :: r, hh, a, o, e => by
    have ih := objsOf_own (n₀ := n₀) (sl := r) (fun y b k hm => hh y b k (.tail _ hm)) a o
    cases sv with
    | ref b k =>
      simp only [objsOf, look] at e
      split at e
      · rename_i q
        have := Nat.eq_of_beq_eq_true q
        subst this
        cases e
        exact hh x b k (.head _)
      · exact ih e
    | _ => exact ih e

noncomputable def TOf (dat : Addr → Data) (ep : Nat) (hs : Nat → Int) (ts us : Nat → Nat) (sl : List (Str × SV)) : List (Addr × Obj) :=
  (22, ⟨.type "tuple", none, .seq #[] 0, #[]⟩) :: (24, ⟨.type "dict", none, .dict (entsOf hs ts us 0 sl).toArray ep, #[]⟩) :: (2, ⟨.none, none, .dict #[] 0, #[]⟩) :: objsOf dat sl
/-- the class's own dict behind the call of type -/
noncomputable def nsBehind (n : Nat) (l : List (Str × SV)) : List (Str × SV) :=
  l.filter (fun p => !sEq p.1 "__qualname__") ++ [(Str.ofString "__dict__", SV.ref (n + 2) .fn), (Str.ofString "__weakref__", SV.ref (n + 3) .fn), (Str.ofString "__doc__", SV.none)]
noncomputable def clsObj (cname qual : Str) (n t q : Nat) : Obj :=
  ⟨.type "type", none, .cls { name := cname, bases := [.type "object"], mro := [.ref (n + 1), .type "object"], ns := n, qualname := qual }, #[none, none, some (.str cname t), some (.str qual q), some (.builtin "object.__new__"), some (.bool true)]⟩
noncomputable def pairOf (e : DictEntry) : Option Str × Value := ((match e.key with | .str x _ => some x | _ => none), e.val)
noncomputable def nsView : Option Obj → Option (List (Option Str × Value))
  | some ⟨.type "dict", none, .dict es _, sl⟩ => match sl.toList with
    | [] => some (es.toList.map pairOf)
    | _ => none
  | _ => none
noncomputable def viewT (n : Nat) (x : Except Value Value × RS) : (Option Value) × Option (List (Option Str × Value)) × Option Obj := ((match x.1 with | .ok v => some v | .error _ => none), nsView (look x.2.T n), look x.2.T (n + 1))
noncomputable def extraP (n : Nat) : List (Str × Value) := [(Str.ofString "__dict__", .ref (n + 2)), (Str.ofString "__weakref__", .ref (n + 3)), (Str.ofString "__doc__", .none)]
noncomputable def upP (l : List (Str × Value)) : List (Option Str × Value) := l.map fun p => (some p.1, p.2)

theorem Ents.of_pairs : ∀ {es : List DictEntry} {l : List (Str × Value)}, es.map pairOf = upP l → Ents es l
  | [], [], _ => .nil
  | [], _ :: _, h => nomatch h
  | _ :: _, [], h => nomatch h
  | ⟨hh, k, v⟩ :: es, (x, w) :: l, h => by
    simp only [upP, List.map_cons, List.cons.injEq, pairOf, Prod.mk.injEq] at h
    obtain ⟨⟨h1, h2⟩, h3⟩ := h
    have ih := Ents.of_pairs (es := es) (l := l) h3
    cases k <;> simp at h1
    rename_i y t
    exact .cons (t := t) (by rw [← h1]) h2 ih
theorem Ents.pairs : ∀ {es : List DictEntry} {l : List (Str × Value)}, Ents es l → es.map pairOf = upP l
  | [], [], _ => rfl
  | [], _ :: _, h => nomatch h
  | _ :: _, [], h => nomatch h
  | ⟨hh, k, v⟩ :: es, (x, w) :: l, h => by
    cases h
    rename_i t a b r
    have ih := Ents.pairs r
    dsimp only at a b
    subst a b
    simp only [upP, List.map_cons, pairOf] at ih ⊢
    rw [ih]

/-- what stands behind the class's statement -/
structure ClassMade (cname qual : Str) (n : Nat) (l : List (Str × Value)) (h : Heap) : Prop where
  cls : ∃ t q, h.get? (n + 1) = some (clsObj cname qual n t q)
  ns : DictIs h n (l.filter (fun p => !sEq p.1 "__qualname__") ++ extraP n)

theorem typeRun_of {prog : Program} {w : World} {n fuel : Nat} {cname qual : Str} {sl : List (Str × SV)} (hn : 29 ≤ n)
    (hrun : ∀ (dat : Addr → Data) (ep : Nat) (hs : Nat → Int) (ts us : Nat → Nat) (tk t : Nat),
      (rn (denote treeTable) ⟨prog, w.params⟩ n fuel Value ⟨TOf dat ep hs ts us sl, n, tk⟩ (call (.type "type") [.str cname t, .ref 22, .ref 24] [])).map (viewT n) =
        some (some (.ref (n + 1)), some (((entsOf hs ts us 0 sl).map pairOf).filter (fun p => !(match p.1 with | some x => sEq x "__qualname__" | none => false)) ++ upP (extraP n)), some (clsObj cname qual n t (us 1)))) :
    ∀ l, SVsAre sl l → TypeRun prog w n sl l cname (n + 1) (ClassMade cname qual n l) := by
  intro l SA
  refine ⟨fun A s t Q E hA hz D OB h22 hst h => ?_⟩
  obtain ⟨es, ep, h24, he⟩ := D
  have e1 := ents_of es.toList he sl [] rfl SA
  obtain ⟨hs, ts, us, e1⟩ : ∃ (hs : Nat → Int) (ts us : Nat → Nat), es.toList = entsOf hs ts us 0 sl := ⟨_, _, _, e1⟩
  obtain ⟨dat, hdat⟩ : ∃ dat : Addr → Data, ∀ x a k, (x, SV.ref a k) ∈ sl → s.heap.get? a = some ⟨.type k.name, none, dat a, #[]⟩ :=
    ⟨fun a => ((s.heap.get? a).map (·.data)).getD .plain, fun x a k hm => by
      obtain ⟨_, d, e⟩ := OB x a k hm
      simp only [e, Option.map_some, Option.getD_some]⟩
  have hr := hrun dat ep hs ts us s.toks t
  obtain ⟨⟨r, st'⟩, hr1, hr2⟩ := Option.map_eq_some_iff.mp hr
  simp only [viewT, Prod.mk.injEq] at hr2
  obtain ⟨v1, v2, v3⟩ := hr2
  cases r with
  | error _ => cases v1
  | ok r =>
    cases v1
    refine by_rn hr1 hz (fun a o e => ?_) hA fun h' own z k => ?_
    · simp only [TOf, look] at e
      split at e
      · rename_i q; have := Nat.eq_of_beq_eq_true q; subst this; cases e; exact h22
      · split at e
        · rename_i q; have := Nat.eq_of_beq_eq_true q; subst this; cases e
          rw [h24, ← e1]
        · split at e
          · rename_i q; have := Nat.eq_of_beq_eq_true q; subst this; cases e; exact hst
          · exact objsOf_own (n₀ := 29) hdat a o e
    · refine h h' _ ⟨⟨t, us 1, own _ _ v3⟩, ?_⟩ k ?_
      · unfold nsView at v2
        split at v2
        · rename_i es' ep' slt hl
          split at v2
          · rename_i hs'
            cases (Array.toList_eq_nil_iff.mp hs')
            refine ⟨es', ep', own _ _ hl, Ents.of_pairs ?_⟩
            rw [Option.some.inj v2]
            rw [← e1, he.pairs]
            simp only [upP, List.map_append, List.filter_map]
            rfl
          · cases v2
        · cases v2
      · have : n + 1 < h'.objs.size := Heap.lt_size (own _ _ v3)
        lia
end Mine
set_option genSizeOf false
set_option genInjectivity false
set_option maxRecDepth 100000
namespace Mine
open PySem PySem.W PySem.Calls PyProof.Rows

/-! ## the module's own statements -/
noncomputable def topEnv (p : Program) (c F : Addr) : Env := { scope := p.main.scope, locals := mainNs, globals := mainNs, cells := [], code := .ref c, frame := some F }

/-- the state between two statements of the top: 12 the table, 13 the code -/
structure MS (n : Nat) (h : Heap) (m₀ : Str → Option Value) (l : List (Str × Value)) (ps : Array Value) : Prop where
  g : h.Ns mainGlobals (fun x => match l.lookup x with | some v => some v | none => m₀ x)
  code : h.IsCode 13 12 ps
  b : h.BuiltinsAt (fun x => match l.lookup x with | some v => some v | none => m₀ x) 12
  size : h.objs.size = n
  le : 15 ≤ n

theorem MS.up {h h' : Heap} (k : Keeps2 mainGlobals 12 h h') : ∀ b o, 15 ≤ b → h.get? b = some o → h'.get? b = some o :=
  fun b o hb e => k b o (Nat.ne_of_gt (Nat.lt_of_lt_of_le (by decide) hb)) (Nat.ne_of_gt (Nat.lt_of_lt_of_le (by decide) hb)) e

theorem map_cons {m₀ : Str → Option Value} {l : List (Str × Value)} {x : Str} {v : Value} :
    (fun y => if y = x then some v else (match l.lookup y with | some v => some v | none => m₀ y)) = fun y => match ((x, v) :: l).lookup y with | some v => some v | none => m₀ y := by
  funext y
  rw [List.lookup_cons]
  by_cases h : y = x
  · subst h; simp
  · have : (y == x) = false := by simpa using h
    rw [if_neg h, this]

section
variable {M : Model} {A : Around} {E : Value → Shared → Prop} {s : Shared}
theorem mod_store {p : Program} {c F : Addr} {n : Nat} {m₀ l ps} {x : Str} {v : Value} {Q : Unit → Shared → Prop} (hk : p.main.scope.kind = .module) (hl : p.main.scope.names.lookup x = some .local) (hb : x ≠ "__builtins__")
    (S : MS n s.heap m₀ l ps) (h : ∀ h', MS n h' m₀ ((x, v) :: l) ps → Heap.SameBut mainGlobals s.heap h' → Q () { s with heap := h', toks := s.toks + 1 }) :
    wpAny M A (storeName (topEnv p c F) x v) Q E s := by
  refine wpAny_storeName_local (env := topEnv p c F) hl S.g (fun h' hn hs => h h' ?_ hs) (by show (p.main.scope.kind == .class || (p.main.scope.kind == .module && mainNs != mainNs)) = false; rw [hk]; rfl)
  have e : (fun y => if y = x then some v else (match l.lookup y with | some v => some v | none => m₀ y)) = _ := map_cons (m₀ := m₀) (l := l) (x := x) (v := v)
  have hn' : h'.Ns mainGlobals (fun y => if y = x then some v else (match l.lookup y with | some v => some v | none => m₀ y)) := hn
  rw [e] at hn'
  have hs : Heap.SameBut mainGlobals s.heap h' := hs
  refine ⟨hn', S.code.sameBut hs (by decide) (by decide), ?_, hs.1.trans S.size, S.le⟩
  obtain ⟨bm, o, a, b, c, d, e', f, g, r⟩ := S.b
  refine ⟨bm, o, ?_, b, c, d, (hs.2 bm c).trans e', f, g, r⟩
  have : (("__builtins__" : Str) == x) = false := by simpa using (fun q => hb q.symm : ¬ ("__builtins__" : Str) = x)
  show (match ((x, v) :: l).lookup ("__builtins__" : Str) with | some v => some v | none => m₀ "__builtins__") = _
  rw [List.lookup_cons, this]
  exact a

/-- keys that are numbers -/
noncomputable def intK : Const → Option Int
  | .int i => some i
  | _ => none
noncomputable def conP : Expr → Option (Const × Nat × Pos)
  | .Constant c k p => some (c, k, p)
  | _ => none
theorem conP_eq {e : Expr} {q : Const × Nat × Pos} (h : conP e = some q) : e = .Constant q.1 q.2.1 q.2.2 := by
  cases e with
  | Constant c k p => rw [← some_eq h]
  | _ => exact none_some h
noncomputable def intC (e : Expr) : Option Int := optB (conP e) fun q => intK q.1
theorem intK_eq {c : Const} {i : Int} (h : intK c = some i) : c = .int i := by
  cases c with
  | int j => rw [some_eq h]
  | _ => exact none_some h
theorem intC_eq {e : Expr} {i : Int} (h : intC e = some i) : ∃ k p, e = .Constant (.int i) k p :=
  let ⟨q, e, h⟩ := optB_iff h
  ⟨q.2.1, q.2.2, intK_eq h ▸ conP_eq e⟩
noncomputable def keysI : List (Option Expr) → Option (List Int)
  | [] => some []
  | k :: r => optB (optB k intC) fun i => optB (keysI r) fun l => some (i :: l)
theorem keysI_cons {k : Option Expr} {r : List (Option Expr)} {is : List Int} (h : keysI (k :: r) = some is) : ∃ i kk p l, k = some (.Constant (.int i) kk p) ∧ keysI r = some l ∧ is = i :: l := by
  obtain ⟨i, h1, h⟩ := optB_iff h
  obtain ⟨l, h2, h⟩ := optB_iff h
  obtain ⟨e, h3, h4⟩ := optB_iff h1
  obtain ⟨kk, p, h5⟩ := intC_eq h4
  exact ⟨i, kk, p, l, h5 ▸ h3, h2, (some_eq h).symm⟩
noncomputable def iMem (i : Int) : List Int → Bool
  | [] => false
  | j :: r => decide (i = j) || iMem i r
noncomputable def nodupI : List Int → Bool
  | [] => true
  | i :: r => !iMem i r && nodupI r
theorem iMem_of {i : Int} : ∀ {l : List Int}, i ∈ l → iMem i l = true
  | j :: r, h => by
    show (decide (i = j) || iMem i r) = true
    rcases List.mem_cons.mp h with q | h
    · rw [decide_eq_true q]; rfl
    · rw [iMem_of h, Bool.or_true]
theorem nodupI_spec : ∀ {l : List Int}, nodupI l = true → l.Nodup
  | [], _ => List.nodup_nil
  | i :: r, h => by
    obtain ⟨h1, h2⟩ := and_t (show (!iMem i r && nodupI r) = true from h)
    exact List.nodup_cons.mpr ⟨fun hm => by rw [iMem_of hm] at h1; exact ff h1, nodupI_spec h2⟩
noncomputable def okKeys (n : Nat) (is : List Int) : Bool := nodupI is && Nat.beq is.length n && Nat.ble 1 n && Nat.ble n 15
noncomputable def okDict (ks : List (Option Expr)) (n : Nat) : Bool := match keysI ks with
  | some is => okKeys n is
  | none => false
theorem okDict_iff {ks : List (Option Expr)} {n : Nat} (h : okDict ks n = true) : ∃ is, keysI ks = some is ∧ okKeys n is = true := by
  unfold okDict at h
  cases q : keysI ks with
  | none => rw [q] at h; exact ff h
  | some is => rw [q] at h; exact ⟨is, rfl, h⟩
/-- a dict of numbers, in whatever program -/
noncomputable def IntDict (o : Obj) (kvs : List (Int × Value)) : Prop := ∀ (p : Program) (w : World), o.IsDictOf (intKind p w) kvs
theorem dict_any {p : Program} {w : World} {o : Obj} {kvs : List (Int × Value)} (h : o.IsDictOf (intKind p w) kvs) : IntDict o kvs := by
  intro p' w'
  obtain ⟨es, ep, h1, h2, h3, h4, h5⟩ := h
  refine ⟨es, ep, h1, h2, fun e he => h3 e he, ?_, h5⟩
  clear h3 h5 h2
  generalize es.toList = l at h4
  induction h4 with
  | nil => exact .nil
  | cons a b _ ih => exact .cons a b ih
/-- written data: constants and lists of them, so deep -/
noncomputable def okData : Nat → Expr → Bool
  | 0, e => e.isPlainConst
  | n + 1, e => match e with
    | .List es _ => es.all (okData n) && Nat.ble es.length 100000
    | .Dict ks vs _ => vs.all (okData n) && okDict ks vs.length
    | _ => e.isPlainConst
inductive DataIs (n₀ : Nat) (h : Heap) : Expr → Value → Prop
  | const {c : Const} {k : Nat} {p : Pos} {v : Value} : c.Val v → DataIs n₀ h (.Constant c k p) v
  | list {es : List Expr} {p : Pos} {a : Addr} {items : List Value} : n₀ ≤ a → h.get? a = some { cls := .type "list", data := .seq (List.toArray items) } → (es.length = items.length) → (∀ (i : Nat) (e : Expr) (v : Value), es[i]? = some e → items[i]? = some v → DataIs n₀ h e v) → DataIs n₀ h (.List es p) (.ref a)
  | dict {ks : List (Option Expr)} {vs : List Expr} {p : Pos} {a : Addr} {o : Obj} {kvs : List (Int × Value)} {is : List Int} : n₀ ≤ a → h.get? a = some o → IntDict o kvs → keysI ks = some is → kvs.map (·.1) = is → (vs.length = kvs.length) →
      (∀ (i : Nat) (e : Expr) (kv : Int × Value), vs[i]? = some e → kvs[i]? = some kv → DataIs n₀ h e kv.2) → DataIs n₀ h (.Dict ks vs p) (.ref a)
theorem DataIs.keep {n₀ : Nat} {h h' : Heap} {e : Expr} {v : Value} (D : DataIs n₀ h e v) (k : ∀ b o, n₀ ≤ b → h.get? b = some o → h'.get? b = some o) : DataIs n₀ h' e v := by
  induction D with
  | const c => exact .const c
  | list a g l _ ih => exact .list a (k _ _ a g) l ih
  | dict a g d e1 e2 l _ ih => exact .dict a (k _ _ a g) d e1 e2 l ih
theorem DataIs.weaken {n₀ n₁ : Nat} {h : Heap} {e : Expr} {v : Value} (D : DataIs n₁ h e v) (le : n₀ ≤ n₁) : DataIs n₀ h e v := by
  induction D with
  | const c => exact .const c
  | list a g l _ ih => exact .list (Nat.le_trans le a) g l ih
  | dict a g d e1 e2 l _ ih => exact .dict (Nat.le_trans le a) g d e1 e2 l ih

noncomputable def DatasAre (n₀ : Nat) (h : Heap) : List Expr → List Value → Prop
  | [], [] => True
  | e :: es, v :: vs => DataIs n₀ h e v ∧ DatasAre n₀ h es vs
  | _, _ => False
theorem DatasAre.keep {n₀ : Nat} {h h' : Heap} (k : ∀ b o, n₀ ≤ b → h.get? b = some o → h'.get? b = some o) : ∀ {es : List Expr} {vs : List Value}, DatasAre n₀ h es vs → DatasAre n₀ h' es vs
  | [], [], _ => trivial
  | _ :: _, _ :: _, ⟨a, b⟩ => ⟨a.keep k, DatasAre.keep k b⟩
theorem DatasAre.get {n₀ : Nat} {h : Heap} : ∀ (es : List Expr) (vs : List Value), DatasAre n₀ h es vs → es.length = vs.length ∧ ∀ (i : Nat) (e : Expr) (v : Value), es[i]? = some e → vs[i]? = some v → DataIs n₀ h e v
  | [], [], _ => ⟨rfl, fun i e v h => none_some h⟩
  | e :: es, v :: vs, hd =>
    have ⟨l, g⟩ := DatasAre.get es vs hd.2
    ⟨congrArg Nat.succ l, fun i e' v' h1 h2 => match i with
      | 0 => some_eq h1 ▸ some_eq h2 ▸ hd.1
      | i + 1 => g i e' v' h1 h2⟩
  | [], _ :: _, hd => hd.elim
  | _ :: _, [], hd => hd.elim

variable {pp : Program} {ww : World}
/-- a piece of data is made -/
noncomputable def DataGo (pp : Program) (ww : World) (A : Around) (E : Value → Shared → Prop) (env : Env) (ok : Expr → Bool) (n₀ : Nat) : Prop :=
  ∀ (e : Expr) (s : Shared) (Q : Value → Shared → Prop), ok e = true → n₀ ≤ s.heap.objs.size →
      (∀ v h' tk, DataIs n₀ h' e v → (∀ b o, s.heap.get? b = some o → h'.get? b = some o) → s.heap.objs.size ≤ h'.objs.size → Q v { s with heap := h', toks := tk }) → wpAny (model pp ww) A (eval e env) Q E s
theorem star1 {e : Expr} {es : List Expr} {env : Env} (h : ∀ p x, e ≠ .Starred p x) : starEach (e :: es) env = (false, eval e env) :: starEach es env := by
  cases e <;> first | rfl | exact absurd rfl (h _ _)
theorem datas_eval {n₀ : Nat} {env : Env} {pos : Pos} {ok : Expr → Bool} (hn : ∀ e, ok e = true → ∀ p x, e ≠ .Starred p x) (one : DataGo pp ww A E env ok n₀) :
    ∀ (es : List Expr) (s : Shared) (Q : List Value → Shared → Prop), es.all ok = true → n₀ ≤ s.heap.objs.size →
    (∀ vs h' tk, DatasAre n₀ h' es vs → (∀ b o, s.heap.get? b = some o → h'.get? b = some o) → s.heap.objs.size ≤ h'.objs.size → Q vs { s with heap := h', toks := tk }) → wpAny (model pp ww) A (spliced (backTo pos (starEach es env))) Q E s := by
  intro es
  induction es with
  | nil => exact fun s Q _ _ h => wpAny_items_nil (h [] s.heap s.toks trivial (fun _ _ e => e) (Nat.le_refl _))
  | cons e es ih =>
    intro s Q o hz h
    obtain ⟨o1, o2⟩ := and_t o
    exact wpAny_items_cons (one e s _ o1 hz fun v h₁ tk₁ D₁ k₁ z₁ => ih { s with heap := h₁, toks := tk₁ } _ o2 (Nat.le_trans hz z₁) fun vs h₂ tk₂ D₂ k₂ z₂ =>
      h (v :: vs) h₂ tk₂ ⟨D₁.keep fun b o _ e => k₂ b o e, D₂⟩ (fun b o e => k₂ b o (k₁ b o e)) (Nat.le_trans z₁ z₂)) (star1 (hn e o1))
theorem keys_all : ∀ {ks : List (Option Expr)} {is : List Int}, keysI ks = some is → ks.all (·.isSome) = true ∧ ks.length = is.length
  | [], is, h => by cases h; exact ⟨rfl, rfl⟩
  | k :: r, is, h => by
    obtain ⟨i, kk, p, l, rfl, el, rfl⟩ := keysI_cons h
    obtain ⟨a, b⟩ := keys_all el
    exact ⟨a, congrArg Nat.succ b⟩
theorem pairs_eval {n₀ : Nat} {env : Env} {pos : Pos} {ok : Expr → Bool} (one : DataGo pp ww A E env ok n₀) :
    ∀ (ks : List (Option Expr)) (vs : List Expr) (is : List Int) (s : Shared) (Q : List (Value × Value) → Shared → Prop), keysI ks = some is → is.length = vs.length → vs.all ok = true → n₀ ≤ s.heap.objs.size →
    (∀ ps kvs h' tk, Carries (intKind pp ww) ps kvs → kvs.map (·.1) = is → DatasAre n₀ h' vs (kvs.map (·.2)) → (∀ b o, s.heap.get? b = some o → h'.get? b = some o) → s.heap.objs.size ≤ h'.objs.size → Q ps { s with heap := h', toks := tk }) →
    wpAny (model pp ww) A (evalPairs (pairTrees ks vs env pos)) Q E s := by
  intro ks
  induction ks with
  | nil =>
    intro vs is s Q hk hl ho hz h
    cases hk
    cases vs with
    | nil => exact pairTrees_nil_walk (h [] [] s.heap s.toks trivial rfl trivial (fun _ _ e => e) (Nat.le_refl _))
    | cons _ _ => exact nomatch hl
  | cons k ks ih =>
    intro vs is s Q hk hl ho hz h
    obtain ⟨i, kk, p, l, rfl, el, rfl⟩ := keysI_cons hk
    cases vs with
    | nil => exact nomatch hl
    | cons v vs =>
      obtain ⟨ho1, ho2⟩ := and_t ho
      refine pairTrees_cons_walk (wpAny_eval_const rfl fun kv tk hkv => one v { s with toks := tk } _ ho1 hz fun vv h₁ tk₁ D₁ k₁ z₁ => ?_)
      obtain ⟨t, rfl⟩ : ∃ t, kv = .int i t := hkv
      exact ih vs l { s with heap := h₁, toks := tk₁ } _ el (Nat.succ.inj hl) ho2 (Nat.le_trans hz z₁) fun ps kvs h₂ tk₂ C₂ m₂ D₂ k₂ z₂ =>
        h _ ((i, vv) :: kvs) h₂ tk₂ ⟨intKind_is _ _ _ _, rfl, C₂⟩ (congrArg (i :: ·) m₂) ⟨D₁.keep fun b o _ e => k₂ b o e, D₂⟩ (fun b o e => k₂ b o (k₁ b o e)) (Nat.le_trans z₁ z₂)
theorem const_eval {env : Env} (n₀ : Nat) : DataGo pp ww A E env Expr.isPlainConst n₀ := fun e s Q ok _ h => by
  refine wpAny_eval_const ok fun v tk hv => h v s.heap tk ?_ (fun _ _ e => e) (Nat.le_refl _)
  cases e with
  | Constant c k p => exact .const hv
  | _ => exact ff ok
theorem dict_eval {env : Env} {n n₀ : Nat} {ks : List (Option Expr)} {vs : List Expr} {p : Pos} {Q : Value → Shared → Prop} (ih : ∀ n₀, DataGo pp ww A E env (okData n) n₀) (ok1 : vs.all (okData n) = true) (ok2 : okDict ks vs.length = true) (hz : n₀ ≤ s.heap.objs.size)
    (h : ∀ v h' tk, DataIs n₀ h' (.Dict ks vs p) v → (∀ b o, s.heap.get? b = some o → h'.get? b = some o) → s.heap.objs.size ≤ h'.objs.size → Q v { s with heap := h', toks := tk }) : wpAny (model pp ww) A (eval (.Dict ks vs p) env) Q E s := by
  obtain ⟨is, his, ok2⟩ := okDict_iff ok2
  obtain ⟨ok2, o4⟩ := and_t ok2
  obtain ⟨ok2, o3⟩ := and_t ok2
  obtain ⟨o1, o2⟩ := and_t ok2
  have hlen := Nat.eq_of_beq_eq_true o2
  obtain ⟨hall, hkl⟩ := keys_all his
  have hkv := hkl.trans hlen
  have hne : ks ≠ [] := fun q => by
    have := Nat.le_of_ble_eq_true o3
    rw [← hkv, q] at this
    exact absurd this (by decide)
  refine wpAny_Dict_walk (knd := intKind pp ww) hall hkv hne (by have := Nat.le_of_ble_eq_true o4; lia) ?_
  have hsz : (s.heap.push { cls := .type "dict", data := .dict #[] }).objs.size = s.heap.objs.size + 1 := Heap.size_push ..
  refine pairs_eval (n₀ := s.heap.objs.size + 1) (ok := okData n) (ih _) ks vs is { s with heap := s.heap.push { cls := .type "dict", data := .dict #[] } } _ his hlen ok1 (Nat.le_of_eq hsz.symm) fun ps kvs h' tk C m D k z => ⟨kvs, C, (Heap.DictOf.new s.heap).keep k, fun h'' hd hsb => ?_⟩
  have hnd : (kvs.map (·.1)).Nodup := by rw [m]; exact nodupI_spec o1
  rw [merged_nil_of_nodup _ hnd] at hd
  obtain ⟨o, ho, hio⟩ := Heap.dictOf_iff.mp hd
  have D' : DatasAre (s.heap.objs.size + 1) h'' vs (kvs.map (·.2)) := D.keep fun b o hb e => (hsb.2 b (Nat.ne_of_gt hb)).trans e
  have gl := DatasAre.get _ _ D'
  refine h _ h'' _ (.dict hz ho (dict_any hio) his m (by rw [gl.1, List.length_map]) fun i e kv h1 h2 => ?_) (fun b o e => ?_) ?_
  · exact (gl.2 i e kv.2 h1 (by rw [List.getElem?_map, h2]; rfl)).weaken (Nat.le_succ_of_le hz)
  · exact (hsb.2 b (Nat.ne_of_lt (Heap.lt_size e))).trans (k b o (Heap.get?_push_of_some _ e))
  · rw [hsb.1]
    exact Nat.le_trans (Nat.le_succ _) (Nat.le_trans (Nat.le_of_eq hsz.symm) z)
theorem okData_star {n : Nat} {e : Expr} (h : okData n e = true) (p : Expr) (x : Pos) : e ≠ .Starred p x := fun q => by
  rw [q] at h
  cases n <;> exact ff h
theorem data_eval {env : Env} : ∀ (n n₀ : Nat), DataGo pp ww A E env (okData n) n₀ := by
  intro n
  induction n with
  | zero => exact fun n₀ => const_eval n₀
  | succ n ih =>
    intro n₀ e s Q ok hz h
    cases e with
    | Dict ks vs p => exact dict_eval ih (and_t ok).1 (and_t ok).2 hz h
    | List es p =>
      obtain ⟨ok1, ok2⟩ := and_t ok
      refine wpAny_List (datas_eval (pos := p) (ok := okData n) (fun e he => okData_star he) (ih n₀) es s _ ok1 hz fun vs h' tk D k z => ⟨?_, ?_⟩)
      · rw [← (DatasAre.get _ _ D).1]
        exact Nat.le_trans (Nat.le_of_ble_eq_true ok2) (by unfold sizeLine; lia)
      · refine h _ _ tk ?_ (fun b o e => Heap.get?_push_of_some _ (k b o e)) (by rw [Heap.size_push]; exact Nat.le_succ_of_le z)
        have D' : DatasAre n₀ (h'.push { cls := .type "list", data := .seq vs.toArray }) es vs := D.keep fun b o _ e => Heap.get?_push_of_some _ e
        exact .list (Nat.le_trans hz z) (Heap.get?_push_size _ rfl) (DatasAre.get _ _ D').1 (DatasAre.get _ _ D').2
    | _ => exact const_eval n₀ _ s Q ok hz h
end
end Mine
set_option genSizeOf false
set_option genInjectivity false
set_option maxRecDepth 100000
namespace Mine
open PySem PySem.W PySem.Calls PyProof.Rows

/-! ## a thread that comes through -/
noncomputable def isDone : PySem.Step → Bool
  | .halt (.done _) _ => true
  | _ => false
theorem ite_done {c : Prop} [Decidable c] {a b : PySem.Step} (ha : isDone a = false) (hb : isDone b = false) : isDone (if c then a else b) = false := by
  by_cases q : c
  · rw [if_pos q]; exact ha
  · rw [if_neg q]; exact hb
theorem no_done {den : Code → Sem Fin} {p : Program} {w : World} {heap : Heap} {gens : Array GenState} {drawn : Drawn} {toks : Nat} {os : OsState} {cur : Sem Fin} {code : Code} {pos : Pos} {stack : List Frame} (h : ∀ a, cur ≠ .pure a) : isDone (step den p w ⟨heap, gens, drawn, toks, os⟩ ⟨cur, code, pos, stack⟩) = false := by
  cases cur with
  | pure a => exact absurd rfl (h a)
  | raise e =>
    clear h
    cases stack with
    | nil => exact ite_done rfl rfl
    | cons F r => cases F <;> rfl
  | finish e => exact ite_done rfl rfl
  | load a _ k =>
    clear h
    delta step
    dsimp only
    cases heap.get? a <;> rfl
  | update a _ f k => exact ite_done rfl rfl
  | choose src n k => exact ite_done rfl rfl
  | genState g k =>
    clear h
    delta step
    dsimp only
    cases gens[g]? <;> rfl
  | resume g r l k =>
    clear h
    delta step
    dsimp only
    cases gens[g]? with
    | none => rfl
    | some st => cases st with
      | fresh c => cases r with
        | send v => cases v <;> rfl
        | throw e => rfl
      | _ => rfl
  | yield v g0 l kk =>
    clear h
    delta step
    dsimp only
    cases splitAtGen stack <;> rfl
  | _ => rfl
theorem done_cur {den : Code → Sem Fin} {p : Program} {w : World} {s : Shared} {cur : Sem Fin} {code : Code} {pos : Pos} {stack : List Frame} (h : isDone (step den p w s ⟨cur, code, pos, stack⟩) = true) : through ⟨cur, code, pos, stack⟩ = true := by
  obtain ⟨heap, gens, drawn, toks, os⟩ := s
  by_cases q : ∃ a, cur = .pure a
  · obtain ⟨a, rfl⟩ := q
    cases a with
    | again c => exact ff h
    | done g =>
      cases stack with
      | nil => rfl
      | cons F r => cases F <;> exact ff h
  · exact ff ((no_done fun a e => q ⟨a, e⟩).symm.trans h)
theorem step_done {den : Code → Sem Fin} {p : Program} {w : World} {s s' : Shared} {t : Thread} {f : Flow} (h : step den p w s t = .halt (.done f) s') : through t = true := by
  cases t
  exact done_cur (by rw [h]; rfl)

theorem run_last {p : Program} {w : World} {f : Flow} {s' : Shared} : ∀ (n : Nat) (s : Shared) (t : Thread), runN (denote table) p w n s t = .halted (.done f) s' →
    (∀ k s₁ t₁, runN (denote table) p w k s t = .running s₁ t₁ → t₁.calm = true) → s.asleep → ∃ m t₁, schedN (denote table) p w m (.single s t) = .running (.single s' t₁) ∧ through t₁ = true
  | 0, _, _, h, _, _ => by cases h
  | n + 1, s, t, h, hc, hz => by
    have e := sstep_single (denote table) p w s t (hc 0 s t rfl) hz
    simp only [runN] at h
    cases hs : step (denote table) p w s t with
    | go s₂ t₂ =>
      rw [hs] at h
      rw [hs] at e
      obtain ⟨m, t₁, a, b⟩ := run_last n s₂ t₂ h (fun k s₁ t₁ q => hc (k + 1) s₁ t₁ (by simp only [runN, hs]; exact q)) (Shared.asleep_of_life (step_life _ p w s s₂ t t₂ hs) hz)
      rcases e with e | e
      · exact ⟨m + 1, t₁, by simp only [schedN, e, Step.lift]; exact a, b⟩
      · cases e
    | halt o₂ s₂ =>
      rw [hs] at h
      cases h
      have := step_halt_same (denote table) p w s s' t _ hs
      subst this
      exact ⟨0, t, rfl, step_done hs⟩

theorem top_through {prog : Program} {w : World} {t : Sem Fin} {s : Shared} {R : Shared → Prop} (hreg : s.asleep) (hg0 : s.gens = #[])
    (h : wpAny (model prog w) callerA t (fun fin s' => ∃ f, fin = .done f ∧ R s' ∧ s'.gens = #[]) (fun _ _ => False) s) :
    ∃ n t₁ s₁, schedN (denote table) prog w n (.single s ⟨t, .builtin "claim.caller" {}, default, []⟩) = .running (.single s₁ t₁) ∧ through t₁ = true ∧ s₁.heap.life = s.heap.life ∧ R s₁ ∧ s₁.gens = #[] := by
  have h' := wp_of_wpAny_done (R := fun r s' => ((∃ f, r = .ok f) ∧ R s' ∧ s'.gens = #[]) ∧ leftWithCleanup s'.gens = false) caller_in
    (wpAny_mono h (fun _ _ ⟨f, e, a, b⟩ => ⟨f, e, ⟨⟨f, rfl⟩, a, b⟩, by rw [b]; simp [leftWithCleanup]⟩) fun _ _ x => x.elim) default
  obtain ⟨n, r, s₁, hn, ⟨f, rfl⟩, hR, hg⟩ := (wp_iff_halts (M := model prog w) (R := fun r s' => (∃ f, r = .ok f) ∧ R s' ∧ s'.gens = #[]) ..).mp h'
  obtain ⟨s₂, hr, hf, hc⟩ := runNI_real _ _ _ hn (outcomeOf_ends _)
  obtain rfl : s₂ = s₁ := Shared.eq_of_forget_eq hf hg
  obtain ⟨m, t₁, a, b⟩ := run_last n s _ hr hc hreg
  exact ⟨m, t₁, s₂, a, b, runN_life _ _ _ hr, hR, hg⟩
end Mine
set_option genSizeOf false
set_option genInjectivity false
set_option maxRecDepth 100000
namespace Mine
open PySem PySem.W PySem.Calls PyProof.Rows

inductive MOK (h : Heap) (l : List (Str × Value)) : Stmt → Prop
  | def_ {name : Str} {args body scope pos a dv dV c' pm} : name ≠ ("__name__" : Str) → l.lookup name = some (.ref a) → FnAt 15 h a name name args body scope pm dv dV c' → MOK h l (.FunctionDef name args body [] none [] scope none name pos)
  | data {x : Str} {p e p2 v} : x ≠ ("__name__" : Str) → l.lookup x = some v → DataIs 15 h e v → MOK h l (.Assign [.Name x p] e p2)
  | name {p e p2} : MOK h l (.Assign [.Name "__name__" p] e p2)
theorem MOK.keep {h h' : Heap} {l more : List (Str × Value)} {st : Stmt} (S : MOK h l st) (k : ∀ b o, 15 ≤ b → h.get? b = some o → h'.get? b = some o)
    (hm : ∀ x : Str, x ≠ ("__name__" : Str) → (l.lookup x).isSome = true → more.lookup x = none) : MOK h' (more ++ l) st := by
  have lk : ∀ (x : Str) v, x ≠ ("__name__" : Str) → l.lookup x = some v → (more ++ l).lookup x = some v := fun x v hx e => by
    rw [List.lookup_append, hm x hx (by rw [e]; rfl)]; exact e
  cases S with
  | def_ n a f => exact .def_ n (lk _ _ n a) (f.keep k)
  | data n a d => exact .data n (lk _ _ n a) (d.keep k)
  | name => exact .name

noncomputable def okName (names : List (Str × NameKind)) (x : Str) : Bool := isLocal names x && !sEq x "__builtins__" && !sMem x laidNames
structure MStep where
  L : Nat
  x : Str
noncomputable def okMfd (names : List (Str × NameKind)) (L : Nat) (bound : List Str) (f : FD) : Option MStep :=
  if okDef f.args f.scope f.body && isLocal names f.name && !sMem f.name bound && Nat.ble L f.pos.line && okName names f.name && !sEq f.name "__name__" then some ⟨f.pos.line + 1, f.name⟩ else none
noncomputable def okMas (names : List (Str × NameKind)) (L : Nat) (bound : List Str) (x : Str) (e : Expr) : Option MStep :=
  if okData 6 e && isLocal names x && (!sMem x bound || sEq x "__name__") && okName names x then some ⟨L, x⟩ else none
noncomputable def okMod (names : List (Str × NameKind)) (L : Nat) (bound : List Str) (st : Stmt) : Option MStep := orB (fdP st) (okMfd names L bound) (optB (asP st) fun q => okMas names L bound q.1 q.2.2.1)
noncomputable def okMods (names : List (Str × NameKind)) (L : Nat) (bound : List Str) : List Stmt → Option (Nat × List Str)
  | [] => some (L, bound)
  | st :: r => optB (okMod names L bound st) fun S => okMods names S.L (S.x :: bound) r

theorem okName_ne {names : List (Str × NameKind)} {x : Str} (h : okName names x = true) : x ≠ ("__builtins__" : Str) := by
  unfold okName at h
  simp only [Bool.and_eq_true, Bool.not_eq_true'] at h
  exact fun e => by have h := h.1.2; rw [sEq_iff.mpr e] at h; cases h
theorem okName_bound {p : Program} {x : Str} (h : okName p.main.scope.names x = true) : p.boundNames.contains x = true ∧ laidNames.contains x = false ∧ x ≠ ("__builtins__" : Str) := by
  have h3 := okName_ne h
  unfold okName at h
  simp only [Bool.and_eq_true, Bool.not_eq_true'] at h
  refine ⟨?_, ?_, h3⟩
  · have hl := isLocal_spec h.1.1
    rw [List.contains_iff_mem]
    unfold Program.boundNames
    refine List.mem_map.mpr ⟨(x, .local), List.mem_filter.mpr ⟨?_, rfl⟩, rfl⟩
    revert hl
    generalize p.main.scope.names = N
    intro hl
    induction N with
    | nil => cases hl
    | cons y r ih =>
      obtain ⟨y1, y2⟩ := y
      rw [List.lookup_cons] at hl
      split at hl
      · rename_i q
        cases hl
        rw [beq_iff_eq.mp q]; exact .head _
      · exact .tail _ (ih hl)
  · have := sMem_false.mp h.2
    cases hq : laidNames.contains x with
    | false => rfl
    | true => exact absurd (List.contains_iff_mem.mp hq) this
theorem lookup_here {α : Type} {x : Str} {v : α} {l : List (Str × α)} : ((x, v) :: l).lookup x = some v := by rw [List.lookup_cons, beq_self_eq_true]
theorem sEq_false {a b : Str} (h : sEq a b = false) : a ≠ b := fun e => by rw [sEq_iff.mpr e] at h; cases h
theorem empty_append (x : Str) : Str.empty ++ x = x := by
  cases x with
  | mk a => show Str.mk (#[] ++ a) = _; simp

section
variable {pp : Program} {ww : World} {A : Around} {E : Value → Shared → Prop} {s : Shared}
theorem mod_def {p : Program} {F : Addr} {n L : Nat} {m₀ l ps} {name : Str} {args : Arguments} {body : List Stmt} {scope : Scope} {pos : Pos} {Q : Flow → Shared → Prop}
    (hk : p.main.scope.kind = .module) (ok : okDef args scope body = true) (hl : p.main.scope.names.lookup name = some .local) (hb : name ≠ ("__builtins__" : Str)) (S : MS n s.heap m₀ l ps) (T : TL L ps.toList) (hL : L ≤ pos.line)
    (h : ∀ h' ps' tk a dv dV c' pm, MS (n + defSize args body) h' m₀ ((name, .ref a) :: l) ps' → TL (pos.line + 1) ps'.toList → FnAt 15 h' a name name args body scope pm dv dV c' → a = n + (defSize args body - 1) → Keeps2 mainGlobals 12 s.heap h' → Q .next { s with heap := h', toks := tk }) :
    wpAny (model pp ww) A (exec (.FunctionDef name args body [] none [] scope none name pos) (topEnv p 13 F)) Q E s := by
  refine def_make (env := topEnv p 13 F) (c := 13) (Pl := 12) ok rfl rfl S.code (T.none hL) (by decide) S.g S.b fun c' dv dV h₁ tk hx hz Fn hok => ?_
  have hq : qualnameIn (topEnv p 13 F) name name = name := by
    unfold qualnameIn
    rw [show (topEnv p 13 F).kindOf name = some .local from hl]
    exact empty_append name
  rw [hq] at Fn
  have B1 : h₁.BuiltinsAt (fun x => match l.lookup x with | some v => some v | none => m₀ x) 12 := by
    obtain ⟨bm, o, a, b, c, d, e', f, g, r⟩ := S.b
    exact ⟨bm, o, a, b, c, d, hx _ _ d e', f, g, r⟩
  have S₁ : MS (n + defSize args body) h₁ m₀ l (ps ++ #[rawInt pos.line, rawInt pos.col, .ref c']) := ⟨S.g.extBut hx (by decide), hok, B1, by rw [hz, S.size], Nat.le_add_right_of_le S.le⟩
  refine wpAny_bindName (mod_store (s := { s with heap := h₁, toks := tk }) hk hl hb S₁ fun h₂ S₂ hs => ?_)
  have K : Keeps2 mainGlobals 12 s.heap h₂ := fun b o h1 h2 e => (hs.2 b h1).trans (hx b o h2 e)
  refine h h₂ _ _ _ dv dV c' _ S₂ ?_ ((Fn.weaken (by rw [S.size]; exact S.le)).keep fun b o hb e => (hs.2 b (Nat.ne_of_gt (Nat.lt_of_lt_of_le (by decide) hb))).trans e) (by rw [S.size]) K
  have : (ps ++ #[rawInt ↑pos.line, rawInt ↑pos.col, Value.ref c']).toList = ps.toList ++ [rawInt ↑pos.line, rawInt ↑pos.col, Value.ref c'] := by simp
  rw [this]
  exact T.snoc (by omega) (by omega)

inductive OkM (names : List (Str × NameKind)) (L : Nat) (bound : List Str) : Stmt → MStep → Prop
  | def_ {name : Str} {args : Arguments} {body : List Stmt} {scope : Scope} {pos : Pos} (q2 : okDef args scope body = true) (q3 : isLocal names name = true) (q4 : sMem name bound = false) (q5 : L ≤ pos.line) (q6 : okName names name = true) (q7 : sEq name "__name__" = false) :
      OkM names L bound (.FunctionDef name args body [] none [] scope none name pos) ⟨pos.line + 1, name⟩
  | asg {x : Str} {p₁ p₂ : Pos} {e : Expr} (q1 : okData 6 e = true) (q2 : isLocal names x = true) (q3 : sMem x bound = false ∨ sEq x "__name__" = true) (q4 : okName names x = true) : OkM names L bound (.Assign [.Name x p₁] e p₂) ⟨L, x⟩
theorem or_t {a b : Bool} (h : (a || b) = true) : a = true ∨ b = true := by cases a <;> cases b <;> first | exact .inl rfl | exact .inr rfl | cases h
theorem okMod_spec {names : List (Str × NameKind)} {L : Nat} {bound : List Str} {st : Stmt} {S : MStep} (h : okMod names L bound st = some S) : OkM names L bound st S := by
  rcases orB_iff h with ⟨f, hf, h⟩ | h
  · rw [fdP_spec hf]
    obtain ⟨q, e⟩ := if_some rfl h
    obtain ⟨q, q7⟩ := and_t q
    obtain ⟨q, q6⟩ := and_t q
    obtain ⟨q, q5⟩ := and_t q
    obtain ⟨q, q4⟩ := and_t q
    obtain ⟨q2, q3⟩ := and_t q
    exact some_eq e ▸ .def_ q2 q3 (not_t q4) (Nat.le_of_ble_eq_true q5) q6 (not_t q7)
  · obtain ⟨q, hq, h⟩ := optB_iff h
    rw [asP_spec hq]
    obtain ⟨q, e⟩ := if_some rfl h
    obtain ⟨q, q4⟩ := and_t q
    obtain ⟨q, q3⟩ := and_t q
    obtain ⟨q1, q2⟩ := and_t q
    exact some_eq e ▸ .asg q1 q2 ((or_t q3).imp not_t id) q4
structure ModR (names : List (Str × NameKind)) (m₀ : Str → Option Value) (n : Nat) (h : Heap) (l : List (Str × Value)) (st : Stmt) (S : MStep) (h₁ : Heap) (n₁ : Nat) (ps₁ : Array Value) (v : Value) : Prop where
  ms : MS n₁ h₁ m₀ ((S.x, v) :: l) ps₁
  le : n ≤ n₁
  tl : TL S.L ps₁.toList
  new : S.x ≠ ("__name__" : Str) → S.x ∉ l.map (·.1)
  ok : MOK h₁ ((S.x, v) :: l) st
  nm : okName names S.x = true
  keep : Keeps2 mainGlobals 12 h h₁
theorem mod_one {p : Program} {F : Addr} {m₀} (hk : p.main.scope.kind = .module) {st : Stmt} {R : MStep} {L n : Nat} {l : List (Str × Value)} {ps : Array Value} {Q : Flow → Shared → Prop} (sp : OkM p.main.scope.names L (l.map (·.1)) st R) (S : MS n s.heap m₀ l ps) (T : TL L ps.toList)
    (rest : ∀ n₁ h₁ ps₁ tk v, ModR p.main.scope.names m₀ n s.heap l st R h₁ n₁ ps₁ v → Q .next { s with heap := h₁, toks := tk }) : wpAny (model pp ww) A (exec st (topEnv p 13 F)) Q E s := by
  cases sp with
  | def_ q2 q3 q4 q5 q6 q7 =>
    exact mod_def hk q2 (isLocal_spec q3) (okName_ne q6) S T q5 fun h₁ ps₁ tk a dv dV c' pm S₁ T₁ Fn ea K =>
      rest _ h₁ ps₁ tk (.ref a) ⟨S₁, Nat.le_add_right _ _, T₁, fun _ => sMem_false.mp q4, .def_ (sEq_false q7) lookup_here Fn, q6, K⟩
  | @asg x p₁ p₂ e1 q1 q2 q3 q4 =>
    refine wpAny_Assign_Name (hs := by cases e1 <;> first | rfl | cases q1) (data_eval 6 15 e1 s _ q1 (by rw [S.size]; exact S.le) fun v h₁ tk D k z => ?_)
    have S₁ : MS h₁.objs.size h₁ m₀ l ps := ⟨S.g.keeps k, S.code.keeps k, S.b.keeps k, rfl, Nat.le_trans S.le (by rw [← S.size]; exact z)⟩
    refine mod_store (s := { s with heap := h₁, toks := tk }) hk (isLocal_spec q2) (okName_ne q4) S₁ fun h₂ S₂ hs => ?_
    have up : ∀ b o, 15 ≤ b → h₁.get? b = some o → h₂.get? b = some o := fun b o hb e => (hs.2 b (Nat.ne_of_gt (Nat.lt_of_lt_of_le (by decide) hb))).trans e
    refine rest _ h₂ ps (tk + 1) v ⟨S₂, by rw [← S.size]; exact z, T, fun hn => ?_, ?_, q4, fun b o h1 h2 e => (hs.2 b h1).trans (k b o e)⟩
    · exact q3.elim sMem_false.mp fun q3 => absurd (sEq_iff.mp q3) hn
    · cases hn : sEq x "__name__" with
      | true =>
        have := sEq_iff.mp hn
        subst this
        exact .name
      | false => exact .data (sEq_false hn) lookup_here (D.keep up)
theorem mod_body {p : Program} {F : Addr} {m₀} (hk : p.main.scope.kind = .module) {Lf : Nat} {fin : List Str} {tail : List Stmt} : ∀ (body : List Stmt) (L n : Nat) (l : List (Str × Value)) (ps : Array Value) (s : Shared) (Q : Flow → Shared → Prop),
    okMods p.main.scope.names L (l.map (·.1)) body = some (Lf, fin) → MS n s.heap m₀ l ps → TL L ps.toList →
    (∀ n' h' ps' tk more, MS n' h' m₀ (more ++ l) ps' → n ≤ n' → TL Lf ps'.toList → (∀ x : Str, x ≠ ("__name__" : Str) → (l.lookup x).isSome = true → more.lookup x = none) → (∀ st ∈ body, MOK h' (more ++ l) st) → (∀ x ∈ more.map (·.1), okName p.main.scope.names x = true) → Keeps2 mainGlobals 12 s.heap h' → wpAny (model pp ww) A (execs tail (topEnv p 13 F)) Q E { s with heap := h', toks := tk }) →
    wpAny (model pp ww) A (execs (body ++ tail) (topEnv p 13 F)) Q E s
  | [], L, n, l, ps, s, Q, ok, S, T, h => by
    cases ok
    exact h n s.heap ps s.toks [] S (Nat.le_refl _) T (fun _ _ _ => rfl) (fun _ hm => (nomatch hm)) (fun _ hm => (nomatch hm)) (Keeps2.refl _ _ _)
  | st :: r, L, n, l, ps, s, Q, ok, S, T, h => by
    obtain ⟨R, e, ok⟩ := optB_iff ok
    refine wpAny_execs_cons (mod_one hk (okMod_spec e) S T fun n₁ h₁ ps₁ tk v X => ?_)
    refine mod_body hk r R.L n₁ ((R.x, v) :: l) ps₁ { s with heap := h₁, toks := tk } Q ok X.ms X.tl fun n' h' ps' tk' more S' le' T' hm' O' ON' K' => ?_
    have e' : more ++ (R.x, v) :: l = (more ++ [(R.x, v)]) ++ l := (List.append_assoc more [(R.x, v)] l).symm
    rw [e'] at S' O'
    refine h n' h' ps' tk' (more ++ [(R.x, v)]) S' (Nat.le_trans X.le le') T' (fun y hy hs => ?_) (fun st' hm => ?_) (fun y hy => ?_) (X.keep.trans K')
    · have hyx : y ≠ R.x := fun q => by
        rw [q, lookup_none_of (X.new (q ▸ hy))] at hs; cases hs
      have e2 : (y == R.x) = false := beq_eq_false_iff_ne.mpr hyx
      rw [List.lookup_append, hm' y hy (by rw [List.lookup_cons, e2]; exact hs), List.lookup_cons, e2]
      rfl
    · refine (List.mem_cons.mp hm).elim (fun q => ?_) (O' st')
      rw [q, ← e']
      exact X.ok.keep (more := more) (fun b o hb e => MS.up K' b o hb e) hm'
    · rw [List.map_append, List.mem_append] at hy
      refine hy.elim (ON' y) fun hy => ?_
      rw [List.mem_singleton.mp hy]; exact X.nm
end
end Mine
set_option genSizeOf false
set_option genInjectivity false
set_option maxRecDepth 100000
namespace Mine
open PySem PySem.W PySem.Calls PyProof.Rows

theorem exec_class (name : Str) (body : List Stmt) (scope : Scope) (ts : Option Scope) (bind : Str) (statics : List Str) (pos : Pos) (env : Env) :
    exec (.ClassDef name [] [] body [] [] scope ts bind statics pos) env = (do
      let decos ← evalAll []
      standAt pos
      buildClassGuard env
      let c ← holding decos do
        let a ← evalArgs (.builtin "__build_class__") false [] []
        standAt pos
        holding (a.pos ++ a.kw.map (·.2)) (buildClass name (qualnameIn env name bind) a.pos a.kw body scope statics (firstLineOf [] pos) env pos none)
      let c ← decorate (decos.zip []).reverse c
      standAt pos
      bindName env bind c
      pure .next) := by rfl

section
variable {M : Model} {A : Around} {E : Value → Shared → Prop} {s : Shared}
theorem wpAny_class {name : Str} {body : List Stmt} {scope : Scope} {ts : Option Scope} {bind : Str} {statics : List Str} {pos : Pos} {env : Env} {mb} {Q : Flow → Shared → Prop}
    (hb : s.heap.Ns env.builtins mb) (hbc : mb "__build_class__" = some (.builtin "__build_class__"))
    (h : wpAny M A (buildClass name (qualnameIn env name bind) [] [] body scope statics pos.line env pos none) (fun c s' => wpAny M A (storeName env bind c) (fun _ s'' => Q .next s'') E s') E s) :
    wpAny M A (exec (.ClassDef name [] [] body [] [] scope ts bind statics pos) env) Q E s := by
  rw [exec_class]
  refine wpAny_bind (wpAny_evalAll_nil (wpAny_bind (wpAny_standAt (wpAny_bind ?_))))
  unfold buildClassGuard
  refine wpAny_bind (wpAny_nsGet hb ?_)
  rw [hbc]
  refine wpAny_pure (wpAny_bind (wpAny_holding (wpAny_bind ?_)))
  unfold evalArgs
  refine wpAny_bind (Calls.spliced_nil ?_)
  refine wpAny_bind (wpAny_pure ?_)
  refine wpAny_holding ?_
  refine wpI (by rfl) ?_
  refine wpAny_bind (wpAny_evalAll_nil (wpAny_bind (wpAny_pure (wpAny_pure ?_))))
  refine wpAny_bind (wpAny_standAt (wpAny_holding ?_))
  refine wpAny_mono h (fun c s' h' => ?_) fun _ _ e => e
  refine wpAny_bind (wpAny_pure (wpAny_bind (wpAny_standAt (wpAny_bind (wpAny_bindName ?_)))))
  exact wpAny_mono h' (fun _ _ q => wpAny_pure q) fun _ _ e => e
end
end Mine
set_option genSizeOf false
set_option genInjectivity false
set_option maxRecDepth 100000
namespace Mine
open PySem PySem.W PySem.Calls PyProof.Rows

noncomputable def topTree (p : Program) : Sem Fin := do
  let code ← moduleCode p.main
  let frame ← newBodyFrame code mainNs mainNs
  let _ ← run (.body (behindTheImports p) { scope := p.main.scope, locals := mainNs, globals := mainNs, cells := [], code, frame := some frame })
  ret .none
theorem topStub_eq (p : Program) : topStub p = ⟨topTree p, .builtin "claim.caller" {}, default, []⟩ := rfl
noncomputable def topA (p : Program) : Around := (callerA.mark none).deeper (topEnv p 13 14)
noncomputable def m0 (P : Params) : Str → Option Value := (boot_heap P).nsMap 3

/-- behind the class's statement -/
structure AtRest (P : Params) (wn xn cname : Str) (cbody : List Stmt) (L nf : Nat) (fin : List (Str × SV)) (h : Heap) (t : Tok) (l : List (Str × Value)) (n : Nat) (ps : Array Value) : Prop where
  ms : MS n h (m0 P) [(cname, .ref (nf + 1 + 1)), (("__name__" : Str), .str xn t), (wn, .ref 21)] ps
  tl : TL L ps.toList
  cls : ClassMade cname cname (nf + 1) l h
  sv : SVsAre (fin ++ statS nf) l
  ok : ∀ st ∈ cbody, StOK 29 h (.str xn t) (cname ++ ".") l st
  keep : ∀ b o, b < 11 → b ≠ 3 → (boot_heap P).get? b = some o → h.get? b = some o

theorem top_walk {p : Program} {w : World} {s : Shared} {wn : Str} {wa : Arguments} {wb : List Stmt} {wsc : Scope} {wpos np cp ap : Pos} {kk : Nat} {xn cname : Str} {cbody : List Stmt} {csc : Scope} {cst : List Str} {cpos : Pos} {rest : List Stmt}
    {names : List (Str × NameKind)} {nf : Nat} {fin : List (Str × SV)} {R : Shared → Prop} {ts : Option Scope}
    (hs : s.heap = boot_heap w.params)
    (hb : behindTheImports p = .FunctionDef wn wa wb [] none [] wsc none wn wpos :: .Assign [.Name "__name__" np] (.Constant (.str xn) kk cp) ap :: .ClassDef cname [] [] cbody [] [] csc ts cname cst cpos :: rest)
    (hann : hasAnns (behindTheImports p) = false) (hdoc : docOf (behindTheImports p) = none) (hk : p.main.scope.kind = .module)
    (okw : okDef wa wsc wb = true) (hsz : defSize wa wb = 7) (hwl : isLocal p.main.scope.names wn = true) (hwb : sEq wn "__builtins__" = false) (hwn : sEq wn "__name__" = false)
    (hnl : isLocal p.main.scope.names "__name__" = true) (hcl : isLocal p.main.scope.names cname = true) (hcb : sEq cname "__builtins__" = false) (hln : wpos.line + 1 ≤ cpos.line)
    (okc : (Expr.Constant (.str xn) kk cp).isPlainConst = true)
    (hnf : 29 ≤ nf) (K : ClsArgs csc cbody names) (hbody : okBody names 0 29 (headS xn cname cpos.line) cbody = some (nf, fin)) (hstat : ∀ x ∈ cst, x.length ≤ sizeLine) (hfin : sMem "__static_attributes__" (fin.map (·.1)) = false)
    (hty : ∀ l, SVsAre (fin ++ statS nf) l → TypeRun p w (nf + 1) (fin ++ statS nf) l cname (nf + 1 + 1) (ClassMade cname cname (nf + 1) l))
    (h : ∀ h' tk t l n ps, AtRest w.params wn xn cname cbody (cpos.line + 1) nf fin h' t l n ps → wpAny (model p w) (topA p) (execs rest (topEnv p 13 14)) (fun f s' => f = .next ∧ R s' ∧ s'.gens = #[]) (fun _ _ => False) { s with heap := h', toks := tk }) :
    wpAny (model p w) callerA (topTree p) (fun fin s' => ∃ f, fin = .done f ∧ R s' ∧ s'.gens = #[]) (fun _ _ => False) s := by
  unfold topTree moduleCode
  have z0 : s.heap.objs.size = 11 := by rw [hs]; rfl
  refine wpAny_bind (wpAny_bind (wpAny_fresh (newCodeE0 fun c P h1 tk1 ec k1 z1 eP hcode1 => ?_)))
  dsimp only at ec eP k1 z1
  have ec' : c = 13 := ec.trans (congrArg (· + 2) z0)
  have eP' : P = 12 := eP.trans (congrArg (· + 1) z0)
  have z1' : h1.objs.size = 14 := by rw [z1, z0]
  subst ec' eP'
  have kb : ∀ b o, (boot_heap w.params).get? b = some o → h1.get? b = some o := fun b o e => k1 b o (by rw [hs]; exact e)
  have g0 : (boot_heap w.params).Ns mainGlobals (m0 w.params) := .of_isNs (by kernel_rfl)
  have b0 : (boot_heap w.params).Ns builtinsNs ((boot_heap w.params).nsMap builtinsNs) := .of_isNs (by kernel_rfl)
  have st0 : (boot_heap w.params).get? cStatics = some ⟨.none, none, .dict #[] 0, #[]⟩ := by rfl
  have bm0 : (boot_heap w.params).get? 4 = some { cls := .type "module", dict := some 0 } := by rfl
  unfold newBodyFrame
  refine wpAny_bind (wpAny_bind (wpAny_nsGet (g0.keeps kb) (wpAny_alloc ?_)))
  dsimp only
  rw [z1']
  generalize hf2 : h1.push _ = h2
  have k2 : ∀ b o, h1.get? b = some o → h2.get? b = some o := fun b o e => by rw [← hf2]; exact Heap.get?_push_of_some _ e
  have z2 : h2.objs.size = 15 := by rw [← hf2, Heap.size_push, z1']
  have kb2 : ∀ b o, (boot_heap w.params).get? b = some o → h2.get? b = some o := fun b o e => k2 b o (kb b o e)
  have S2 : MS 15 h2 (m0 w.params) [] #[] := by
    refine ⟨g0.keeps kb2, hcode1.keeps k2, ⟨4, _, by kernel_rfl, by decide, by decide, by decide, kb2 _ _ bm0, rfl, rfl, rfl⟩, z2, by decide⟩
  refine wpAny_bind (wpAny_run (codeAny_body hann hdoc ?_))
  show wpAny (model p w) (topA p) (execs (behindTheImports p) (topEnv p 13 14)) _ _ _
  rw [hb]
  have done : ∀ f s', f = Flow.next ∧ R s' ∧ s'.gens = #[] → wpAny (model p w) callerA (ret .none) (fun fin s' => ∃ f, fin = .done f ∧ R s' ∧ s'.gens = #[]) (fun _ _ => False) s' :=
    fun f s' hx => wpAny_pure ⟨_, rfl, hx.2⟩
  refine wpAny_execs_cons ?_
  refine mod_def (s := { s with heap := h2, toks := tk1 }) hk okw (isLocal_spec hwl) (sEq_false hwb) S2 (L := 0) .nil (Nat.zero_le _) fun h3 ps3 tk3 a3 dv dV c' pm S3 T3 F3 ea K3 => ?_
  rw [hsz] at S3 ea
  have ea' : a3 = 21 := ea
  subst ea'
  dsimp only
  refine wpAny_execs_cons ?_
  refine wpAny_Assign_Name (wpAny_eval_const okc fun v tk4 hv => ?_)
  obtain ⟨t, rfl⟩ : ∃ t, v = .str xn t := hv
  refine mod_store (s := { s with heap := h3, toks := tk4 }) hk (isLocal_spec hnl) (sEq_false (by decide +kernel)) S3 fun h4 S4 s4 => ?_
  dsimp only
  refine wpAny_execs_cons ?_
  have K4 : Keeps2 mainGlobals 12 h2 h4 := fun b o h1 h2 e => (s4.2 b h1).trans (K3 b o h1 h2 e)
  have old4 : ∀ b o, b ≠ 3 → b ≠ 12 → (boot_heap w.params).get? b = some o → h4.get? b = some o := fun b o h1 h2 e => K4 b o h1 h2 (kb2 b o e)
  have hst4 := old4 cStatics _ (by decide) (by decide) st0
  refine wpAny_class (mb := (boot_heap w.params).nsMap builtinsNs) ?_ (by kernel_rfl) ?_
  · obtain ⟨o, es, ep, e, r⟩ := b0
    exact ⟨o, es, ep, old4 builtinsNs _ (by decide) (by decide) e, r⟩
  have hq : qualnameIn (topEnv p 13 14) cname cname = cname := by
    unfold qualnameIn
    rw [show (topEnv p 13 14).kindOf cname = some .local from isLocal_spec hcl]
    exact empty_append cname
  rw [hq]
  have T3' : TL (wpos.line + 1) ps3.toList := T3
  refine build_class (s := { s with heap := h4, toks := tk4 + 1 }) (env := topEnv p 13 14) (c := 13) (Pl := 12) (tn := t) (P := fun l h => ClassMade cname cname (nf + 1) l h) (C := nf + 1 + 1) K S4.size rfl ?_ ⟨_, .of_isNs ?_, ?_⟩ rfl rfl S4.code (T3'.none hln) S4.g ⟨by decide, by decide⟩ S4.b ?_ hst4 hbody hstat hfin hty ?_
  · show callerA.depth + 1 + 1 < recursionLimit
    decide +kernel
  · show (h4.isNs cStatics) = true
    unfold Heap.isNs; rw [hst4]; simp
  · show (h4.nsMap cStatics) "sys.recursionlimit" = none
    unfold Heap.nsMap; rw [hst4]; simp [nsFind, findBy]
  · rfl
  intro h5 l tk5 P5 SA5 OK5 k5 ⟨c5, hcode5⟩ z5
  have lt22 : ∀ b o, h4.get? b = some o → b < 22 := fun b o e => by have := Heap.lt_size e; rw [S4.size] at this; exact this
  have kx5 : ∀ b o, b ≠ 12 → h4.get? b = some o → h5.get? b = some o := fun b o hb e => k5 b o (lt22 b o e) hb e
  have S5 : MS h5.objs.size h5 (m0 w.params) [(("__name__" : Str), .str xn t), (wn, .ref 21)] (ps3 ++ #[rawInt cpos.line, rawInt cpos.col, .ref c5]) := by
    refine ⟨?_, hcode5, ?_, rfl, ?_⟩
    · obtain ⟨o, es, ep, e, r⟩ := S4.g
      exact ⟨o, es, ep, kx5 _ _ (by decide) e, r⟩
    · obtain ⟨bm, o, a, b, c, d, e', f, g, r⟩ := S4.b
      exact ⟨bm, o, a, b, c, d, kx5 _ _ d e', f, g, r⟩
    · lia
  refine mod_store (s := { s with heap := h5, toks := tk5 }) hk (isLocal_spec hcl) (sEq_false hcb) S5 fun h6 S6 s6 => ?_
  have up : ∀ b o, b ≠ 3 → h5.get? b = some o → h6.get? b = some o := fun b o hb e => (s6.2 b hb).trans e
  have hR := h h6 (tk5 + 1) t l _ _ ⟨S6, ?_, ?_, SA5, ?_, ?_⟩
  · refine wpAny_mono hR (fun f s' hx => done f s' hx) fun _ _ hx => hx.elim
  · have : (ps3 ++ #[rawInt ↑cpos.line, rawInt ↑cpos.col, Value.ref c5]).toList = ps3.toList ++ [rawInt ↑cpos.line, rawInt ↑cpos.col, Value.ref c5] := by simp
    rw [this]
    exact T3'.snoc (by lia) (by lia)
  · obtain ⟨⟨t', q, e⟩, d⟩ := P5
    refine ⟨⟨t', q, up _ _ ?_ e⟩, d.at fun o e => up _ _ ?_ e⟩
    · exact fun q => absurd (show nf + 1 + 1 = 3 from q) (by lia)
    · exact fun q => absurd (show nf + 1 = 3 from q) (by lia)
  · intro st hst
    have := (OK5 st hst).keep (more := []) (h' := h6) (fun b o hb e => up b o (Nat.ne_of_gt (Nat.lt_of_lt_of_le (by decide) hb)) e)
    simpa using this
  · intro b o hb h3' e
    exact up b o h3' (kx5 b o (Nat.ne_of_lt (Nat.lt_trans hb (by decide))) (old4 b o h3' (Nat.ne_of_lt (Nat.lt_trans hb (by decide))) e))
end Mine
set_option genSizeOf false
set_option genInjectivity false
set_option maxRecDepth 100000
namespace Mine
open PySem PySem.W PySem.Calls PyProof.Rows

/-- what stands behind the whole top -/
structure TopEnd (p : Program) (P : Params) (h : Heap) (l : List (Str × Value)) : Prop where
  g : h.Ns mainGlobals (fun x => match l.lookup x with | some v => some v | none => m0 P x)
  keep : ∀ b o, b < 11 → b ≠ 3 → (boot_heap P).get? b = some o → h.get? b = some o
  bound : ∀ x ∈ l.map (·.1), p.boundNames.contains x = true ∧ laidNames.contains x = false ∧ x ≠ ("__builtins__" : Str)

theorem boot_g (P : Params) : (boot_heap P).isNs mainGlobals = true := by kernel_rfl
theorem boot_b (P : Params) : (boot_heap P).isNs builtinsNs = true := by kernel_rfl
theorem boot_view (P : Params) : (boot_heap P).bltView = bltViewBooted := by kernel_rfl
theorem boot_keys (P : Params) : (boot_heap P).nsKeys mainGlobals = startupNames := by kernel_rfl
theorem boot_st (P : Params) : (boot_heap P).get? cStatics = some ⟨.none, none, .dict #[] 0, #[]⟩ := by rfl
theorem boot_bm (P : Params) : (boot_heap P).get? 4 = some { cls := .type "module", dict := some 0 } := by rfl
theorem m0_bm (P : Params) : m0 P "__builtins__" = some (.ref 4) := by kernel_rfl

section
variable {p : Program} {w : World} {h : Heap} {l : List (Str × Value)}
theorem TopEnd.global (T : TopEnd p w.params h l) (x : Str) : globalOf h x = match l.lookup x with | some v => some v | none => m0 w.params x := by
  obtain ⟨o, es, ep, ho, hd, _, hf⟩ := T.g
  unfold globalOf
  rw [show h.get? mainNs = some o from ho]
  dsimp only
  rw [hd]
  exact hf x
theorem TopEnd.st (T : TopEnd p w.params h l) (key : Str) : staticOf h key = none := by
  unfold staticOf
  rw [T.keep cStatics _ (by decide) (by decide) (boot_st _)]
  simp
theorem TopEnd.out (T : TopEnd p w.params h l) {x : Str} (hx : p.boundNames.contains x = false ∨ laidNames.contains x = true ∨ x = ("__builtins__" : Str)) : l.lookup x = none := by
  refine lookup_none_of fun hm => ?_
  obtain ⟨a, b, c⟩ := T.bound x hm
  rcases hx with q | q | q
  · rw [a] at q; cases q
  · rw [b] at q; cases q
  · exact c q

theorem boot_globalOf (P : Params) (x : Str) : globalOf (boot_heap P) x = m0 P x := Pin.globalOf_eq (boot_g P) x

theorem topRan_of {s₀ : Shared} {X : Heap → List (Str × Value) → Prop} (h0 : s₀.heap = boot_heap w.params) (hg0 : s₀.gens = #[]) (hz : s₀.asleep)
    (hw : wpAny (model p w) callerA (topTree p) (fun fin s' => ∃ f, fin = .done f ∧ (∃ l, TopEnd p w.params s'.heap l ∧ X s'.heap l ∧ s'.os = s₀.os) ∧ s'.gens = #[]) (fun _ _ => False) s₀) :
    ∃ s₁ l, TopRan p w s₀ s₁ ∧ TopEnd p w.params s₁.heap l ∧ X s₁.heap l ∧ s₁.gens = #[] ∧ s₁.asleep := by
  obtain ⟨n, t₁, s₁, hn, ht, hl, ⟨l, T, hX, hos⟩, hg⟩ := top_through (R := fun s' => ∃ l, TopEnd p w.params s'.heap l ∧ X s'.heap l ∧ s'.os = s₀.os) hz hg0 hw
  refine ⟨s₁, l, ⟨⟨n, t₁, hn, ht⟩, hl, Shared.rest_eq hos, fun b o hb hno => ?_, fun key v hk => ?_, fun key => .inl ?_, Pin.keysAreStrs_of_ns T.g, ?_, ?_, ?_, fun x v hx => ?_, fun x hx => ?_⟩, T, hX, hg, Shared.asleep_of_life hl hz⟩
  · rw [h0] at hb
    exact T.keep b o (Heap.lt_size hb) (fun q => hno (.inl q)) hb
  · rw [T.st] at hk; cases hk
  · rw [T.st, h0]
    unfold staticOf
    rw [boot_st]
    simp
  · intro x hx
    have hb : builtinOf s₁.heap x = builtinOf (boot_heap w.params) x := by
      obtain ⟨o, es, ep, ho, _⟩ := Heap.Ns.of_isNs (boot_b w.params)
      unfold builtinOf
      rw [T.keep _ _ (by decide) (by decide) ho, ho]
    rw [hb]
    exact (Pin.builtinOf_eq (boot_b _) x).trans (Heap.of_bltView (boot_b _) (boot_view _) x hx)
  · refine ⟨4, _, ?_, T.keep 4 _ (by decide) (by decide) (boot_bm _), rfl, rfl⟩
    rw [T.global, T.out (.inr (.inr rfl))]
    exact m0_bm _
  · intro g hgm
    rw [hg] at hgm
    exact absurd hgm (Array.not_mem_empty g)
  · rw [T.global] at hx
    cases hq : l.lookup x with
    | some v' =>
      refine .inr ?_
      have hm : x ∈ l.map (·.1) := by
        apply Classical.byContradiction
        intro hn
        rw [lookup_none_of hn] at hq; cases hq
      exact List.contains_iff_mem.mp (T.bound x hm).1
    | none =>
      rw [hq] at hx
      refine .inl ?_
      apply Classical.byContradiction
      intro hn
      have : m0 w.params x = none := Heap.nsMap_none (a := mainGlobals) (by rw [boot_keys]; exact hn)
      have hx : m0 w.params x = some v := hx
      rw [this] at hx; cases hx
  · rw [T.global, T.out (.inr (.inl (List.contains_iff_mem.mpr hx))), h0]
    exact (boot_globalOf _ _).symm
end
end Mine
set_option genSizeOf false
set_option genInjectivity false
set_option maxRecDepth 100000
namespace Mine
open PySem PySem.W PySem.Calls PyProof.Rows

noncomputable def isI (v : Value) (j : Int) : Prop := match v with
  | .int i _ => i = j
  | _ => False
noncomputable def IntsAre : List Value → List Int → Prop
  | [], [] => True
  | v :: vs, j :: xs => isI v j ∧ IntsAre vs xs
  | _, _ => False

theorem int_of {cl : Str → Option Addr} {h : Heap} {d : WData} {v : Value} {as : List Addr} (hi : WShape.has [] d .int = true) (r : ReadsW [] cl h v d as) : ∃ i, isI v i := by
  cases r with
  | int i t => exact ⟨i, rfl⟩
  | _ => exact ff hi
theorem ints_of {cl : Str → Option Addr} {h : Heap} : ∀ (ds : List WData) (vs : List Value) (as : List Addr), WShape.hasItems [] ds .int = true → ReadsAllW [] cl h vs ds as → ∃ xs, IntsAre vs xs
  | [], vs, as, _, r => by cases r; exact ⟨[], trivial⟩
  | d :: ds, vs, as, hi, r => by
    cases r with
    | cons r1 r2 =>
      rw [WShape.hasItems] at hi
      obtain ⟨h1, h2⟩ := and_t hi
      obtain ⟨i, hx⟩ := int_of h1 r1
      obtain ⟨xs, hxs⟩ := ints_of ds _ _ h2 r2
      exact ⟨i :: xs, hx, hxs⟩

noncomputable def CallOK (p : Program) (name : Str) (X : World → Heap → List (Str × Value) → Prop) : Prop :=
  ∀ (w : World) (h₁ : Heap) (l : List (Str × Value)) (s : Shared) (a : Addr) (o : Obj) (items : Array Value) (n : Nat) (xs : List Int), TopEnd p w.params h₁ l → X w h₁ l → (∀ b o, h₁.get? b = some o → s.heap.get? b = some o) → s.gens = #[] →
    s.heap.get? a = some o → o.cls = .type "list" → o.data = .seq items n → IntsAre items.toList xs → xs.length ≤ 63 →
    ∃ f, l.lookup name = some f ∧ wpAny (model p w) callerA (PySem.call f [.ref a]) (fun v s' => v = .bool true ∧ OldK s.heap s'.heap ∧ s'.os = s.os ∧ AllBare s'.gens) (fun _ _ => False) s

theorem ints_length : ∀ {vs : List Value} {xs : List Int}, IntsAre vs xs → xs.length = vs.length
  | [], [], _ => rfl
  | [], _ :: _, h => h.elim
  | _ :: _, [], h => h.elim
  | _ :: vs, _ :: xs, h => congrArg Nat.succ (ints_length (vs := vs) (xs := xs) h.2)
theorem reads_length {cl : Str → Option Addr} {h : Heap} : ∀ {ds : List WData} {vs : List Value} {as : List Addr}, ReadsAllW [] cl h vs ds as → ds.length = vs.length
  | [], _, _, r => by cases r; rfl
  | d :: ds, _, _, r => by
    cases r with
    | cons r1 r2 => rw [List.length_cons, List.length_cons, reads_length r2]
theorem most_of {l : OpenLaw} (h : l.most = some 63) {ds : List WData} (q : l.row.toRowW.pre.holds l.row.toRowW.records { args := [.list ds] } = true) : ds.length ≤ 63 := by
  have q : WTm.holds [] l.pre { args := [.list ds] } = true := q
  unfold WTm.holds OpenLaw.pre at q
  rw [h] at q
  apply Classical.byContradiction
  intro hn
  have hlt : (63 : Int) < ds.length := by omega
  have hl : less? (.int 63) (.int ds.length) = some true := by simp [less?, Num.less?, hlt]
  have e1 : WTm.value [] (.lt (.lit (.int 63)) (.len (.arg 0))) { args := [.list ds] } = some (.bool true) := by
    simp [WTm.value, hl]
  have e2 : WTm.value [] (.not (.lt (.lit (.int 63)) (.len (.arg 0)))) { args := [.list ds] } = some (.bool false) := by
    rw [WTm.value, e1]; rfl
  rw [WTm.value] at q
  have e2' : WTm.value [] (match some 63 with
            | some n => ((WTm.lit (WData.int (n : Nat))).lt (WTm.arg 0).len).not
            | none => WTm.lit (WData.bool true)) { args := [.list ds] } = some (.bool false) := e2
  rw [e2'] at q
  cases q
inductive IsIntList (h : Heap) (v : Value) (d : WData) : Prop
  | mk (a : Addr) (o : Obj) (items : Array Value) (n : Nat) (xs : List Int) (ds : List WData) (e : v = .ref a) (ho : h.get? a = some o) (hc : o.cls = .type "list") (hd : o.data = .seq items n) (hx : IntsAre items.toList xs) (e2 : d = .list ds) (hl : ds.length = items.toList.length) : IsIntList h v d
theorem list_of {cl : Str → Option Addr} {h : Heap} {d : WData} {v : Value} {as : List Addr} (hi : WShape.has [] d (.list .int) = true) (r : ReadsW [] cl h v d as) : IsIntList h v d := by
  cases r with
  | list ho hc hd hr =>
    obtain ⟨xs, hx⟩ := ints_of _ _ _ ((Bool.or_false _).symm.trans hi) hr
    exact ⟨_, _, _, _, xs, _, rfl, ho, hc, hd, hx, rfl, reads_length hr⟩
  | _ => exact ff hi
theorem one_list {cl : Str → Option Addr} {h : Heap} {vs : List Value} {args : List WData} {as : List Addr} (hha : WShape.hasAll [] args [.list .int] = true) (hrd : ReadsAllW [] cl h vs args as) (hm : ∀ {ds : List WData}, args = [.list ds] → ds.length ≤ 63) :
    ∃ a o items n xs, vs = [.ref a] ∧ h.get? a = some o ∧ o.cls = .type "list" ∧ o.data = .seq items n ∧ IntsAre items.toList xs ∧ xs.length ≤ 63 := by
  obtain ⟨d, r, rfl, e2, e3⟩ := hasAllW_cons hha
  obtain rfl := hasAllW_nil e3
  cases hrd with
  | cons r1 r2 =>
    cases r2
    obtain ⟨a, o, items, n, xs, ds, rfl, ho, hc, hd, hx, rfl, hl⟩ := list_of e2 r1
    exact ⟨a, o, items, n, xs, rfl, ho, hc, hd, hx, by rw [ints_length hx, ← hl]; exact hm rfl⟩
theorem law_holds {l : OpenLaw} {X : World → Heap → List (Str × Value) → Prop} (hmost : l.most = some 63) (k1 : l.row.wellSaid = true) (hwr : l.writes = false) (hop : opensWell l.prog = true) (hb : l.prog.bare) (hw : l.row.toRowW.promised)
    (hopen : opening l.prog = plainProg l.prog.main.scope.names) (hfence : ∀ s, fenceModules? l.prog s = some s)
    (walk : ∀ (w : World) (s : Shared), s.heap = boot_heap w.params → s.gens = #[] → wpAny (model l.prog w) callerA (topTree l.prog) (fun fin s' => ∃ f, fin = .done f ∧ (∃ m, TopEnd l.prog w.params s'.heap m ∧ X w s'.heap m ∧ s'.os = s.os) ∧ s'.gens = #[]) (fun _ _ => False) s)
    (pin : ∀ w h m, TopEnd l.prog w.params h m → X w h m → isTheDefsW l.prog h l.name)
    (hcall : CallOK l.prog l.name X) : l.row.Holds := by
  refine ⟨k1, hw, ⟨hb, hop, rfl⟩, hw.witness, fun w => ?_⟩
  have h := boot_open (p := l.prog) (N := 600) hopen rfl hfence w
  rw [← table_eq_tree] at h
  obtain ⟨s₀, h1, e⟩ := Option.map_eq_some_iff.mp h
  obtain ⟨sA, h4, h5⟩ := Option.bind_eq_some_iff.mp h1
  have A := AfterImport.of_importEnds h4
  refine ⟨⟨sA, A⟩, fun s' hs' => ?_⟩
  obtain rfl : s' = sA := AfterImport.unique hs' A
  have z : s₀.asleep := Shared.asleep_of_life (fence_lifeW h5) A.life
  have eh : s₀.heap = boot_heap w.params := congrArg (fun x => x.1) e
  have eg : s₀.gens = #[] := congrArg (fun x => x.2.1) e
  obtain ⟨s₁, m, hT, T, hX, hg, hz⟩ := topRan_of (p := l.prog) (w := w) (X := X w) eh eg z (walk w s₀ eh eg)
  refine ⟨s₀, h5, eg, s₁, hT, fun n hn => ?_, fun x hx => (nomatch hx), fun x hx => (nomatch hx), ?_⟩
  · have : n = l.name := List.mem_singleton.mp hn
    subst this
    exact pin w s₁.heap m T hX
  · refine ClaimW.callFrom_of_specG (c := l.row.toRowW.claim) (tree := fun vs => do match ← nsGet mainNs l.name with
      | some f => do ret (← PySem.call f vs)
      | none => unsupported "claim.caller:no-such-global") hz hg fun args hpre hlay ord hord => ?_
    have hha : WShape.hasAll [] args [.list .int] = true := (pre_splitW (r := l.row.toRowW) hpre).1
    obtain ⟨⟨vs, s₂⟩, hlaid⟩ := Option.isSome_iff_exists.mp (layAllW_isSome (cl := classAt s₁.heap) (P := w.params) (ord := ord) (R := []) (by intro c hc; exact (nomatch hc)) args [.list .int] s₁ hha)
    have keeps := layAllW_keeps _ _ _ hlaid
    have hal := layAllW_rest _ _ _ hlaid
    obtain ⟨as, hrd, hin, hold⟩ := reads_layAllW hord _ _ _ hlaid hlay s₂.heap (fun _ _ e => e)
    have L : Laid [] w s₁ s₂ args vs as := ⟨⟨ord, hord, hlaid⟩, hrd, hin, hold, keeps, hal.1.trans hg, hal.2.2.1⟩
    obtain ⟨a, o, items, n, xs, rfl, ho, hc, hd, hx, hlen⟩ := one_list hha hrd fun e => most_of hmost (e ▸ (pre_splitW (r := l.row.toRowW) hpre).2)
    obtain ⟨f, hf, hcl⟩ := hcall w s₁.heap m s₂ a o items n xs T hX keeps L.gens ho hc hd hx hlen
    refine ⟨_, s₂, hlaid, wpAny_bind (wpAny_nsGet (T.g.keeps keeps) ?_)⟩
    rw [hf]
    refine wpAny_bind (wpAny_mono hcl (fun v s' ⟨hv, hK, hos, hgn⟩ => wpAny_pure ⟨_, rfl, ?_⟩) fun _ _ q => q.elim)
    subst hv
    have g : GoodWG l.row.toRowW.claim (classAt s₁.heap) (ExcName.means s₁.heap) args s₂ (.ok (.ret (.bool true))) s' := by
      refine ⟨.inl ⟨.bool true, .bool true, [], rfl, fun _ => rfl, .bool true, ?_, fun _ => ⟨List.nodup_nil, fun a ha => (nomatch ha)⟩⟩, hK, hos, hgn⟩
      show (WShape.has [] (.bool true) .bool && WTm.holds [] (.eq .res (.lit (.bool true))) { args := args, res := some (.bool true), after := args }) = true
      kernel_rfl
    have zz := g.laid (c := l.row.toRowW.claim) rfl rfl (ident_freeW (r := l.row.toRowW) rfl rfl rfl) L
    exact ⟨zz.1, zz.2.1, zz.2.2, fun q => absurd (show l.writes = true from q) (by rw [hwr]; exact Bool.false_ne_true)⟩
theorem law_holds' {l : OpenLaw} (hmost : l.most = some 63) (p : Program) (nm : Str) (hp : l.prog = p) (hn : l.name = nm) {X : World → Heap → List (Str × Value) → Prop} (k1 : l.row.wellSaid = true) (hwr : l.writes = false) (hop : opensWell p = true) (hb : p.bare) (hw : l.row.toRowW.promised)
    (hopen : opening p = plainProg p.main.scope.names) (hfence : ∀ s, fenceModules? p s = some s)
    (walk : ∀ (w : World) (s : Shared), s.heap = boot_heap w.params → s.gens = #[] → wpAny (model p w) callerA (topTree p) (fun fin s' => ∃ f, fin = .done f ∧ (∃ m, TopEnd p w.params s'.heap m ∧ X w s'.heap m ∧ s'.os = s.os) ∧ s'.gens = #[]) (fun _ _ => False) s)
    (pin : ∀ w h m, TopEnd p w.params h m → X w h m → isTheDefsW p h nm)
    (hcall : CallOK p nm X) : l.row.Holds := by
  subst hp hn
  exact law_holds hmost k1 hwr hop hb hw hopen hfence walk pin hcall
end Mine
set_option genSizeOf false
set_option genInjectivity false
set_option maxRecDepth 100000
namespace Mine
open PySem PySem.W PySem.Calls PyProof.Rows

structure Shape where
  wn : Str
  wa : Arguments
  wb : List Stmt
  wsc : Scope
  wpos : Pos
  np : Pos
  xn : Str
  kk : Nat
  cp : Pos
  ap : Pos
  cname : Str
  cbody : List Stmt
  csc : Scope
  ts : Option Scope
  cst : List Str
  cpos : Pos
  rest : List Stmt
noncomputable def Shape.stmts (S : Shape) : List Stmt :=
  .FunctionDef S.wn S.wa S.wb [] none [] S.wsc none S.wn S.wpos :: .Assign [.Name "__name__" S.np] (.Constant (.str S.xn) S.kk S.cp) S.ap :: .ClassDef S.cname [] [] S.cbody [] [] S.csc S.ts S.cname S.cst S.cpos :: S.rest
structure ClsP where
  name : Str
  body : List Stmt
  scope : Scope
  ts : Option Scope
  st : List Str
  pos : Pos
noncomputable def clsP : Stmt → Option ClsP
  | .ClassDef name _ _ body _ _ scope ts _ st pos => some ⟨name, body, scope, ts, st, pos⟩
  | _ => none
noncomputable def strK : Const → Option Str
  | .str s => some s
  | _ => none
noncomputable def shapeOf : List Stmt → Option Shape
  | a :: b :: c :: rest => optB (fdP a) fun f => optB (asP b) fun q => optB (conP q.2.2.1) fun k => optB (strK k.1) fun xn => optB (clsP c) fun d =>
    some ⟨f.name, f.args, f.body, f.scope, f.pos, q.2.1, xn, k.2.1, k.2.2, q.2.2.2, d.name, d.body, d.scope, d.ts, d.st, d.pos, rest⟩
  | _ => none
noncomputable def Program.shape (p : Program) (h : (shapeOf p.main.body).isSome = true) : Shape := (shapeOf p.main.body).get h

noncomputable def isClassKind : ScopeKind → Bool
  | .class => true
  | _ => false
noncomputable def noCellK : NameKind → Bool
  | .free => false
  | .cell => false
  | _ => true
noncomputable def noCells : List (Str × NameKind) → Bool
  | [] => true
  | p :: r => noCellK p.2 && noCells r
noncomputable def ownNames : List Str := ["__name__", "__module__", "__qualname__", "__firstlineno__", "__static_attributes__", "__class__", "__classdict__"]
noncomputable def okClsArgs (S : Shape) : Bool := isClassKind S.csc.kind && noCells S.csc.names && ownNames.all (fun x => (sLook x S.csc.names).isNone) && !hasAnns S.cbody && (docOf S.cbody).isNone
theorem noCellK_iff {k : NameKind} (h : noCellK k = true) : k ≠ .free ∧ k ≠ .cell := by
  cases k with
  | free => exact ff h
  | cell => exact ff h
  | _ => exact ⟨nofun, nofun⟩
theorem noCells_spec : ∀ {l : List (Str × NameKind)}, noCells l = true → ∀ x ∈ l, x.2 ≠ .free ∧ x.2 ≠ .cell
  | [], _, _, hx => nomatch hx
  | _ :: r, h, x, hx => (List.mem_cons.mp hx).elim (fun e => e ▸ noCellK_iff (and_t h).1) (noCells_spec (l := r) (and_t h).2 x)
theorem isClassKind_eq {k : ScopeKind} (h : isClassKind k = true) : k = .class := by cases k <;> first | rfl | exact ff h
theorem okClsArgs_spec {S : Shape} (h : okClsArgs S = true) : ClsArgs S.csc S.cbody S.csc.names := by
  obtain ⟨h, h5⟩ := and_t h
  obtain ⟨h, h4⟩ := and_t h
  obtain ⟨h, h3⟩ := and_t h
  obtain ⟨h1, h2⟩ := and_t h
  exact ⟨isClassKind_eq h1, rfl, noCells_spec h2, fun x hx => (sLook_eq ..).symm.trans (Option.isNone_iff_eq_none.mp (List.all_eq_true.mp h3 x hx)), not_t h4, none_of h5⟩

structure TopOut where
  nf : Nat
  fin : List (Str × SV)
noncomputable def isModKind : ScopeKind → Bool
  | .module => true
  | _ => false
noncomputable def okTop (p : Program) (S : Shape) (nf : Nat) : Bool :=
  !hasAnns p.main.body && (docOf p.main.body).isNone && isModKind p.main.scope.kind && okDef S.wa S.wsc S.wb && Nat.beq (defSize S.wa S.wb) 7 && okName p.main.scope.names S.wn && !sEq S.wn "__name__" &&
  okName p.main.scope.names "__name__" && okName p.main.scope.names S.cname && Nat.ble (S.wpos.line + 1) S.cpos.line && (Expr.Constant (.str S.xn) S.kk S.cp).isPlainConst && Nat.ble 29 nf && okClsArgs S &&
  S.cst.all (fun x => Nat.ble x.length 100000)
noncomputable def finOf (S : Shape) : Option (Nat × List (Str × SV)) := okBody S.csc.names 0 29 (headS S.xn S.cname S.cpos.line) S.cbody

theorem opt_pair {α β : Type} {o : Option (α × β)} {a : α} (i : o.isSome = true) (h : o.map (·.1) = some a) : o = some (a, (o.get i).2) := by
  cases o with
  | none => cases i
  | some x => cases x; cases h; rfl
theorem opt_some {α β : Type} {o : Option α} {f : α → β} {b : β} (h : o.map f = some b) : o.isSome = true := by
  cases o with
  | none => cases h
  | some x => rfl
theorem opt_snd {α β γ : Type} {o : Option α} {f : α → β} {g : α → γ} {b : β} {c : γ} (h : o.map (fun x => (f x, g x)) = some (b, c)) : o.map f = some b ∧ ∀ i, g (o.get i) = c := by
  cases o with
  | none => cases h
  | some x => cases h; exact ⟨rfl, fun _ => rfl⟩
theorem top_walk' {p : Program} {w : World} {s : Shared} {S : Shape} {nf : Nat} {fin : List (Str × SV)} {R : Shared → Prop}
    (hs : s.heap = boot_heap w.params) (hd : behindTheImports p = p.main.body) (hb : p.main.body = S.stmts) (ok : okTop p S nf = true) (hfin : finOf S = some (nf, fin)) (hst : sMem "__static_attributes__" (fin.map (·.1)) = false)
    (hrun : ∀ (dat : Addr → Data) (ep : Nat) (hs : Nat → Int) (ts us : Nat → Nat) (tk t : Nat),
      (rn (denote treeTable) ⟨p, w.params⟩ (nf + 1) 3000 Value ⟨TOf dat ep hs ts us (fin ++ statS nf), nf + 1, tk⟩ (call (.type "type") [.str S.cname t, .ref 22, .ref 24] [])).map (viewT (nf + 1)) =
        some (some (.ref (nf + 1 + 1)), some (((entsOf hs ts us 0 (fin ++ statS nf)).map pairOf).filter (fun p => !(match p.1 with | some x => sEq x "__qualname__" | none => false)) ++ upP (extraP (nf + 1))), some (clsObj S.cname S.cname (nf + 1) t (us 1))))
    (h : ∀ h' tk t l n ps, AtRest w.params S.wn S.xn S.cname S.cbody (S.cpos.line + 1) nf fin h' t l n ps → wpAny (model p w) (topA p) (execs S.rest (topEnv p 13 14)) (fun f s' => f = .next ∧ R s' ∧ s'.gens = #[]) (fun _ _ => False) { s with heap := h', toks := tk }) :
    wpAny (model p w) callerA (topTree p) (fun fin s' => ∃ f, fin = .done f ∧ R s' ∧ s'.gens = #[]) (fun _ _ => False) s := by
  unfold okTop at ok
  simp only [Bool.and_eq_true, Bool.not_eq_true', Option.isNone_iff_eq_none, List.all_eq_true] at ok
  obtain ⟨⟨⟨⟨⟨⟨⟨⟨⟨⟨⟨⟨⟨o1, o2⟩, o3⟩, o4⟩, o5⟩, o6⟩, o7⟩, o8⟩, o9⟩, o10⟩, o11⟩, o12⟩, o13⟩, o14⟩ := ok
  have loc : ∀ {x : Str}, okName p.main.scope.names x = true → isLocal p.main.scope.names x = true := fun h => by
    unfold okName at h; simp only [Bool.and_eq_true] at h; exact h.1.1
  have nb : ∀ {x : Str}, okName p.main.scope.names x = true → sEq x "__builtins__" = false := fun h => by
    unfold okName at h; simp only [Bool.and_eq_true, Bool.not_eq_true'] at h; exact h.1.2
  have hsh := hb
  refine top_walk hs (hd.trans hsh) (by rw [hd]; exact o1) (by rw [hd]; exact o2) ?_ o4 (Nat.eq_of_beq_eq_true o5) (loc o6) (nb o6) o7 (loc o8) (loc o9) (nb o9) (Nat.le_of_ble_eq_true o10) o11 (Nat.le_of_ble_eq_true o12) (okClsArgs_spec o13) hfin
    (fun x hx => Nat.le_trans (Nat.le_of_ble_eq_true (o14 x hx)) (by unfold sizeLine; lia)) hst (typeRun_of (by have := Nat.le_of_ble_eq_true o12; lia) hrun) h
  cases hk : p.main.scope.kind <;> rw [hk] at o3 <;> first | rfl | cases o3

/-- the facts behind the top -/
structure TopX (S : Shape) (nf : Nat) (fin : List (Str × SV)) (P : Params) (h : Heap) (m : List (Str × Value)) : Prop where
  cls : ∃ t l, ClassMade S.cname S.cname (nf + 1) l h ∧ SVsAre (fin ++ statS nf) l ∧ ∀ st ∈ S.cbody, StOK 29 h (.str S.xn t) (S.cname ++ ".") l st
  look : m.lookup S.cname = some (.ref (nf + 1 + 1))

theorem AtRest.after {P : Params} {wn xn cname : Str} {cbody : List Stmt} {L nf : Nat} {fin : List (Str × SV)} {h h' : Heap} {t : Tok} {l : List (Str × Value)} {n : Nat} {ps : Array Value} (hnf : 29 ≤ nf) (R : AtRest P wn xn cname cbody L nf fin h t l n ps) (K : Keeps2 mainGlobals 12 h h') :
    (ClassMade cname cname (nf + 1) l h' ∧ SVsAre (fin ++ statS nf) l ∧ ∀ st ∈ cbody, StOK 29 h' (.str xn t) (cname ++ ".") l st) ∧ (∀ b o, b < 11 → b ≠ 3 → (boot_heap P).get? b = some o → h'.get? b = some o) := by
  have up : ∀ b o, 15 ≤ b → h.get? b = some o → h'.get? b = some o := fun b o hb e => MS.up K b o hb e
  refine ⟨⟨?_, R.sv, fun st hst => ?_⟩, fun b o hb h3 e => K b o h3 (Nat.ne_of_lt (Nat.lt_trans hb (by decide))) (R.keep b o hb h3 e)⟩
  · obtain ⟨⟨t', q, e⟩, d⟩ := R.cls
    exact ⟨⟨t', q, up _ _ (show (15 : Nat) ≤ nf + 1 + 1 by lia) e⟩, d.at fun o e => up _ _ (show (15 : Nat) ≤ nf + 1 by lia) e⟩
  · have := (R.ok st hst).keep (more := []) (h' := h') (fun b o hb e => up b o (Nat.le_trans (by decide) hb) e)
    simpa using this

theorem walk_of {p : Program} {w : World} {s : Shared} {S : Shape} {nf : Nat} {fin : List (Str × SV)} {Lf : Nat} {fn : List Str}
    (hs : s.heap = boot_heap w.params) (hg : s.gens = #[]) (hd : behindTheImports p = p.main.body) (hb : p.main.body = S.stmts) (ok : okTop p S nf = true) (hfin : finOf S = some (nf, fin)) (hst : sMem "__static_attributes__" (fin.map (·.1)) = false)
    (hrun : ∀ (dat : Addr → Data) (ep : Nat) (hs : Nat → Int) (ts us : Nat → Nat) (tk t : Nat),
      (rn (denote treeTable) ⟨p, w.params⟩ (nf + 1) 3000 Value ⟨TOf dat ep hs ts us (fin ++ statS nf), nf + 1, tk⟩ (call (.type "type") [.str S.cname t, .ref 22, .ref 24] [])).map (viewT (nf + 1)) =
        some (some (.ref (nf + 1 + 1)), some (((entsOf hs ts us 0 (fin ++ statS nf)).map pairOf).filter (fun p => !(match p.1 with | some x => sEq x "__qualname__" | none => false)) ++ upP (extraP (nf + 1))), some (clsObj S.cname S.cname (nf + 1) t (us 1))))
    (hrest : okMods p.main.scope.names (S.cpos.line + 1) [S.cname, "__name__", S.wn] S.rest = some (Lf, fn)) (hcn : sEq S.cname "__name__" = false) :
    wpAny (model p w) callerA (topTree p) (fun fin' s' => ∃ f, fin' = .done f ∧ (∃ m, TopEnd p w.params s'.heap m ∧ (TopX S nf fin w.params s'.heap m ∧ ∀ st ∈ S.rest, MOK s'.heap m st) ∧ s'.os = s.os) ∧ s'.gens = #[]) (fun _ _ => False) s := by
  have ok' := ok
  unfold okTop at ok
  simp only [Bool.and_eq_true, Bool.not_eq_true', Option.isNone_iff_eq_none, List.all_eq_true] at ok
  obtain ⟨⟨⟨⟨⟨⟨⟨⟨⟨⟨⟨⟨⟨o1, o2⟩, o3⟩, o4⟩, o5⟩, o6⟩, o7⟩, o8⟩, o9⟩, o10⟩, o11⟩, o12⟩, o13⟩, o14⟩ := ok
  have hk : p.main.scope.kind = .module := by cases hk : p.main.scope.kind <;> rw [hk] at o3 <;> first | rfl | cases o3
  refine top_walk' (R := fun s' => ∃ m, TopEnd p w.params s'.heap m ∧ (TopX S nf fin w.params s'.heap m ∧ ∀ st ∈ S.rest, MOK s'.heap m st) ∧ s'.os = s.os) hs hd hb ok' hfin hst hrun fun h' tk t l n ps AR => ?_
  rw [← List.append_nil S.rest]
  refine mod_body hk S.rest _ _ _ _ _ _ (by exact hrest) AR.ms AR.tl fun n' h₂ ps' tk' more S₂ le T₂ hm O₂ ON₂ K₂ => wpAny_execs_nil ⟨rfl, ⟨_, ⟨S₂.g, ?_, ?_⟩, ⟨⟨?_, ?_⟩, by rw [List.append_nil]; exact O₂⟩, rfl⟩, hg⟩
  · exact (AR.after (Nat.le_of_ble_eq_true o12) K₂).2
  · intro x hx
    rw [List.map_append, List.mem_append] at hx
    rcases hx with hx | hx
    · exact okName_bound (ON₂ x hx)
    · have : x = S.cname ∨ x = ("__name__" : Str) ∨ x = S.wn := by simpa using hx
      rcases this with rfl | rfl | rfl
      · exact okName_bound o9
      · exact okName_bound o8
      · exact okName_bound o6
  · exact ⟨t, l, (AR.after (Nat.le_of_ble_eq_true o12) K₂).1⟩
  · rw [List.lookup_append, hm S.cname (sEq_false hcn) (by rw [List.lookup_cons]; simp)]
    rw [List.lookup_cons]; simp
end Mine
set_option genSizeOf false
set_option genInjectivity false
set_option maxRecDepth 100000
namespace Mine
open PySem PySem.W PySem.Calls PyProof.Rows TablesWhole

/-! ## the symbol tables, by pieces -/
theorem wSs_holds_append {top : Scope} {cx : TablesWhole.Ctx} {sc : Scope} : ∀ (a b : List Stmt), wSs holds top cx sc (a ++ b) = (wSs holds top cx sc a && wSs holds top cx sc b)
  | [], b => by
    rw [List.nil_append]
    show _ = (true && _)
    rw [Bool.true_and]
  | s :: r, b => by
    show (wS holds top cx sc s && wSs holds top cx sc (r ++ b)) = ((wS holds top cx sc s && wSs holds top cx sc r) && wSs holds top cx sc b)
    rw [wSs_holds_append r b]
    exact (Bool.and_assoc ..).symm
theorem wSs_gather_append {top : Scope} {cx : TablesWhole.Ctx} {sc : Scope} : ∀ (a b : List Stmt), wSs gather top cx sc (a ++ b) = wSs gather top cx sc a ++ wSs gather top cx sc b
  | [], b => by
    rw [List.nil_append]
    rfl
  | s :: r, b => by
    show wS gather top cx sc s ++ wSs gather top cx sc (r ++ b) = (wS gather top cx sc s ++ wSs gather top cx sc r) ++ wSs gather top cx sc b
    rw [wSs_gather_append r b]
    exact (List.append_assoc ..).symm
theorem holds_chunk {top : Scope} {cx : TablesWhole.Ctx} {sc : Scope} {l : List Stmt} (k : Nat) (h1 : wSs holds top cx sc (l.take k) = true) (h2 : wSs holds top cx sc (l.drop k) = true) : wSs holds top cx sc l = true := by
  rw [← List.take_append_drop k l, wSs_holds_append, h1, h2]; rfl
theorem gather_chunk {top : Scope} {cx : TablesWhole.Ctx} {sc : Scope} {l : List Stmt} (k : Nat) (h1 : wSs gather top cx sc (l.take k) = []) (h2 : wSs gather top cx sc (l.drop k) = []) : wSs gather top cx sc l = [] := by
  rw [← List.take_append_drop k l, wSs_gather_append, h1, h2]; rfl

noncomputable def topCx (m : Module) : TablesWhole.Ctx := ⟨m.scope, [], [], [], none⟩
noncomputable def clsCx (m : Module) (S : Shape) : TablesWhole.Ctx := ⟨S.csc, declSs false S.cbody, declSs true S.cbody, [], none⟩
noncomputable def clsHead (A : Alg α) (m : Module) (S : Shape) : α := wClassHead A (topCx m) m.scope [] [] [] [] S.csc S.ts S.cname S.cpos (declSs true S.cbody)

theorem tables_of {p : Program} {S : Shape} (hb : p.main.body = S.stmts) (hm : p.modules = []) (hp : p.parses = []) (hh : p.harvested = [])
    (g1 : wSs gather p.main.scope (topCx p.main) p.main.scope (S.stmts.take 2) = []) (g2 : clsHead gather p.main S = [])
    (g3 : wSs gather p.main.scope (clsCx p.main S) S.csc S.cbody = []) (g4 : wSs gather p.main.scope (topCx p.main) p.main.scope S.rest = [])
    (h0 : (holds.enter p.main.scope && holds.check "no name twice in a table, but a class's lawful pair" p.main.scope ("(the table)" : Str) (noTwice p.main.scope)) = true)
    (h1 : wSs holds p.main.scope (topCx p.main) p.main.scope (S.stmts.take 2) = true) (h2 : clsHead holds p.main S = true)
    (h3 : wSs holds p.main.scope (clsCx p.main S) S.csc S.cbody = true) (h4 : wSs holds p.main.scope (topCx p.main) p.main.scope S.rest = true) : p.tablesWhole = true := by
  have hs := hb
  have told : wSs gather p.main.scope (topCx p.main) p.main.scope p.main.body = [] := by
    rw [hs]
    refine gather_chunk 2 g1 ?_
    show wSs gather _ _ _ (.ClassDef S.cname [] [] S.cbody [] [] S.csc S.ts S.cname S.cst S.cpos :: S.rest) = []
    show wS gather _ _ _ _ ++ wSs gather _ _ _ S.rest = []
    rw [g4]
    have : wS gather p.main.scope (topCx p.main) p.main.scope (.ClassDef S.cname [] [] S.cbody [] [] S.csc S.ts S.cname S.cst S.cpos) = clsHead gather p.main S ++ wSs gather p.main.scope (clsCx p.main S) S.csc S.cbody := by
      rfl
    rw [this, g2, g3]; rfl
  have body : wSs holds p.main.scope (topCx p.main) p.main.scope p.main.body = true := by
    rw [hs]
    refine holds_chunk 2 h1 ?_
    show wSs holds _ _ _ (.ClassDef S.cname [] [] S.cbody [] [] S.csc S.ts S.cname S.cst S.cpos :: S.rest) = true
    show (wS holds _ _ _ _ && wSs holds _ _ _ S.rest) = true
    rw [h4]
    have : wS holds p.main.scope (topCx p.main) p.main.scope (.ClassDef S.cname [] [] S.cbody [] [] S.csc S.ts S.cname S.cst S.cpos) = (clsHead holds p.main S && wSs holds p.main.scope (clsCx p.main S) S.csc S.cbody) := by
      rfl
    rw [this, h2, h3]; rfl
  unfold Program.tablesWhole wProgram wModule
  rw [hm, hp, hh]
  have told' : wSs gather p.main.scope ⟨p.main.scope, [], [], [], none⟩ p.main.scope p.main.body = [] := told
  have body' : wSs holds p.main.scope ⟨p.main.scope, [], [], [], none⟩ p.main.scope p.main.body = true := body
  simp only [told', Alg.all, List.foldr_cons, List.foldr_nil, List.map_nil, body']
  simpa [holds] using h0
end Mine
set_option genSizeOf false
set_option genInjectivity false
set_option maxRecDepth 100000
namespace Mine
open PySem PySem.W PySem.Calls PyProof.Rows

/-! ## a def found by its name -/
structure DefP where
  args : Arguments
  body : List Stmt
  scope : Scope
  pos : Pos
noncomputable def DefP.stmt (nm : Str) (d : DefP) : Stmt := .FunctionDef nm d.args d.body [] none [] d.scope none nm d.pos
noncomputable def isDef (nm : Str) (st : Stmt) : Option DefP := optB (fdP st) fun f => noB (!sEq f.name nm) (some ⟨f.args, f.body, f.scope, f.pos⟩)
theorem isDef_spec {nm : Str} {st : Stmt} {d : DefP} (h : isDef nm st = some d) : st = d.stmt nm := by
  obtain ⟨f, e, h⟩ := optB_iff h
  obtain ⟨q, h⟩ := noB_iff h
  have q : sEq f.name nm = true := by
    cases w : sEq f.name nm with
    | true => rfl
    | false => rw [w] at q; exact ff q.symm
  rw [fdP_spec e, ← some_eq h, FD.st, sEq_iff.mp q]
  rfl
noncomputable def defIn (nm : Str) : List Stmt → Option DefP
  | [] => none
  | st :: r => orB (isDef nm st) some (defIn nm r)
theorem defIn_mem {nm : Str} {d : DefP} : ∀ {l : List Stmt}, defIn nm l = some d → d.stmt nm ∈ l
  | [], h => none_some h
  | st :: r, h => by
    rcases orB_iff (show orB (isDef nm st) some (defIn nm r) = some d from h) with ⟨d', e, h⟩ | h
    · rw [← some_eq h, isDef_spec e]; exact .head _
    · exact .tail _ (defIn_mem h)

theorem pin_of {p : Program} {P : Params} {h : Heap} {m : List (Str × Value)} {nm : Str} {d : DefP} (T : TopEnd p P h m) (M : MOK h m (d.stmt nm)) (hd : p.theDef nm = some (d.args, d.body, d.scope)) (h0 : d.args.defaults = []) (hk : d.args.kwonlyargs = []) (hkd : d.args.kw_defaults = []) :
    isTheDefsW p h nm := by
  have go : ∀ st, MOK h m st → st = d.stmt nm → isTheDefsW p h nm := by
    intro st M e
    cases M with
    | def_ hn hl F =>
      cases e
      rename_i a dv dV c' pm
      refine ⟨_, _, _, d.args, d.body, d.scope, ?_, F.fn, rfl, hd, rfl, rfl, rfl, rfl, rfl, rfl, rfl, rfl, ?_⟩
      · obtain ⟨o, es, ep, ho, hdt, _, hf⟩ := T.g
        unfold globalOf
        rw [show h.get? mainNs = some o from ho]
        dsimp only
        rw [hdt]
        have : nsFind es nm = _ := hf nm
        dsimp only at this
        rw [hl] at this
        exact this
      · have hdv : dv = [] := by
          have := F.dvs
          rw [h0] at this
          cases dv with
          | nil => rfl
          | cons _ _ => exact this.elim
        refine ⟨.inl ⟨h0, ?_⟩, [], by rw [hk, hkd]; rfl, .inl ⟨rfl, rfl⟩⟩
        rcases F.dfl with ⟨_, x⟩ | ⟨_, x, _, _, _⟩
        · exact x
        · exact absurd hdv x
    | data _ _ _ => cases e
    | name => cases e
  exact go _ M rfl
end Mine
set_option genSizeOf false
set_option genInjectivity false
set_option maxRecDepth 100000
namespace Mine
open PySem PySem.W PySem.Calls PyProof.Rows
set_option maxHeartbeats 0
noncomputable abbrev P3 : Program := PySem.Challenge.pw_im0096_03
theorem s3_some : (shapeOf P3.main.body).isSome = true := by kernel_rfl
noncomputable def S3 : Shape := (shapeOf P3.main.body).get s3_some
theorem s3 : P3.main.body = S3.stmts := by kernel_rfl
theorem f3_map : (finOf S3).map (fun x => (x.1, sMem "__static_attributes__" (x.2.map (·.1)))) = some (1426, false) := by kernel_rfl
theorem f3_some : (finOf S3).isSome = true := opt_some f3_map
noncomputable def F3 : Nat × List (Str × SV) := (finOf S3).get f3_some
theorem f3 : finOf S3 = some (1426, F3.2) := opt_pair f3_some (opt_snd f3_map).1
theorem st3 : sMem "__static_attributes__" (F3.2.map (·.1)) = false := (opt_snd f3_map).2 f3_some
theorem ok3 : okTop P3 S3 1426 = true := by kernel_rfl
theorem run3 (S : Setting) (dat : Addr → Data) (ep : Nat) (hs : Nat → Int) (ts us : Nat → Nat) (tk t : Nat) :
      (rn (denote treeTable) S (1426 + 1) 3000 Value ⟨TOf dat ep hs ts us (F3.2 ++ statS 1426), 1426 + 1, tk⟩ (call (.type "type") [.str S3.cname t, .ref 22, .ref 24] [])).map (viewT (1426 + 1)) =
        some (some (.ref (1426 + 1 + 1)), some (((entsOf hs ts us 0 (F3.2 ++ statS 1426)).map pairOf).filter (fun p => !(match p.1 with | some x => sEq x "__qualname__" | none => false)) ++ upP (extraP (1426 + 1))), some (clsObj S3.cname S3.cname (1426 + 1) t (us 1))) := by kernel_rfl
theorem m3_some : (okMods P3.main.scope.names (S3.cpos.line + 1) [S3.cname, "__name__", S3.wn] S3.rest).isSome = true := by kernel_rfl
noncomputable def X3 (w : World) (h : Heap) (m : List (Str × Value)) : Prop := TopX S3 1426 F3.2 w.params h m ∧ ∀ st ∈ S3.rest, MOK h m st
theorem walk3 (w : World) (s : Shared) (hs : s.heap = boot_heap w.params) (hg : s.gens = #[]) :
    wpAny (model P3 w) callerA (topTree P3) (fun fin' s' => ∃ f, fin' = .done f ∧ (∃ m, TopEnd P3 w.params s'.heap m ∧ X3 w s'.heap m ∧ s'.os = s.os) ∧ s'.gens = #[]) (fun _ _ => False) s := by
  obtain ⟨⟨Lf, fn⟩, hm⟩ := Option.isSome_iff_exists.mp m3_some
  exact walk_of hs hg (by kernel_rfl) s3 ok3 f3 st3 (run3 ⟨P3, w.params⟩) hm (by kernel_rfl)
theorem op3 : opening P3 = plainProg P3.main.scope.names := by kernel_rfl
theorem fe3 (s : Shared) : fenceModules? P3 s = some s := by kernel_rfl
theorem ow3 : opensWell P3 = true := by decide +kernel
theorem g3_3_0 : TablesWhole.wSs TablesWhole.gather P3.main.scope (clsCx P3.main S3) S3.csc (S3.cbody.take 40) = [] := by kernel_rfl
theorem g3_3_1 : TablesWhole.wSs TablesWhole.gather P3.main.scope (clsCx P3.main S3) S3.csc ((S3.cbody.drop 40).take 40) = [] := by kernel_rfl
theorem g3_3_2 : TablesWhole.wSs TablesWhole.gather P3.main.scope (clsCx P3.main S3) S3.csc (((S3.cbody.drop 40).drop 40).take 40) = [] := by kernel_rfl
theorem g3_3_3 : TablesWhole.wSs TablesWhole.gather P3.main.scope (clsCx P3.main S3) S3.csc ((((S3.cbody.drop 40).drop 40).drop 40).take 40) = [] := by kernel_rfl
theorem g3_3_4 : TablesWhole.wSs TablesWhole.gather P3.main.scope (clsCx P3.main S3) S3.csc (((((S3.cbody.drop 40).drop 40).drop 40).drop 40).take 40) = [] := by kernel_rfl
theorem g3_3_5 : TablesWhole.wSs TablesWhole.gather P3.main.scope (clsCx P3.main S3) S3.csc (((((S3.cbody.drop 40).drop 40).drop 40).drop 40).drop 40) = [] := by kernel_rfl
theorem g3_3 : TablesWhole.wSs TablesWhole.gather P3.main.scope (clsCx P3.main S3) S3.csc S3.cbody = [] := gather_chunk 40 g3_3_0 (gather_chunk 40 g3_3_1 (gather_chunk 40 g3_3_2 (gather_chunk 40 g3_3_3 (gather_chunk 40 g3_3_4 (g3_3_5)))))
theorem h3_3_0 : TablesWhole.wSs TablesWhole.holds P3.main.scope (clsCx P3.main S3) S3.csc (S3.cbody.take 40) = true := by kernel_rfl
theorem h3_3_1 : TablesWhole.wSs TablesWhole.holds P3.main.scope (clsCx P3.main S3) S3.csc ((S3.cbody.drop 40).take 40) = true := by kernel_rfl
theorem h3_3_2 : TablesWhole.wSs TablesWhole.holds P3.main.scope (clsCx P3.main S3) S3.csc (((S3.cbody.drop 40).drop 40).take 40) = true := by kernel_rfl
theorem h3_3_3 : TablesWhole.wSs TablesWhole.holds P3.main.scope (clsCx P3.main S3) S3.csc ((((S3.cbody.drop 40).drop 40).drop 40).take 40) = true := by kernel_rfl
theorem h3_3_4 : TablesWhole.wSs TablesWhole.holds P3.main.scope (clsCx P3.main S3) S3.csc (((((S3.cbody.drop 40).drop 40).drop 40).drop 40).take 40) = true := by kernel_rfl
theorem h3_3_5 : TablesWhole.wSs TablesWhole.holds P3.main.scope (clsCx P3.main S3) S3.csc (((((S3.cbody.drop 40).drop 40).drop 40).drop 40).drop 40) = true := by kernel_rfl
theorem h3_3 : TablesWhole.wSs TablesWhole.holds P3.main.scope (clsCx P3.main S3) S3.csc S3.cbody = true := holds_chunk 40 h3_3_0 (holds_chunk 40 h3_3_1 (holds_chunk 40 h3_3_2 (holds_chunk 40 h3_3_3 (holds_chunk 40 h3_3_4 (h3_3_5)))))
theorem tab3 : P3.tablesWhole = true := tables_of s3 (by kernel_rfl) (by kernel_rfl) (by kernel_rfl) (by kernel_rfl) (by kernel_rfl) g3_3 (by kernel_rfl) (by kernel_rfl) (by kernel_rfl) (by kernel_rfl) h3_3 (by kernel_rfl)
theorem bare3 : P3.bare := ⟨by kernel_rfl, by kernel_rfl, by kernel_rfl, by kernel_rfl, by kernel_rfl, tab3⟩

noncomputable def nm3 : Str := Str.ofString "law"
theorem prog3 : PySem.Challenge.rw_im0096_03.prog = P3 := by kernel_rfl
theorem name3 : PySem.Challenge.rw_im0096_03.name = nm3 := by kernel_rfl
theorem wr3 : PySem.Challenge.rw_im0096_03.writes = false := by kernel_rfl
theorem prom3 : PySem.Challenge.rw_im0096_03.row.toRowW.promised := by
  refine ⟨[.list [.int 3, .int 1]], ?_, ?_⟩ <;> decide +kernel
theorem head3 (k1 : PySem.Challenge.rw_im0096_03.row.wellSaid = true) (pin : ∀ w h m, TopEnd P3 w.params h m → X3 w h m → isTheDefsW P3 h nm3) (call : CallOK P3 nm3 X3) : PySem.Challenge.rw_im0096_03.row.Holds :=
  law_holds' (by kernel_rfl) P3 nm3 prog3 name3 k1 wr3 ow3 bare3 prom3 op3 fe3 walk3 pin call
end Mine
set_option genSizeOf false
set_option genInjectivity false
set_option maxRecDepth 100000
namespace Mine
open PySem PySem.W PySem.Calls PyProof.Rows

/-! ## what the texts compute, told over plain values -/
inductive Bi where
  | len | sum | range | enum | max | min
  deriving Inhabited, DecidableEq
noncomputable def Bi.id : Bi → String
  | .len => "len" | .sum => "sum" | .range => "range" | .enum => "enumerate" | .max => "max" | .min => "min"
inductive D where
  | none | bool (b : Bool) | int (i : Int) | str (s : Str)
  | tup (xs : List D) | list (xs : List D) | ints (xs : List Int)
  | fn (m : Bool) (name : Str) | meth (name : Str) | bi (id : Bi) | cls | mpu | rng (n : Int)
  | dict (xs : List (Int × D)) | arg (xs : List Int)
  deriving Inhabited
inductive V where
  | d (x : D) | loc (n : Nat)
  deriving Inhabited
noncomputable abbrev Loc := List (Str × V)
noncomputable abbrev Names := List (Str × NameKind)
structure Hs where
  hp : List D
  mp : Option Loc
inductive Fl where
  | next | brk | cont | ret (v : V)
noncomputable abbrev KE := V → Hs → Prop
noncomputable abbrev KS := Fl → Loc → Hs → Prop
noncomputable abbrev RecE := Names → Bool → Expr → Loc → Hs → KE → Prop
noncomputable abbrev CallR := Bool → Bool → Str → List V → Hs → KE → Prop
noncomputable abbrev RecS := Stmt → Loc → Hs → KS → Prop

/-- a branch -/
noncomputable def br (b : Bool) (A B : Prop) : Prop := match b with
  | true => A
  | false => B

/-- what the texts must be like -/
noncomputable def need (b : Bool) (A : Prop) : Prop := match b with
  | true => A
  | false => False
theorem not_t' {a : Bool} (h : (!a) = false) : a = true := by cases a; cases h; rfl
theorem need_iff {b : Bool} {P : Prop} (h : need b P) : b = true ∧ P := by cases b <;> first | exact False.elim h | exact ⟨rfl, h⟩
noncomputable def optP {α : Type} (o : Option α) (k : α → Prop) : Prop := match o with
  | some a => k a
  | none => False
theorem optP_iff {α : Type} {o : Option α} {k : α → Prop} (h : optP o k) : ∃ a, o = some a ∧ k a := by
  cases o with
  | none => exact False.elim h
  | some a => exact ⟨a, rfl, h⟩
theorem optP_of {α : Type} {o : Option α} {k : α → Prop} {a : α} (e : o = some a) (h : k a) : optP o k := by rw [e]; exact h
noncomputable def orP {α : Type} (o : Option α) (k : α → Prop) (d : Prop) : Prop := match o with
  | some a => k a
  | none => d
theorem orP_iff2 {α : Type} {o : Option α} {k : α → Prop} {d : Prop} (h : orP o k d) : (∃ a, o = some a ∧ k a) ∨ (o = none ∧ d) := by
  cases o with
  | none => exact .inr ⟨rfl, h⟩
  | some a => exact .inl ⟨a, rfl, h⟩
theorem orP_iff {α : Type} {o : Option α} {k : α → Prop} {d : Prop} (h : orP o k d) : (∃ a, o = some a ∧ k a) ∨ d := (orP_iff2 h).imp_right And.right
theorem none_of_isSome {α : Type} {o : Option α} (h : o.isSome = false) : o = none := by
  cases o with
  | none => rfl
  | some _ => exact nomatch h
noncomputable def both {α β : Type} (a : Option α) (b : Option β) : Option (α × β) := optB a fun x => optB b fun y => some (x, y)
theorem both_iff {α β : Type} {a : Option α} {b : Option β} {p : α × β} (h : both a b = some p) : a = some p.1 ∧ b = some p.2 := by
  cases a with
  | none => exact none_some h
  | some x => cases b with
    | none => exact none_some h
    | some y => cases some_eq h; exact ⟨rfl, rfl⟩
noncomputable def D.int? : D → Option Int
  | .int i => some i
  | _ => Option.none
theorem D.int_eq {d : D} {i : Int} (h : d.int? = some i) : d = .int i := by
  cases d with
  | int j => exact congrArg D.int (some_eq h)
  | _ => exact none_some h
noncomputable def D.ints? : D → Option (List Int)
  | .ints i => some i
  | _ => Option.none
theorem D.ints_eq {d : D} {i : List Int} (h : d.ints? = some i) : d = .ints i := by
  cases d with
  | «ints» j => exact congrArg D.ints (some_eq h)
  | _ => exact none_some h
noncomputable def D.tup? : D → Option (List D)
  | .tup i => some i
  | _ => Option.none
theorem D.tup_eq {d : D} {i : List D} (h : d.tup? = some i) : d = .tup i := by
  cases d with
  | tup j => exact congrArg D.tup (some_eq h)
  | _ => exact none_some h
noncomputable def V.d? : V → Option D
  | .d x => some x
  | .loc _ => none
theorem V.d_eq {v : V} {d : D} (h : v.d? = some d) : v = .d d := by
  cases v with
  | d x => exact congrArg V.d (some_eq h)
  | loc _ => exact none_some h
noncomputable def V.loc? : V → Option Nat
  | .d _ => none
  | .loc n => some n
theorem V.loc_eq {v : V} {n : Nat} (h : v.loc? = some n) : v = .loc n := by
  cases v with
  | d x => exact none_some h
  | loc _ => exact congrArg V.loc (some_eq h)
noncomputable def V.int? (v : V) : Option Int := optB v.d? D.int?
theorem V.int_eq {v : V} {i : Int} (h : v.int? = some i) : v = .d (.int i) :=
  let ⟨_, e, h⟩ := optB_iff h
  (V.d_eq e).trans (congrArg V.d (D.int_eq h))
noncomputable def isK (n : Nat) (e : Expr) : Bool := Nat.beq e.ctorIdx n
noncomputable def noStar : List Expr → Bool
  | [] => true
  | e :: r => !isK 22 e && noStar r
noncomputable def okBase (e : Expr) : Bool := isK 23 e || isK 20 e || isK 21 e
noncomputable def okArgsE (args : List Expr) : Bool := noStar args && Nat.ble args.length 12
noncomputable def noDebug (ns : Names) : Bool := (sLook "__debug__" ns).isNone
noncomputable def notSet (e : Expr) : Bool := !isK 7 e
noncomputable def isCall (e : Expr) : Bool := isK 16 e
noncomputable def isTupE (e : Expr) : Bool := isK 25 e
noncomputable def isLstE (e : Expr) : Bool := isK 24 e
noncomputable def isNameE (e : Expr) : Bool := isK 23 e
/-- no exchange of stores: not a tuple of names out of a written tuple -/
noncomputable def notSC (e : Expr) : Bool := !isK 9 e && !isK 10 e
noncomputable def isSliceE (e : Expr) : Bool := isK 26 e
noncomputable def okSwap (t e : Expr) : Bool := notSC e && match t with
  | .Tuple ts _ _ => (!isTupE e && !isLstE e) || ts.any (fun t => !isNameE t)
  | .List .. => false
  | .Starred .. => false
  | _ => true
noncomputable def isFn? : ScopeKind → Bool
  | .function => true
  | _ => false
noncomputable def okCK : NameKind → Bool
  | .local | .free | .globalImplicit => true
  | _ => false
noncomputable def okCompNames : Names → Bool
  | [] => true
  | p :: r => okCK p.2 && okCompNames r
noncomputable def nodupN : Names → Bool
  | [] => true
  | p :: r => (sLook p.1 r).isNone && nodupN r
/-- what a comprehension takes from around it stands in a cell -/
noncomputable def isCF : Option NameKind → Bool
  | some .cell => true
  | some .free => true
  | _ => false
noncomputable def isFr : NameKind → Bool
  | .free => true
  | _ => false
noncomputable def freeOK (sc : Names) : Names → Bool
  | [] => true
  | p :: r => (!isFr p.2 || isCF (sLook p.1 sc)) && freeOK sc r
noncomputable def okComp (sc : Names) (scope : Scope) : Bool := freeOK sc scope.names && isFn? scope.kind && okCompNames scope.names && nodupN scope.names && noDebug scope.names && !scope.isCoroutine && !scope.isGenerator
noncomputable def kwNs : List Keyword → Option (List Str)
  | [] => some []
  | k :: r => optB k.arg fun x => optB (kwNs r) fun l => some (x :: l)
noncomputable def sameNs : List Str → List Str → Bool
  | [], [] => true
  | x :: r, y :: t => sEq x y && sameNs r t
  | _, _ => false

/-- a method that makes a lambda and calls it once, in its parts -/
structure WrapP where
  fn : Str
  wn : Str
  np : Pos
  as : Arguments
  xn : Str
  lb : Expr
  lsc : Scope
  lp : Pos
  p1 : Pos
  e1 : Expr
  o : Expr
  x : Str
  ap : Pos
  np' : Pos
  ea : Expr
  ip : Pos
  cp : Pos
  e2 : Expr
  sp : Pos
  bp : Pos
  rp : Pos
noncomputable def WrapP.inner (W : WrapP) : Expr := .Call (.Name W.wn W.np') [W.ea] [] W.ip
noncomputable def WrapP.stmts (W : WrapP) : List Stmt :=
  [.Assign [.Name W.wn W.np] (.Lambda W.as W.lb W.lsc W.lp) W.p1,
   .Return (some (.BinOp W.e1 .Add (.BinOp (.Call (.Attribute W.o W.x W.ap) [W.inner] [] W.cp) .LShift W.e2 W.sp) W.bp)) W.rp]
structure PX where
  wrap : Option WrapP
  rest : List Stmt
  cbody : List Stmt
  cname : Str
  muts : List Str
  cuts : List Str

noncomputable def stName : Stmt → Option Str
  | .FunctionDef name _ _ _ _ _ _ _ _ _ => some name
  | .Assign ts _ _ => optB (one ts) nameP1
  | _ => none
noncomputable def isAt (x : Str) : Option Str → Bool
  | some y => sEq x y
  | none => false
noncomputable def findSt (x : Str) : List Stmt → Option Stmt
  | [] => none
  | s :: r => match isAt x (stName s) with
    | true => some s
    | false => findSt x r

noncomputable def constD : Const → Option D
  | .none => some .none
  | .bool b => some (.bool b)
  | .int i => some (.int i)
  | .str s => some (.str s)
  | _ => none
noncomputable def allSome {α : Type} : List (Option α) → Option (List α)
  | [] => some []
  | o :: r => optB o fun a => optB (allSome r) fun l => some (a :: l)
noncomputable def toInts : List D → Option (List Int)
  | [] => some []
  | d :: r => optB d.int? fun i => optB (toInts r) fun l => some (i :: l)
noncomputable def mkList (xs : List D) : D := match toInts xs with
  | some l => .ints l
  | none => .list xs
noncomputable def conD : Expr → Option D
  | .Constant c _ _ => constD c
  | _ => none
/-- data as it stands at the module's level -/
noncomputable def dataD : Nat → Expr → Option D
  | 0, e => conD e
  | n + 1, e => match e with
    | .Constant c _ _ => constD c
    | .List es _ => optB (allSome (es.map (dataD n))) fun l => some (mkList l)
    | .Dict ks vs _ => optB (keysI ks) fun ks => optB (allSome (vs.map (dataD n))) fun vs => some (.dict (ks.zip vs))
    | _ => none
noncomputable def topSt (x : Str) : Stmt → Option D
  | .FunctionDef name _ _ _ _ _ _ _ _ _ => some (.fn false name)
  | .Assign _ e _ => noB (sEq x "__name__") (dataD 6 e)
  | _ => none
noncomputable def topD (X : PX) (x : Str) : Option D := optB (findSt x X.rest) (topSt x)
noncomputable def biNames : List Bi := [.len, .sum, .range, .enum, .max, .min]
noncomputable def biD (x : Str) : List Bi → Option D
  | [] => none
  | s :: r => if sEq x (Str.ofString s.id) then some (.bi s) else biD x r
noncomputable def glob (X : PX) (x : Str) : Option D :=
  if sEq x X.cname then some .cls else orB (topD X x) some (biD x biNames)
noncomputable def intD : Const → Option D
  | .int i => some (.int i)
  | _ => none
noncomputable def eltD : Expr → Option D
  | .Constant c _ _ => intD c
  | .Name x _ => some (.fn true x)
  | _ => none
noncomputable def valD : Expr → Option D
  | .Constant c _ _ => constD c
  | .List es _ => optB (allSome (es.map eltD)) fun l => some (mkList l)
  | _ => none
noncomputable def stD : Stmt → Option D
  | .FunctionDef name _ _ _ _ _ _ _ _ _ => some (.fn true name)
  | .Assign _ e _ => valD e
  | _ => none
noncomputable def clsD (X : PX) (x : Str) : Option D := optB (findSt x X.cbody) stD
structure Fn where
  args : Arguments
  body : List Stmt
  scope : Scope
noncomputable def fnOf (X : PX) (m : Bool) (x : Str) : Option Fn := match findSt x (match m with | true => X.cbody | false => X.rest) with
  | some (.FunctionDef _ args body _ _ _ scope _ _ _) => some ⟨args, body, scope⟩
  | _ => none

/-! ### values -/
noncomputable def isLoc : NameKind → Bool
  | .local | .cell | .free => true
  | _ => false
noncomputable def evName (X : PX) (sc : Names) (x : Str) (loc : Loc) (hs : Hs) (K : KE) : Prop := optP (sLook x sc) fun k => match k with
  | .globalImplicit => optP (glob X x) fun d => K (.d d) hs
  | .local => optP (sLook x loc) fun v => K v hs
  | .cell => optP (sLook x loc) fun v => K v hs
  | .free => need (!sEq x (Str.ofString "__classdict__")) (optP (sLook x loc) fun v => K v hs)
  | _ => False

noncomputable def D.ref : D → Bool
  | .none | .bool _ | .int _ | .str _ => false
  | _ => true
noncomputable def lenD : D → Option Nat
  | .tup xs => some xs.length
  | .list xs => some xs.length
  | .ints xs => some xs.length
  | _ => none
noncomputable def deref (hs : Hs) : V → D
  | .d x => x
  | .loc n => hs.hp.getD n .none
noncomputable def truthB : D → Option Bool
  | .none => some false
  | .bool b => some b
  | .int i => some (i != 0)
  | .list xs => noB (!decide (xs.length < 2 ^ 62)) (some (!xs.isEmpty))
  | .ints xs => noB (!decide (xs.length < 2 ^ 62)) (some (!xs.isEmpty))
  | _ => none
noncomputable def truthV (v : V) (hs : Hs) (k : Bool → Prop) : Prop := optP (truthB (deref hs v)) k

noncomputable def idx (i : Int) (n : Nat) : Int := if i < 0 then i + n else i
noncomputable def small (i : Int) : Prop := -(2 ^ 62) < i ∧ i < 2 ^ 62
/-- the place an index names in a list of n -/
noncomputable def at' (i : Int) (n : Nat) (k : Nat → Prop) : Prop := small i ∧ 0 ≤ idx i n ∧ idx i n < n ∧ k (idx i n).toNat
noncomputable def cut {α : Type} (xs : List α) (lo hi : Option Int) : List α :=
  (xs.drop (lo.elim 0 (clipAt xs.length))).take (hi.elim xs.length (clipAt xs.length) - lo.elim 0 (clipAt xs.length))

noncomputable def alloc (m : Bool) (x : D) (hs : Hs) (K : KE) : Prop := match m with
  | true => K (.loc hs.hp.length) ⟨hs.hp ++ [x], hs.mp⟩
  | false => K (.d x) hs
noncomputable def lim : Nat := 2 ^ 20
noncomputable def putL (x : Str) (v : V) : Loc → Loc
  | [] => [(x, v)]
  | (y, u) :: r => if sEq x y then (x, v) :: r else (y, u) :: putL x v r

noncomputable def binInt (op : Operator) (a b : Int) (hs : Hs) (K : KE) : Prop := match op with
  | .Add => K (.d (.int (a + b))) hs
  | .Sub => K (.d (.int (a - b))) hs
  | .Mult => (a.natAbs < 2 ^ 62 ∨ b.natAbs < 2 ^ 62) ∧ K (.d (.int (a * b))) hs
  | .Mod => b ≠ 0 ∧ K (.d (.int (a.fmod b))) hs
  | .FloorDiv => (b ≠ 0 ∧ b.natAbs < 1073741824) ∧ K (.d (.int (a.fdiv b))) hs
  | .LShift => (0 ≤ b ∧ b ≤ 1000 ∧ a.natAbs < 2 ^ 62) ∧ K (.d (.int (a * 2 ^ b.toNat))) hs
  | .RShift => 0 ≤ b ∧ K (.d (.int (a.fdiv (2 ^ b.toNat)))) hs
  | .Pow => (0 ≤ b ∧ b ≤ 1000 ∧ a.natAbs < 2 ^ 62) ∧ K (.d (.int (a ^ b.toNat))) hs
  | .BitAnd => K (.d (.int (Builtin.bitAnd a b))) hs
  | .BitOr => K (.d (.int (Builtin.bitOr a b))) hs
  | .BitXor => K (.d (.int (Builtin.bitXor a b))) hs
  | _ => False
noncomputable def D.elts? : D → Option (List D)
  | .list xs => some xs
  | .ints xs => some (xs.map .int)
  | _ => Option.none
noncomputable def catD (x y : D) : Option D := orB (both x.ints? y.ints?) (fun p => some (.ints (p.1 ++ p.2))) (optB (both x.elts? y.elts?) fun p => some (.list (p.1 ++ p.2)))
noncomputable def rep {α : Type} (n : Int) (xs : List α) : List α := (List.replicate n.toNat xs).flatten
/-- a binary operation; m: whether a list it makes may be changed later -/
noncomputable def isMul : Operator → Bool
  | .Mult => true
  | _ => false
noncomputable def isAdd : Operator → Bool
  | .Add => true
  | _ => false
theorem mul_of {op : Operator} (h : isMul op = true) : op = .Mult := by cases op <;> first | rfl | exact ff h
theorem add_of {op : Operator} (h : isAdd op = true) : op = .Add := by cases op <;> first | rfl | exact ff h
noncomputable def binOpV (op : Operator) (m : Bool) (a b : V) (hs : Hs) (K : KE) : Prop :=
  orP (both (deref hs a).int? (deref hs b).int?) (fun p => binInt op p.1 p.2 hs K) <|
  orP (both (deref hs a).ints? (deref hs b).int?) (fun p => need (isMul op) ((0 ≤ p.2 ∧ p.2 ≤ lim ∧ p.1.length * p.2.toNat ≤ lim) ∧ alloc m (.ints (rep p.2 p.1)) hs K)) <|
  need (isAdd op) (optP (catD (deref hs a) (deref hs b)) fun z => optP (lenD z) fun n => n ≤ lim ∧ alloc m z hs K)
noncomputable def unOpV (op : UnaryOp) (a : V) (hs : Hs) (K : KE) : Prop := match op with
  | .Not => truthV a hs fun b => K (.d (.bool (!b))) hs
  | .USub => optP a.int? fun i => K (.d (.int (-i))) hs
  | .Invert => optP a.int? fun i => K (.d (.int (Builtin.bitNot i))) hs
  | .UAdd => False
noncomputable def toIntsT (d : D) : Option (List Int) := optB d.tup? toInts
noncomputable def cmpInt (op : CmpOp) (a b : Int) : Option Bool := match op with
  | .Eq => some (a == b)
  | .NotEq => some (a != b)
  | .Lt => some (decide (a < b))
  | .LtE => some (decide (a ≤ b))
  | .Gt => some (decide (b < a))
  | .GtE => some (decide (b ≤ a))
  | _ => none
noncomputable def cmpEq (op : CmpOp) (b : Bool) : Option Bool := match op with
  | .Eq => some b
  | .NotEq => some (!b)
  | _ => none
noncomputable def isNone : D → Bool
  | .none => true
  | _ => false
noncomputable def isIs : CmpOp → Bool
  | .Is => true
  | _ => false
noncomputable def cmpD (op : CmpOp) (x y : D) : Option Bool :=
  orB (both x.int? y.int?) (fun p => cmpInt op p.1 p.2) <|
  orB (both x.ints? y.ints?) (fun p => cmpEq op (decide (p.1 = p.2))) <|
  orB (both (toIntsT x) (toIntsT y)) (fun p => cmpEq op (decide (p.1 = p.2))) <|
  noB (!(isNone y && isIs op)) (some (isNone x))
theorem is_of {op : CmpOp} (h : isIs op = true) : op = .Is := by cases op <;> first | rfl | exact ff h
noncomputable def cmpV (op : CmpOp) (a b : V) (hs : Hs) (K : Bool → Prop) : Prop := optP (cmpD op (deref hs a) (deref hs b)) K

/-- an item of a list or a tuple -/
noncomputable def itemD (x : D) (i : Int) (hs : Hs) (K : KE) : Prop := match x with
  | .ints xs => at' i xs.length fun n => K (.d (.int (xs.getD n 0))) hs
  | .list xs => at' i xs.length fun n => K (.d (xs.getD n .none)) hs
  | .tup xs => at' i xs.length fun n => K (.d (xs.getD n .none)) hs
  | .dict xs => optP (xs.lookup i) fun d => K (.d d) hs
  | _ => False
noncomputable def itemV (a b : V) (hs : Hs) (K : KE) : Prop := optP b.int? fun i => itemD (deref hs a) i hs K
noncomputable def partV : Option V → Option (Option Int)
  | none => some none
  | some v => optB v.int? fun i => some (some i)
noncomputable def sliceD (m : Bool) (x : D) (l u : Option Int) (hs : Hs) (K : KE) : Prop := match x with
  | .ints xs => xs.length ≤ lim ∧ alloc m (.ints (cut xs l u)) hs K
  | .list xs => xs.length ≤ lim ∧ alloc m (.list (cut xs l u)) hs K
  | .arg xs => xs.length ≤ lim ∧ alloc m (.ints (cut xs l u)) hs K
  | _ => False
noncomputable def sliceV (m : Bool) (a : V) (lo hi : Option V) (hs : Hs) (K : KE) : Prop := optP (partV lo) fun l => optP (partV hi) fun u => sliceD m (deref hs a) l u hs K
noncomputable def fldNames : List Str := ["pc", "memory", "a", "x", "y", "p", "sp", "byteMask", "addrMask", "addrHighMask", "spBase", "excycles", "addcycles", "processorCycles", "start_pc", "name"]
noncomputable def V.isMpu : V → Bool
  | .d .mpu => true
  | _ => false
theorem V.isMpu_eq {v : V} (h : v.isMpu = true) : v = .d .mpu := by
  cases v with
  | loc _ => exact ff h
  | d x => cases x <;> first | rfl | exact ff h
/-- what stands in the class: a function is met as a method -/
noncomputable def boundD : D → D
  | .fn _ y => .meth y
  | d => d
noncomputable def getAttrV (X : PX) (v : V) (x : Str) (hs : Hs) (K : KE) : Prop := need v.isMpu <| optP hs.mp fun f =>
  orP (sLook x f) (fun u => need (sMem x fldNames) (K u hs)) (optP (clsD X x) fun d => K (.d (boundD d)) hs)
noncomputable def setAttrV (v : V) (x : Str) (u : V) (hs : Hs) (K : Hs → Prop) : Prop := need v.isMpu <| optP hs.mp fun f =>
  need (sMem x fldNames && Nat.ble f.length 100) (K ⟨hs.hp, some (putL x u f)⟩)
noncomputable def setItemV (a b u : V) (hs : Hs) (K : Hs → Prop) : Prop := optP a.loc? fun n => optP b.int? fun i => optP u.int? fun j => optP (hs.hp.getD n .none).ints? fun xs =>
  at' i xs.length fun k => K ⟨hs.hp.set n (.ints (xs.set k j)), hs.mp⟩
/-- a stretch of a list put in the place of another -/
noncomputable def splice {α : Type} (xs : List α) (lo hi : Option Int) (ys : List α) : List α :=
  xs.take (lo.elim 0 (clipAt xs.length)) ++ ys ++ xs.drop (max (lo.elim 0 (clipAt xs.length)) (hi.elim xs.length (clipAt xs.length)))
noncomputable def setSliceV (a : V) (lo hi : Option V) (u : V) (hs : Hs) (K : Hs → Prop) : Prop := optP a.loc? fun n => optP (partV lo) fun l => optP (partV hi) fun h => optP (hs.hp.getD n .none).ints? fun xs => optP (deref hs u).ints? fun ys =>
  xs.length + ys.length ≤ lim ∧ K ⟨hs.hp.set n (.ints (splice xs l h ys)), hs.mp⟩
/-- l.append(x) -/
noncomputable def appendD (x y : D) : Option D := orB (both x.ints? y.int?) (fun p => some (.ints (p.1 ++ [p.2]))) (optB x.elts? fun xs => some (.list (xs ++ [y])))
noncomputable def growV (n : Nat) (z : Option D) (hs : Hs) (K : Hs → Prop) : Prop := optP z fun z => optP (lenD z) fun k => k ≤ lim ∧ K ⟨hs.hp.set n z, hs.mp⟩
noncomputable def extendV (n : Nat) (v : V) (hs : Hs) (K : Hs → Prop) : Prop := growV n (catD (hs.hp.getD n .none) (deref hs v)) hs K

/-! ### expressions -/
noncomputable def evs (rec : Expr → Hs → KE → Prop) : List Expr → Hs → (List V → Hs → Prop) → Prop
  | [], hs, K => K [] hs
  | e :: r, hs, K => rec e hs fun v hs => evs rec r hs fun vs hs => K (v :: vs) hs
noncomputable def asD : V → Option D
  | .d x => some x
  | .loc _ => none
noncomputable def asDs (vs : List V) : Option (List D) := allSome (vs.map asD)
noncomputable def evOpt (rec : Expr → Hs → KE → Prop) (e : Option Expr) (hs : Hs) (K : Option V → Hs → Prop) : Prop := match e with
  | none => K none hs
  | some e => rec e hs fun v hs => K (some v) hs
noncomputable def boolE (rec : Expr → Hs → KE → Prop) (op : BoolOp) : List Expr → Hs → KE → Prop
  | [], _, _ => False
  | [e], hs, K => rec e hs K
  | e :: r, hs, K => rec e hs fun v hs => truthV v hs fun b => match op with
    | .And => br b (boolE rec op r hs K) (K v hs)
    | .Or => br b (K v hs) (boolE rec op r hs K)
noncomputable def sumI : List Int → Int
  | [] => 0
  | i :: r => i + sumI r
noncomputable def biCall (id : Bi) (vs : List V) (hs : Hs) (K : KE) : Prop := optP (one vs) fun v => match id with
  | .len => optP (lenD (deref hs v)) fun n => n < 2 ^ 62 ∧ K (.d (.int n)) hs
  | .sum => optP (deref hs v).ints? fun xs => xs.length ≤ lim ∧ K (.d (.int xs.sum)) hs
  | .range => optP v.int? fun n => (small n) ∧ K (.d (.rng n)) hs
  | _ => False
noncomputable def stays (g : Option (Nat × D)) (hs : Hs) : Prop := match g with
  | none => True
  | some (n, d) => hs.hp.getD n .none = d
noncomputable def callD (call : CallR) (m : Bool) (f : D) (vs : List V) (hs : Hs) (K : KE) : Prop := match f with
  | .fn b x => call m b x vs hs K
  | .meth x => call m true x (.d .mpu :: vs) hs K
  | .bi id => biCall id vs hs K
  | _ => False
noncomputable def callV (call : CallR) (m : Bool) (f : V) (vs : List V) (hs : Hs) (K : KE) : Prop := optP f.d? fun f => callD call m f vs hs K
noncomputable def argNs (a : Arguments) : Option (List Str) := if plainArgs a then some (a.args.map (·.arg)) else none
/-- a class called with keywords -/
noncomputable def V.isCls : V → Bool
  | .d .cls => true
  | _ => false
theorem V.isCls_eq {v : V} (h : v.isCls = true) : v = .d .cls := by
  cases v with
  | loc _ => exact ff h
  | d x => cases x <;> first | rfl | exact ff h
noncomputable def V.isNone : V → Bool
  | .d .none => true
  | _ => false
theorem V.isNone_eq {v : V} (h : v.isNone = true) : v = .d .none := by
  cases v with
  | loc _ => exact ff h
  | d x => cases x <;> first | rfl | exact ff h
noncomputable def initNs : List Str → List Str → Bool
  | _ :: as, ns => sameNs as ns
  | [], _ => false
noncomputable def newV (X : PX) (call : CallR) (f : V) (ns : Option (List Str)) (vs : List V) (hs : Hs) (K : KE) : Prop :=
  need (f.isCls && hs.mp.isNone) <| optP (fnOf X true "__init__") fun F => optP (argNs F.args) fun as => optP ns fun ns =>
  need (initNs as ns) (call false true "__init__" (.d .mpu :: vs) ⟨hs.hp, some []⟩ fun r hs => need r.isNone (K (.d .mpu) hs))
noncomputable def D.fn? : D → Option Str
  | .fn _ y => some y
  | _ => Option.none
noncomputable def isMeth (X : PX) (x : Str) (f : Loc) : Option Str := noB (sLook x f).isSome (optB (clsD X x) D.fn?)
theorem D.fn_eq {d : D} {y : Str} (h : d.fn? = some y) : ∃ m, d = .fn m y := by
  cases d with
  | fn m y => exact ⟨m, congrArg (D.fn m) (some_eq h)⟩
  | _ => exact none_some h
theorem boundD_cases (d : D) : (∃ m y, d = .fn m y) ∨ ((∀ m y, d ≠ .fn m y) ∧ boundD d = d) := by
  cases d with
  | fn m y => exact .inl ⟨m, y, rfl⟩
  | _ => exact .inr ⟨fun m y e => (nomatch e), rfl⟩
inductive Tg where
  | m (y : Str) | app (n : Nat) | ext (n : Nat)
noncomputable def tgL (x : Str) (n : Nat) : Option Tg := if sEq x (Str.ofString "append") then some (.app n) else if sEq x (Str.ofString "extend") then some (.ext n) else none
theorem tgL_cases {x : Str} {n : Nat} {t : Tg} (h : tgL x n = some t) : (x = Str.ofString "append" ∧ t = .app n) ∨ (x = Str.ofString "extend" ∧ t = .ext n) := by
  unfold tgL at h
  by_cases q : sEq x (Str.ofString "append") = true
  · rw [if_pos q] at h; exact .inl ⟨sEq_iff.mp q, (some_eq h).symm⟩
  · rw [if_neg q] at h
    obtain ⟨q, h⟩ := if_some rfl h
    exact .inr ⟨sEq_iff.mp q, (some_eq h).symm⟩
noncomputable def tgOf (X : PX) (o : V) (x : Str) (hs : Hs) : Option Tg := orB o.loc? (tgL x) (noB (!o.isMpu) (optB hs.mp fun f => optB (isMeth X x f) fun y => some (.m y)))
noncomputable def callTg (call : CallR) (m : Bool) (t : Tg) (vs : List V) (hs : Hs) (K : KE) : Prop := match t with
  | .m y => call m true y (.d .mpu :: vs) hs K
  | .app n => optP (one vs) fun v => optP v.d? fun y => growV n (appendD (hs.hp.getD n .none) y) hs fun hs => K (.d .none) hs
  | .ext n => optP (one vs) fun v => extendV n v hs fun hs => K (.d .none) hs
noncomputable def itemsD : D → Option (List D)
  | .ints xs => some (xs.map .int)
  | .list xs => some xs
  | .rng n => some ((List.range n.toNat).map fun (i : Nat) => D.int i)
  | _ => none
noncomputable def enumFrom : Nat → List D → List D
  | _, [] => []
  | n, x :: r => .tup [.int n, x] :: enumFrom (n + 1) r
noncomputable def isRng : D → Bool
  | .rng _ => true
  | _ => false
noncomputable def smallR : D → Prop
  | .rng n => small n
  | _ => True
/-- what a for walks over: the items, and the list that must stay -/
noncomputable def guardOf (v : V) (hs : Hs) : Option (Nat × D) := optB v.loc? fun n => some (n, deref hs v)
noncomputable def iterE (rec : Expr → Hs → KE → Prop) (isEnum : Expr → Option Expr) (t e : Expr) (hs : Hs) (K : List D → Option (Nat × D) → Hs → Prop) : Prop :=
  orP (isEnum e) (fun e => need (isTupE t) (rec e hs fun v hs => need (!isRng (deref hs v)) (optP (itemsD (deref hs v)) fun xs => K (enumFrom 0 xs) (guardOf v hs) hs)))
    (rec e hs fun v hs => smallR (deref hs v) ∧ optP (itemsD (deref hs v)) fun xs => K xs (guardOf v hs) hs)
noncomputable def isGI : Option NameKind → Bool
  | some .globalImplicit => true
  | _ => false
noncomputable def D.isEnum : D → Bool
  | .bi .enum => true
  | _ => false
noncomputable def isEnumN (X : PX) (sc : Names) (x : Str) : Bool := isGI (sLook x sc) && (match glob X x with | some d => d.isEnum | none => false)
noncomputable def callP : Expr → Option (Expr × List Expr × List Keyword)
  | .Call f args kws _ => some (f, args, kws)
  | _ => none
noncomputable def enumOf (X : PX) (sc : Names) (e : Expr) : Option Expr := optB (callP e) fun q => optB (nameP1 q.1) fun x => optB (one q.2.1) fun e => noB (!(q.2.2.isEmpty && isEnumN X sc x && okArgsE [e])) (some e)
noncomputable def storable (k : Option NameKind) : Bool := match k with
  | some .local | some .cell => true
  | _ => false
noncomputable def locK (k : Option NameKind) : Bool := match k with
  | some .local => true
  | _ => false
/-- names bound to an item (a name, or a tuple of names) -/
noncomputable def bindNs (sc : Names) : List Expr → List D → Loc → Option Loc
  | [], [], loc => some loc
  | e :: es, d :: ds, loc => optB (nameQ e) fun q => noB (!locK (sLook q.1 sc)) (bindNs sc es ds (putL q.1 (.d d) loc))
  | _, _, _ => none
noncomputable def bindT (sc : Names) (t : Expr) (d : D) (loc : Loc) : Option Loc := match t with
  | .Name x _ => if locK (sLook x sc) then some (putL x (.d d) loc) else none
  | .Tuple ts _ _ => optB d.tup? fun ds => bindNs sc ts ds loc
  | _ => none
noncomputable def ifsE (rec : Expr → Hs → KE → Prop) : List Expr → Hs → (Bool → Hs → Prop) → Prop
  | [], hs, K => K true hs
  | e :: r, hs, K => rec e hs fun v hs => truthV v hs fun b => br b (ifsE rec r hs K) (K false hs)
noncomputable def compL (rec : Loc → Expr → Hs → KE → Prop) (sc : Names) (t elt : Expr) (ifs : List Expr) (g : Option (Nat × D)) (K : List D → Hs → Prop) : List D → Loc → Hs → List D → Prop
  | [], _, hs, acc => stays g hs ∧ K acc.reverse hs
  | x :: r, loc, hs, acc => stays g hs ∧ optP (bindT sc t x loc) fun loc => ifsE (rec loc) ifs hs fun b hs => br b (rec loc elt hs fun v hs => optP v.d? fun y => compL rec sc t elt ifs g K r loc hs (y :: acc)) (compL rec sc t elt ifs g K r loc hs acc)
/-- how the names of a comprehension's own block read -/
noncomputable def isCell : Option NameKind → Bool
  | some .cell => true
  | _ => false
noncomputable def compKind (sc : Names) (x : Str) (k : NameKind) : NameKind := match isFr k && isCell (sLook x sc) with
  | true => .cell
  | false => k
noncomputable def compSc (sc : Names) (own : Names) : Names := own.map fun p => (p.1, compKind sc p.1 p.2)
noncomputable def dropNames (own : Names) : Loc → Loc
  | [] => []
  | p :: r => match isLoc0 (sLook p.1 own) with
    | true => dropNames own r
    | false => p :: dropNames own r

noncomputable abbrev Ev := Expr → Hs → KE → Prop
noncomputable def cmpE (rec : Ev) (l : Expr) (ops : List CmpOp) (rs : List Expr) (hs : Hs) (K : KE) : Prop := match ops with
  | [op] => (match rs with
    | [r] => need (notSet r) (rec l hs fun a hs => rec r hs fun b hs => cmpV op a b hs fun c => K (.d (.bool c)) hs)
    | _ => False)
  | _ => False
noncomputable def attrP : Expr → Option (Expr × Str × Pos)
  | .Attribute o x ap => some (o, x, ap)
  | _ => none
noncomputable def callA (X : PX) (call : CallR) (rec : Ev) (m : Bool) (o : Expr) (x : Str) (ap : Pos) (args : List Expr) (kws : List Keyword) (p : Pos) (hs : Hs) (K : KE) : Prop := match kws with
  | [] => need (okArgsE args && okBase o && Nat.beq ap.endLine p.line) (rec o hs fun ov hs => optP (tgOf X ov x hs) fun t => evs rec args hs fun vs hs => callTg call m t vs hs K)
  | _ :: _ => False
noncomputable def callF (X : PX) (call : CallR) (rec : Ev) (m : Bool) (f : Expr) (args : List Expr) (kws : List Keyword) (hs : Hs) (K : KE) : Prop := match kws with
  | [] => need (okArgsE args) (rec f hs fun fv hs => evs rec args hs fun vs hs => callV call m fv vs hs K)
  | k :: ks => (match args with
    | [] => optP (kwNs (k :: ks)) fun ns => rec f hs fun fv hs => evs rec ((k :: ks).map (·.value)) hs fun vs hs => newV X call fv (some ns) vs hs K
    | _ :: _ => False)
noncomputable def callE (X : PX) (call : CallR) (rec : Ev) (m : Bool) (f : Expr) (args : List Expr) (kws : List Keyword) (p : Pos) (hs : Hs) (K : KE) : Prop := match attrP f with
  | some (o, x, ap) => callA X call rec m o x ap args kws p hs K
  | none => callF X call rec m f args kws hs K
noncomputable def sliceP : Expr → Option (Option Expr × Option Expr × Option Expr)
  | .Slice lo hi st _ => some (lo, hi, st)
  | _ => none
noncomputable def subE (rec : Ev) (m : Bool) (o i : Expr) (hs : Hs) (K : KE) : Prop := match sliceP i with
  | some (lo, hi, st) => need st.isNone (rec o hs fun ov hs => evOpt rec lo hs fun l hs => evOpt rec hi hs fun h hs => sliceV m ov l h hs K)
  | none => rec o hs fun ov hs => rec i hs fun iv hs => itemV ov iv hs K
noncomputable def genP (gens : List Comprehension) : Option (Expr × Expr × List Expr) := optB (one gens) fun g => noB (!decide (g.is_async = 0)) (some (g.target, g.iter, g.ifs))
noncomputable def stepE (X : PX) (call : CallR) (rec : RecE) : RecE := fun sc m e loc hs K => match e with
  | .Constant c _ _ => optP (constD c) fun d => K (.d d) hs
  | .Name x _ => evName X sc x loc hs K
  | .BinOp l op r _ => rec sc false l loc hs fun a hs => rec sc false r loc hs fun b hs => binOpV op m a b hs K
  | .UnaryOp op x _ => rec sc false x loc hs fun a hs => unOpV op a hs K
  | .BoolOp op es _ => boolE (fun e => rec sc false e loc) op es hs K
  | .IfExp t a b _ => rec sc false t loc hs fun v hs => truthV v hs fun c => br c (rec sc m a loc hs K) (rec sc m b loc hs K)
  | .List es _ => need (noStar es && Nat.ble es.length 2000) (evs (fun e => rec sc false e loc) es hs fun vs hs => optP (asDs vs) fun ds => alloc m (mkList ds) hs K)
  | .Tuple es _ _ => need (noStar es && Nat.ble es.length 2000) (evs (fun e => rec sc false e loc) es hs fun vs hs => optP (asDs vs) fun ds => K (.d (.tup ds)) hs)
  | .Compare l ops rs _ => cmpE (fun e => rec sc false e loc) l ops rs hs K
  | .Call f args kws p => callE X call (fun e => rec sc false e loc) m f args kws p hs K
  | .Attribute o x _ => need (okBase o) (rec sc false o loc hs fun ov hs => getAttrV X ov x hs K)
  | .Subscript o i _ => subE (fun e => rec sc false e loc) m o i hs K
  | .ListComp elt gens scope _ => optP (genP gens) fun q => need (okComp sc scope && notSet q.2.1) (iterE (fun e => rec sc false e loc) (enumOf X sc) q.1 q.2.1 hs fun xs g hs => xs.length ≤ lim ∧
      compL (fun loc e => rec (compSc sc scope.names) false e loc) (compSc sc scope.names) q.1 elt q.2.2 g (fun ds hs => alloc m (mkList ds) hs K) xs (dropNames scope.names loc) hs [])
  | _ => False
noncomputable def evE (X : PX) (call : CallR) : Nat → RecE
  | 0 => fun _ _ _ _ _ _ => False
  | n + 1 => stepE X call (evE X call n)

/-! ### statements -/
noncomputable def exL (rs : RecS) : List Stmt → Loc → Hs → KS → Prop
  | [], loc, hs, K => K .next loc hs
  | s :: r, loc, hs, K => rs s loc hs fun f loc hs => match f with
    | .next => exL rs r loc hs K
    | .brk => K .brk loc hs
    | .cont => K .cont loc hs
    | .ret v => K (.ret v) loc hs
noncomputable def tupP : Expr → Option (List Expr)
  | .Tuple ts _ _ => some ts
  | _ => none
noncomputable def asg1 (sc : Names) (rec : Expr → Loc → Hs → KE → Prop) (t : Expr) (v : V) (loc : Loc) (hs : Hs) (K : Loc → Hs → Prop) : Prop := match t with
  | .Name x _ => need (storable (sLook x sc)) (K (putL x v loc) hs)
  | .Attribute o x _ => rec o loc hs fun ov hs => setAttrV ov x v hs fun hs => K loc hs
  | .Subscript o i _ => orP (sliceP i) (fun q => need q.2.2.isNone (rec o loc hs fun ov hs => evOpt (fun e => rec e loc) q.1 hs fun l hs => evOpt (fun e => rec e loc) q.2.1 hs fun h hs => setSliceV ov l h v hs fun hs => K loc hs))
    (rec o loc hs fun ov hs => rec i loc hs fun iv hs => setItemV ov iv v hs fun hs => K loc hs)
  | _ => False
noncomputable def asgs (sc : Names) (rec : Expr → Loc → Hs → KE → Prop) : List Expr → List D → Loc → Hs → (Loc → Hs → Prop) → Prop
  | [], [], loc, hs, K => K loc hs
  | t :: ts, d :: ds, loc, hs, K => asg1 sc rec t (.d d) loc hs fun loc hs => asgs sc rec ts ds loc hs K
  | _, _, _, _, _ => False
noncomputable def asg (sc : Names) (rec : Expr → Loc → Hs → KE → Prop) (t : Expr) (v : V) (loc : Loc) (hs : Hs) (K : Loc → Hs → Prop) : Prop :=
  orP (tupP t) (fun ts => optP v.d? fun d => orP d.tup? (fun ds => need (Nat.beq ts.length ds.length && noStar ts) (asgs sc rec ts ds loc hs K)) (optP d.ints? fun is => need (Nat.beq ts.length is.length && noStar ts && Nat.ble 1 is.length) (asgs sc rec ts (is.map .int) loc hs K)))
    (asg1 sc rec t v loc hs K)
noncomputable def forL (bind : D → Loc → Hs → (Loc → Hs → Prop) → Prop) (body : Loc → Hs → KS → Prop) (g : Option (Nat × D)) (K : KS) : List D → Loc → Hs → Prop
  | [], loc, hs => stays g hs ∧ K .next loc hs
  | x :: r, loc, hs => stays g hs ∧ bind x loc hs fun loc hs => body loc hs fun f loc hs => match f with
    | .next => forL bind body g K r loc hs
    | .cont => forL bind body g K r loc hs
    | .brk => K .next loc hs
    | .ret v => K (.ret v) loc hs
noncomputable def whileN (test : Loc → Hs → (Bool → Hs → Prop) → Prop) (body : Loc → Hs → KS → Prop) (K : KS) : Nat → Loc → Hs → Prop
  | 0, _, _ => False
  | n + 1, loc, hs => test loc hs fun b hs => br b (body loc hs fun f loc hs => match f with
    | .next => whileN test body K n loc hs
    | .cont => whileN test body K n loc hs
    | .brk => K .next loc hs
    | .ret v => K (.ret v) loc hs) (K .next loc hs)
noncomputable def mutT (X : PX) : Expr → Bool
  | .Name x _ => sMem x X.muts
  | _ => false
noncomputable def augV (op : Operator) (old v : V) (hs : Hs) (K : KE) : Prop := orP old.int? (fun i => optP v.int? fun j => binInt op i j hs K)
  (need (isAdd op) (optP old.loc? fun n => extendV n v hs fun hs => K (.loc n) hs))
noncomputable def augS (X : PX) (sc : Names) (ev : Expr → Loc → Hs → KE → Prop) (t : Expr) (op : Operator) (e : Expr) (loc : Loc) (hs : Hs) (K : KS) : Prop := match t with
  | .Name x _ => need (storable (sLook x sc)) (evName X sc x loc hs fun old hs => ev e loc hs fun v hs => augV op old v hs fun w hs => K .next (putL x w loc) hs)
  | .Attribute o x _ => ev o loc hs fun ov hs => getAttrV X ov x hs fun old hs => ev e loc hs fun v hs => augV op old v hs fun w hs => setAttrV ov x w hs fun hs => K .next loc hs
  | .Subscript o i _ => need (!isSliceE i) <| ev o loc hs fun ov hs => ev i loc hs fun iv hs => itemV ov iv hs fun old hs => ev e loc hs fun v hs => augV op old v hs fun w hs => setItemV ov iv w hs fun hs => K .next loc hs
  | _ => False
noncomputable def stepS (X : PX) (sc : Names) (rm : Bool) (ev : Bool → Expr → Loc → Hs → KE → Prop) (rec : RecS) : RecS := fun s loc hs K => match s with
  | .Expr e _ => need (isCall e) (ev false e loc hs fun _ hs => K .next loc hs)
  | .Pass _ => K .next loc hs
  | .Break _ => K .brk loc hs
  | .Continue _ => K .cont loc hs
  | .Return o _ => (match o with
    | none => K (.ret (.d .none)) loc hs
    | some e => ev rm e loc hs fun v hs => K (.ret v) loc hs)
  | .Assign ts e _ => (match ts with
    | [t] => need (okSwap t e) (ev (mutT X t) e loc hs fun v hs => asg sc (ev false) t v loc hs fun loc hs => K .next loc hs)
    | _ => False)
  | .AugAssign t op e _ => augS X sc (ev false) t op e loc hs K
  | .If t a b _ => ev false t loc hs fun v hs => truthV v hs fun c => br c (exL rec a loc hs K) (exL rec b loc hs K)
  | .While t body els _ => need els.isEmpty (∃ n, whileN (fun loc hs k => ev false t loc hs fun v hs => truthV v hs fun c => k c hs) (exL rec body) K n loc hs)
  | .For t it body els _ => need els.isEmpty (need (notSet it) (iterE (fun e => ev false e loc) (enumOf X sc) t it hs fun xs g hs => forL (fun d loc hs k => asg sc (ev false) t (.d d) loc hs k) (exL rec body) g K xs loc hs))
  | _ => False
noncomputable def evS (X : PX) (sc : Names) (rm : Bool) (ev : Bool → Expr → Loc → Hs → KE → Prop) : Nat → RecS
  | 0 => fun _ _ _ _ => False
  | n + 1 => stepS X sc rm ev (evS X sc rm ev n)

/-! ### calls -/
noncomputable def zipA : List Str → List V → Option Loc
  | [], [] => some []
  | x :: xs, v :: vs => optB (zipA xs vs) fun l => some ((x, v) :: l)
  | _, _ => none
noncomputable def retV : Fl → V
  | .ret v => v
  | _ => .d .none
noncomputable def depthE : Nat := 40
noncomputable def depthS : Nat := 12
noncomputable def bodyE (X : PX) (call : CallR) (rm : Bool) (F : Fn) (loc : Loc) (hs : Hs) (K : KS) : Prop :=
  exL (evS X F.scope.names rm (fun m e => evE X call depthE F.scope.names m e) depthS) F.body loc hs K
noncomputable def noFree : Names → Bool
  | [] => true
  | p :: r => !isFr p.2 && noFree r
noncomputable def okParams (ns : Names) : List Str → Bool
  | [] => true
  | x :: r => storable (sLook x ns) && okParams ns r
noncomputable def nodupS : List Str → Bool
  | [] => true
  | x :: r => !sMem x r && nodupS r
noncomputable def okFn (F : Fn) (ns : List Str) : Bool := nodupS ns && isFn? F.scope.kind && !F.scope.isCoroutine && !F.scope.isGenerator && noFree F.scope.names && nodupN F.scope.names && noDebug F.scope.names && okParams F.scope.names ns
noncomputable def noCall : CallR := fun _ _ _ _ _ _ => False
noncomputable def okWrap (W : WrapP) (sc : Names) (loc : Loc) : Bool :=
  okComp sc W.lsc && locK (sLook W.wn sc) && (sLook W.wn loc).isNone && locK (sLook W.xn W.lsc.names) && okArgsE [W.inner] && okArgsE [W.ea] && okBase W.o && Nat.beq W.ap.endLine W.cp.line
/-- such a method's body -/
noncomputable def wrapB (X : PX) (call : CallR) (rm : Bool) (W : WrapP) (sc : Names) (loc : Loc) (hs : Hs) (K : KS) : Prop := need (okWrap W sc loc) <|
  evE X call depthE sc false W.e1 loc hs fun v1 hs => evE X call depthE sc false W.o loc hs fun ov hs => optP (tgOf X ov W.x hs) fun t => evE X call depthE sc false W.ea loc hs fun v hs =>
  evE X noCall depthE W.lsc.names false W.lb ((W.xn, v) :: dropNames W.lsc.names loc) hs fun u hs => callTg call false t [u] hs fun w hs =>
  evE X call depthE sc false W.e2 loc hs fun z hs => binOpV .LShift false w z hs fun y hs => binOpV .Add rm v1 y hs fun r hs => K (.ret r) loc hs
noncomputable def wrapOf (X : PX) (b : Bool) (x : Str) : Option WrapP := optB X.wrap fun W => noB (!(b && sEq x W.fn)) (some W)
noncomputable def bodyW (X : PX) (call : CallR) (rm : Bool) (W : Option WrapP) (F : Fn) (loc : Loc) (hs : Hs) (K : KS) : Prop := match W with
  | some W => wrapB X call rm W F.scope.names loc hs K
  | none => bodyE X call rm F loc hs K
/-- what is left of the lists that a call made -/
noncomputable def retC (cu : Bool) (n : Nat) (v : V) (hs : Hs) (K : KE) : Prop := match cu with
  | true => optP v.d? fun x => need hs.mp.isNone (K (.d x) ⟨hs.hp.take n, none⟩)
  | false => K v hs
noncomputable def callN (X : PX) : Nat → CallR
  | 0 => fun _ _ _ _ _ _ => False
  | n + 1 => fun m b x vs hs K => optP (fnOf X b x) fun F => optP (argNs F.args) fun ns => optP (zipA ns vs) fun loc =>
    need (okFn F ns) (bodyW X (callN X n) m (wrapOf X b x) F loc hs fun f _ hs' => retC (!b && sMem x X.cuts) hs.hp.length (retV f) hs' K)
end Mine
set_option genSizeOf false
set_option genInjectivity false
set_option maxRecDepth 100000
namespace Mine
open PySem PySem.W PySem.Calls PyProof.Rows

/-! ## how the plain values stand in the heap -/
/-- where the one def that makes a lambda keeps its code and its table -/
structure WrapI where
  cc : Addr
  tb : Addr
  pos : Pos
  qual : Str
structure Stat where
  wrap : Option WrapI
  P : Program
  w : World
  X : PX
  G₀ : Addr → Option Obj
  fa : Bool → Str → Option Addr
  ca : Addr
  os : OsState
structure Cn where
  G : Addr → Option Obj
  ρ : List Addr
  mx : Option (Addr × Addr)
noncomputable def Sub (G : Addr → Option Obj) (h : Heap) : Prop := ∀ b o, G b = some o → h.get? b = some o
noncomputable abbrev listO (vs : List Value) (n : Nat) : Obj := ⟨.type "list", none, .seq vs.toArray n, #[]⟩
noncomputable abbrev tupO (vs : List Value) (n : Nat) : Obj := ⟨.type "tuple", none, .seq vs.toArray n, #[]⟩
noncomputable def biV : Bi → Value
  | .range => .type "range"
  | .enum => .type "enumerate"
  | b => .builtin b.id

inductive RSeq (G : Addr → Option Obj) (m : List Value → Nat → Obj) (R : List Value → Prop) (v : Value) : Prop
  | mk (a : Addr) (vs : List Value) (n : Nat) (e : v = .ref a) (g : G a = some (m vs n)) (r : R vs) : RSeq G m R v
inductive RMeth (Z : Stat) (c : Cn) (x : Str) (v : Value) : Prop
  | mk (a f q d : Addr) (e : v = .ref a) (e2 : Z.fa true x = some f) (e3 : c.mx = some (q, d)) (g : c.G a = some (methodObj (.ref f) (.ref q))) : RMeth Z c x v
inductive RMpu (c : Cn) (v : Value) : Prop
  | mk (q d : Addr) (e : v = .ref q) (e3 : c.mx = some (q, d)) : RMpu c v
inductive RRng (G : Addr → Option Obj) (n : Int) (v : Value) : Prop
  | mk (a : Addr) (t u x : Tok) (e : v = .ref a) (g : G a = some { cls := .type "range", dict := none, data := .fields #[.int 0 t, .int n u, .int 1 x], slots := #[] }) : RRng G n v
inductive RArg (G : Addr → Option Obj) (xs : List Int) (v : Value) : Prop
  | mk (a : Addr) (o : Obj) (vs : Array Value) (n : Nat) (e : v = .ref a) (g : G a = some o) (r1 : o.cls = .type "list") (r2 : o.data = .seq vs n) (r3 : IntsAre vs.toList xs) : RArg G xs v
inductive RDict (Z : Stat) (G : Addr → Option Obj) (R : List (Int × Value) → Prop) (v : Value) : Prop
  | mk (a : Addr) (o : Obj) (kvs : List (Int × Value)) (e : v = .ref a) (g : G a = some o) (i : o.IsDictOf (intKind Z.P Z.w) kvs) (r : R kvs) : RDict Z G R v
inductive RCons {α : Type} (P : α → Prop) (R : List α → Prop) (vs : List α) : Prop
  | mk (v : α) (r : List α) (e : vs = v :: r) (h1 : P v) (h2 : R r) : RCons P R vs
inductive RKey (k : Int) (P : Value → Prop) (R : List (Int × Value) → Prop) (kvs : List (Int × Value)) : Prop
  | mk (v : Value) (r : List (Int × Value)) (e : kvs = (k, v) :: r) (h1 : P v) (h2 : R r) : RKey k P R kvs
inductive RLoc (ρ : List Addr) (n : Nat) (v : Value) : Prop
  | mk (a : Addr) (h : ρ[n]? = some a) (e : v = .ref a) : RLoc ρ n v
mutual
noncomputable def RepD (Z : Stat) (c : Cn) : D → Value → Prop
  | .none, v => v = .none
  | .bool b, v => v = .bool b
  | .int i, v => ∃ t, v = .int i t
  | .str x, v => ∃ t, v = .str x t
  | .tup xs, v => RSeq c.G tupO (fun vs => RepDs Z c xs vs) v
  | .list xs, v => RSeq c.G listO (fun vs => RepDs Z c xs vs) v
  | .ints xs, v => RSeq c.G listO (fun vs => IntsAre vs xs) v
  | .fn m x, v => ∃ a, v = .ref a ∧ Z.fa m x = some a
  | .meth x, v => RMeth Z c x v
  | .bi b, v => v = biV b
  | .cls, v => v = .ref Z.ca
  | .mpu, v => RMpu c v
  | .rng n, v => RRng c.G n v
  | .arg xs, v => RArg c.G xs v
  | .dict xs, v => RDict Z c.G (fun kvs => RepKs Z c xs kvs) v
noncomputable def RepKs (Z : Stat) (c : Cn) : List (Int × D) → List (Int × Value) → Prop
  | [], kvs => kvs = []
  | (k, x) :: xs, kvs => RKey k (fun v => RepD Z c x v) (fun r => RepKs Z c xs r) kvs
noncomputable def RepDs (Z : Stat) (c : Cn) : List D → List Value → Prop
  | [], vs => vs = []
  | x :: xs, vs => RCons (fun v => RepD Z c x v) (fun r => RepDs Z c xs r) vs
end
noncomputable def RepV (Z : Stat) (c : Cn) : V → Value → Prop
  | .d x, v => RepD Z c x v
  | .loc n, v => RLoc c.ρ n v
noncomputable def RepF (Z : Stat) (c : Cn) : Fl → Flow → Prop
  | .next, f => f = .next
  | .brk, f => f = .brk
  | .cont, f => f = .cont
  | .ret V, f => ∃ v, f = .ret v ∧ RepV Z c V v
noncomputable def RepVs (Z : Stat) (c : Cn) : List V → List Value → Prop
  | [], vs => vs = []
  | x :: xs, vs => RCons (fun v => RepV Z c x v) (fun r => RepVs Z c xs r) vs

structure Cn.le (c c' : Cn) : Prop where
  g : ∀ (b : Addr) (o : Obj), c.G b = some o → c'.G b = some o
  ρ : ∀ (n : Nat) (a : Addr), c.ρ[n]? = some a → c'.ρ[n]? = some a
  mx : ∀ p, c.mx = some p → c'.mx = some p
theorem Cn.le.refl (c : Cn) : c.le c := ⟨fun _ _ h => h, fun _ _ h => h, fun _ h => h⟩
theorem Cn.le.trans {a b c : Cn} (x : a.le b) (y : b.le c) : a.le c := ⟨fun p o h => y.g p o (x.g p o h), fun p o h => y.ρ p o (x.ρ p o h), fun p h => y.mx p (x.mx p h)⟩

structure Cn.leG (c c' : Cn) : Prop where
  g : ∀ (b : Addr) (o : Obj), c.G b = some o → c'.G b = some o
  mx : ∀ p, c.mx = some p → c'.mx = some p
theorem Cn.le.toG {c c' : Cn} (l : c.le c') : c.leG c' := ⟨l.g, l.mx⟩
mutual
theorem RepD.monoG {Z : Stat} {c c' : Cn} (l : c.leG c') : ∀ (x : D) (v : Value), RepD Z c x v → RepD Z c' x v
  | .none, v, h => h
  | .bool b, v, h => h
  | .int i, v, h => h
  | .str i, v, h => h
  | .tup xs, v, h => by
    obtain ⟨a, vs, n, e, g, r⟩ := h
    exact ⟨a, vs, n, e, l.g _ _ g, RepDs.monoG l xs vs r⟩
  | .list xs, v, h => by
    obtain ⟨a, vs, n, e, g, r⟩ := h
    exact ⟨a, vs, n, e, l.g _ _ g, RepDs.monoG l xs vs r⟩
  | .ints xs, v, h => by
    obtain ⟨a, vs, n, e, g, r⟩ := h
    exact ⟨a, vs, n, e, l.g _ _ g, r⟩
  | .fn m x, v, h => h
  | .meth x, v, h => by
    obtain ⟨a, f, q, d, e, e2, e3, g⟩ := h
    exact ⟨a, f, q, d, e, e2, l.mx _ e3, l.g _ _ g⟩
  | .bi b, v, h => h
  | .cls, v, h => h
  | .mpu, v, h => by
    obtain ⟨q, d, e, e3⟩ := h
    exact ⟨q, d, e, l.mx _ e3⟩
  | .rng n, v, h => by
    obtain ⟨a, t, u, x, e, g⟩ := h
    exact ⟨a, t, u, x, e, l.g _ _ g⟩
  | .arg xs, v, h => by
    obtain ⟨a, o, vs, n, e, g, r1, r2, r3⟩ := h
    exact ⟨a, o, vs, n, e, l.g _ _ g, r1, r2, r3⟩
  | .dict xs, v, h => by
    obtain ⟨a, o, kvs, e, g, i, r⟩ := h
    exact ⟨a, o, kvs, e, l.g _ _ g, i, RepKs.monoG l xs kvs r⟩
theorem RepKs.monoG {Z : Stat} {c c' : Cn} (l : c.leG c') : ∀ (xs : List (Int × D)) (kvs : List (Int × Value)), RepKs Z c xs kvs → RepKs Z c' xs kvs
  | [], vs, h => h
  | (k, x) :: xs, vs, h => by
    obtain ⟨v, r, e, h1, h2⟩ := h
    exact ⟨v, r, e, RepD.monoG l x v h1, RepKs.monoG l xs r h2⟩
theorem RepDs.monoG {Z : Stat} {c c' : Cn} (l : c.leG c') : ∀ (xs : List D) (vs : List Value), RepDs Z c xs vs → RepDs Z c' xs vs
  | [], vs, h => h
  | x :: xs, vs, h => by
    obtain ⟨v, r, e, h1, h2⟩ := h
    exact ⟨v, r, e, RepD.monoG l x v h1, RepDs.monoG l xs r h2⟩
end
theorem RepD.mono {Z : Stat} {c c' : Cn} (l : c.le c') (x : D) (v : Value) (h : RepD Z c x v) : RepD Z c' x v := RepD.monoG l.toG x v h
theorem RepDs.mono {Z : Stat} {c c' : Cn} (l : c.le c') (xs : List D) (vs : List Value) (h : RepDs Z c xs vs) : RepDs Z c' xs vs := RepDs.monoG l.toG xs vs h
theorem look_cons {k i : Int} {x : D} {xs : List (Int × D)} : ((k, x) :: xs).lookup i = if k = i then some x else xs.lookup i := by
  rw [List.lookup_cons]
  by_cases q : k = i
  · rw [if_pos q, q, beq_self_eq_true]
  · rw [if_neg q, beq_false_of_ne (Ne.symm q)]
theorem valueAt_cons {k i : Int} {x : Value} {xs : List (Int × Value)} : valueAt ((k, x) :: xs) i = if k = i then some x else valueAt xs i := by
  unfold valueAt
  rw [List.find?_cons]
  by_cases q : k = i
  · rw [if_pos q, decide_eq_true q]; rfl
  · rw [if_neg q, decide_eq_false q]
theorem RepKs.lookup {Z : Stat} {c : Cn} {i : Int} {d : D} : ∀ {xs : List (Int × D)} {kvs : List (Int × Value)}, RepKs Z c xs kvs → xs.lookup i = some d → ∃ v, valueAt kvs i = some v ∧ RepD Z c d v
  | [], kvs, h, e => none_some e
  | (k, x) :: xs, kvs, h, e => by
    obtain ⟨v, r, rfl, h1, h2⟩ := h
    rw [look_cons] at e
    rw [valueAt_cons]
    by_cases q : k = i
    · rw [if_pos q] at e ⊢
      exact ⟨v, rfl, some_eq e ▸ h1⟩
    · rw [if_neg q] at e ⊢
      exact RepKs.lookup h2 e
theorem RepV.mono {Z : Stat} {c c' : Cn} (l : c.le c') : ∀ {x : V} {v : Value}, RepV Z c x v → RepV Z c' x v
  | .d x, v, h => RepD.mono l x v h
  | .loc n, v, h => by
    obtain ⟨a, e, r⟩ := h
    exact ⟨a, l.ρ _ _ e, r⟩
theorem RepVs.mono {Z : Stat} {c c' : Cn} (l : c.le c') : ∀ {xs : List V} {vs : List Value}, RepVs Z c xs vs → RepVs Z c' xs vs
  | [], vs, h => h
  | x :: xs, vs, h => by
    obtain ⟨v, r, e, h1, h2⟩ := h
    exact ⟨v, r, e, h1.mono l, RepVs.mono l h2⟩
theorem RepF.mono {Z : Stat} {c c' : Cn} (l : c.le c') : ∀ {x : Fl} {v : Flow}, RepF Z c x v → RepF Z c' x v
  | .next, _, h => h
  | .brk, _, h => h
  | .cont, _, h => h
  | .ret V, _, h => by
    obtain ⟨v, e, r⟩ := h
    exact ⟨v, e, r.mono l⟩
theorem RepDs.length {Z : Stat} {c : Cn} : ∀ {xs : List D} {vs : List Value}, RepDs Z c xs vs → xs.length = vs.length
  | [], vs, h => by obtain rfl : vs = [] := h; rfl
  | x :: xs, vs, h => by
    obtain ⟨v, r, rfl, h1, h2⟩ := h
    exact congrArg Nat.succ (RepDs.length h2)
theorem RepDs.get {Z : Stat} {c : Cn} : ∀ {xs : List D} {vs : List Value}, RepDs Z c xs vs → ∀ n, n < xs.length → ∃ v, vs[n]? = some v ∧ RepD Z c (xs.getD n .none) v
  | [], vs, h, n, hn => absurd hn (Nat.not_lt_zero n)
  | x :: xs, vs, h, n, hn => by
    obtain ⟨v, r, rfl, h1, h2⟩ := h
    cases n with
    | zero => exact ⟨v, rfl, h1⟩
    | succ n => exact RepDs.get h2 n (Nat.lt_of_succ_lt_succ hn)
inductive IA : List Value → List Int → Prop
  | nil : IA [] []
  | cons {i : Int} {t : Tok} {vs : List Value} {xs : List Int} : IA vs xs → IA (.int i t :: vs) (i :: xs)
theorem isI_eq {v : Value} {j : Int} (h : isI v j) : ∃ t, v = .int j t := by
  cases v with
  | int i t => exact ⟨t, (h : i = j) ▸ rfl⟩
  | _ => exact False.elim h
theorem ia_of : ∀ {vs : List Value} {xs : List Int}, IntsAre vs xs → IA vs xs
  | [], [], _ => .nil
  | [], _ :: _, h => h.elim
  | _ :: _, [], h => h.elim
  | _ :: vs, _ :: xs, h => let ⟨_, e⟩ := isI_eq h.1; e ▸ .cons (ia_of (vs := vs) (xs := xs) h.2)
theorem of_ia {vs : List Value} {xs : List Int} (h : IA vs xs) : IntsAre vs xs := by
  induction h with
  | nil => trivial
  | cons _ ih => exact ⟨rfl, ih⟩
theorem IntsAre.length' {vs : List Value} {xs : List Int} (h : IntsAre vs xs) : xs.length = vs.length := ints_length h
/-- the same, read another way -/
theorem ints_reps {Z : Stat} {c : Cn} {xs : List Int} {vs : List Value} (h : IA vs xs) : RepDs Z c (xs.map .int) vs := by
  induction h with
  | nil => rfl
  | cons _ ih => exact ⟨_, _, rfl, ⟨_, rfl⟩, ih⟩
theorem reps_ints {Z : Stat} {c : Cn} : ∀ {xs : List Int} {vs : List Value}, RepDs Z c (xs.map .int) vs → IntsAre vs xs
  | [], vs, h => by obtain rfl : vs = [] := h; trivial
  | x :: xs, vs, h => by
    obtain ⟨v, r, rfl, ⟨t, rfl⟩, h⟩ := h
    exact ⟨rfl, reps_ints h⟩
theorem ints_iff {Z : Stat} {c : Cn} {xs : List Int} {vs : List Value} : IntsAre vs xs ↔ RepDs Z c (xs.map .int) vs := ⟨fun h => ints_reps (ia_of h), reps_ints⟩
theorem toInts_spec : ∀ {ds : List D} {is : List Int}, toInts ds = some is → ds = is.map .int
  | [], is, h => some_eq h ▸ rfl
  | d :: ds, is, h => by
    obtain ⟨i, e, h⟩ := optB_iff h
    obtain ⟨l, e2, h⟩ := optB_iff h
    rw [D.int_eq e, toInts_spec e2, ← some_eq h, List.map_cons]
/-- a list's parts, as they stand -/
noncomputable def ListAs (Z : Stat) (c : Cn) : D → List Value → Prop
  | .ints xs, vs => IntsAre vs xs
  | .list xs, vs => RepDs Z c xs vs
  | _, _ => False
theorem mkList_as {Z : Stat} {c : Cn} {ds : List D} {vs : List Value} (h : RepDs Z c ds vs) : ListAs Z c (mkList ds) vs := by
  unfold mkList
  cases e : toInts ds with
  | some l => rw [toInts_spec e] at h; exact reps_ints h
  | none => exact h
theorem ListAs.mono {Z : Stat} {c c' : Cn} (l : c.le c') {x : D} {vs : List Value} (h : ListAs Z c x vs) : ListAs Z c' x vs := by
  cases x <;> first | exact h | exact RepDs.mono l _ _ h
theorem ListAs.rep {Z : Stat} {c : Cn} {x : D} {vs : List Value} (h : ListAs Z c x vs) {a : Addr} {n : Nat} (e : c.G a = some (listO vs n)) : RepD Z c x (.ref a) := by
  cases x <;> first | exact h.elim | exact ⟨a, vs, n, rfl, e, h⟩

/-! ### the heap's parts that may change, and those that may not -/
inductive isObj (Z : Stat) (c : Cn) (x : D) (o : Obj) : Prop
  | mk (vs : List Value) (n : Nat) (e : o = listO vs n) (r : ListAs Z c x vs) : isObj Z c x o
inductive FldEnts (Z : Stat) (c : Cn) : List DictEntry → Loc → Prop
  | nil : FldEnts Z c [] []
  | cons {e : DictEntry} {es : List DictEntry} {x : Str} {t : Tok} {u : V} {f : Loc} : e.key = .str x t → RepV Z c u e.val → FldEnts Z c es f → FldEnts Z c (e :: es) ((x, u) :: f)
inductive isFld (Z : Stat) (c : Cn) (f : Loc) (o : Obj) : Prop
  | mk (es : List DictEntry) (n : Nat) (e : o = dictOf es n) (r : FldEnts Z c es f) : isFld Z c f o
theorem FldEnts.mono {Z : Stat} {c c' : Cn} (l : c.le c') {es : List DictEntry} {f : Loc} (h : FldEnts Z c es f) : FldEnts Z c' es f := by
  induction h with
  | nil => exact .nil
  | cons a b _ ih => exact .cons a (b.mono l) ih
theorem isObj.mono {Z : Stat} {c c' : Cn} (l : c.le c') {x : D} {o : Obj} (h : isObj Z c x o) : isObj Z c' x o := let ⟨vs, n, e, r⟩ := h; ⟨vs, n, e, r.mono l⟩
theorem isFld.mono {Z : Stat} {c c' : Cn} (l : c.le c') {f : Loc} {o : Obj} (h : isFld Z c f o) : isFld Z c' f o := let ⟨vs, n, e, r⟩ := h; ⟨vs, n, e, r.mono l⟩

noncomputable abbrev Led := List (Addr × (Obj → Prop))
noncomputable def Led.At (l : Led) (h : Heap) : Prop := ∀ p ∈ l, ∃ o, h.get? p.1 = some o ∧ p.2 o
noncomputable def objLed (Z : Stat) (c : Cn) : List Addr → List D → Led
  | a :: r, x :: xs => (a, isObj Z c x) :: objLed Z c r xs
  | _, _ => []
/-- the table of that code: empty, or with the lambda's code -/
inductive isTab (w : WrapI) (c : Cn) (o : Obj) : Prop
  | nil (e : o = { cls := .none, data := .fields #[] }) : isTab w c o
  | one (c' : Addr) (oc : Obj) (vs : Array Value) (t : Tok) (e : o = { cls := .none, data := .fields #[rawInt w.pos.line, rawInt w.pos.col, .ref c'] }) (g : c.G c' = some oc) (d : oc.data = .fields vs) (q : vs[1]? = some (.str w.qual t)) : isTab w c o
theorem isTab.mono {w : WrapI} {c c' : Cn} (l : c.le c') {o : Obj} (h : isTab w c o) : isTab w c' o := by
  cases h with
  | nil e => exact .nil e
  | one c' oc vs t e g d q => exact .one c' oc vs t e (l.g _ _ g) d q
theorem isTab.monoG {w : WrapI} {c c' : Cn} (l : c.leG c') {o : Obj} (h : isTab w c o) : isTab w c' o := by
  cases h with
  | nil e => exact .nil e
  | one c' oc vs t e g d q => exact .one c' oc vs t e (l.g _ _ g) d q
noncomputable def tabLed (w : Option WrapI) (c : Cn) : Led := match w with
  | some w => [(w.tb, isTab w c)]
  | none => []
noncomputable def mpLed0 (Z : Stat) (c : Cn) (mx : Option (Addr × Addr)) (mp : Option Loc) : Led := match mx, mp with
  | some (_, d), some f => [(d, isFld Z c f)]
  | none, none => []
  | _, _ => [(0, fun _ => False)]
noncomputable def mpLed (Z : Stat) (c : Cn) (mx : Option (Addr × Addr)) (mp : Option Loc) : Led := tabLed Z.wrap c ++ mpLed0 Z c mx mp
noncomputable def ledOf (Z : Stat) (c : Cn) (hs : Hs) : Led := mpLed Z c c.mx hs.mp ++ objLed Z c c.ρ hs.hp
/-- the made object stands among what never changes -/
noncomputable def InstG (Z : Stat) (c : Cn) : Prop := ∀ q d, c.mx = some (q, d) → ∃ sl, c.G q = some ⟨.ref Z.ca, some d, .plain, sl⟩
structure Core (Z : Stat) (Kp : Addr → Option Obj) (c : Cn) (hs : Hs) (s : Shared) : Prop where
  base : ∀ b o, Z.G₀ b = some o → c.G b = some o
  sub : Sub c.G s.heap
  kp : Sub Kp s.heap
  dis : ∀ b o, Kp b = some o → c.G b = none
  len : c.ρ.length = hs.hp.length
  led : (ledOf Z c hs).At s.heap
  apart : ((ledOf Z c hs).map (·.1)).Nodup
  free : ∀ p ∈ ledOf Z c hs, c.G p.1 = none ∧ Kp p.1 = none
  inst : InstG Z c
  gens : s.gens = #[]
  os : s.os = Z.os
end Mine
set_option genSizeOf false
set_option genInjectivity false
set_option maxRecDepth 100000
namespace Mine
open PySem PySem.W PySem.Calls PyProof.Rows

noncomputable def Cn.addG (c : Cn) (a : Addr) (o : Obj) : Cn := { c with G := fun b => if b = a then some o else c.G b }
noncomputable def Cn.addL (c : Cn) (a : Addr) : Cn := { c with ρ := c.ρ ++ [a] }
noncomputable def updK (K : Addr → Option Obj) (a : Addr) (o : Obj) : Addr → Option Obj := fun b => if b = a then some o else K b
theorem no2 {α : Type} {x : Option α} {o : α} {P : Prop} (h : x = none) (e : x = some o) : P := none_some (h.symm.trans e)
theorem ne_of {α : Type} {K : Addr → Option α} {a b : Addr} {o : α} (h : K a = none) (e : K b = some o) : b ≠ a := fun q => no2 (q ▸ h) e
theorem upd_ne {K : Addr → Option Obj} {a b : Addr} {o : Obj} (h : b ≠ a) : (if b = a then some o else K b) = K b := if_neg h
theorem upd_some {K : Addr → Option Obj} {a b : Addr} {o o' : Obj} {P : Prop} (e : (if b = a then some o else K b) = some o') (h1 : b = a → o = o' → P) (h2 : b ≠ a → K b = some o' → P) : P := by
  by_cases q : b = a
  · rw [if_pos q] at e; exact h1 q (some_eq e)
  · rw [if_neg q] at e; exact h2 q e
theorem Cn.addL_le (c : Cn) (a : Addr) : c.le (c.addL a) := ⟨fun _ _ h => h, fun n b h => by
  have : n < c.ρ.length := (List.getElem?_eq_some_iff.mp h).1
  show (c.ρ ++ [a])[n]? = some b
  rw [List.getElem?_append_left this]; exact h, fun _ h => h⟩
theorem Cn.addG_le {c : Cn} {a : Addr} {o : Obj} (e : c.G a = none) : c.le (c.addG a o) := by
  exact ⟨fun b o' h => (upd_ne (ne_of e h)).trans h, fun _ _ h => h, fun _ h => h⟩
theorem Cn.addG_get (c : Cn) (a : Addr) (o : Obj) : (c.addG a o).G a = some o := if_pos rfl

theorem none_of_fresh {h : Heap} {G : Addr → Option Obj} (S : Sub G h) {a : Addr} (e : h.get? a = none) : G a = none := by
  cases q : G a with
  | none => rfl
  | some o => exact no2 e (S a o q)
theorem fresh_size (h : Heap) : h.get? h.objs.size = none := by
  cases q : h.get? h.objs.size with
  | none => rfl
  | some o => exact absurd (Heap.lt_size q) (Nat.lt_irrefl _)
theorem fresh_ge {h : Heap} {a : Addr} (ha : h.objs.size ≤ a) : h.get? a = none := by
  cases q : h.get? a with
  | none => rfl
  | some o => exact absurd (Heap.lt_size q) (Nat.not_lt.mpr ha)

inductive LedMem (Z : Stat) (c : Cn) (r : List Addr) (xs : List D) (p : Addr × (Obj → Prop)) : Prop
  | mk (n : Nat) (x : D) (e1 : r[n]? = some p.1) (e2 : xs[n]? = some x) (e3 : p.2 = isObj Z c x) : LedMem Z c r xs p
theorem objLed_mem {Z : Stat} {c : Cn} : ∀ {r : List Addr} {xs : List D} {p : Addr × (Obj → Prop)}, p ∈ objLed Z c r xs → LedMem Z c r xs p
  | [], _, _, h => nomatch h
  | _ :: _, [], _, h => nomatch h
  | a :: r, x :: xs, p, h => by
    rcases List.mem_cons.mp (show p ∈ (a, isObj Z c x) :: objLed Z c r xs from h) with rfl | h
    · exact ⟨0, x, rfl, rfl, rfl⟩
    · obtain ⟨n, y, e1, e2, e3⟩ := objLed_mem h
      exact ⟨n + 1, y, e1, e2, e3⟩
theorem objLed_of {Z : Stat} {c : Cn} : ∀ {r : List Addr} {xs : List D} {n : Nat} {a : Addr} {x : D}, r[n]? = some a → xs[n]? = some x → (a, isObj Z c x) ∈ objLed Z c r xs
  | b :: r, y :: xs, 0, a, x, h1, h2 => by cases h1; cases h2; exact .head _
  | b :: r, y :: xs, n + 1, a, x, h1, h2 => .tail _ (objLed_of (n := n) h1 h2)
  | [], _, _, _, _, h1, _ => nomatch h1
  | _ :: _, [], _, _, _, _, h2 => nomatch h2
theorem objLed_addr {Z : Stat} {c : Cn} : ∀ {r : List Addr} {xs : List D}, r.length = xs.length → (objLed Z c r xs).map (·.1) = r
  | [], [], _ => rfl
  | a :: r, x :: xs, h => congrArg (a :: ·) (objLed_addr (Nat.succ.inj h))
  | [], _ :: _, h => nomatch h
  | _ :: _, [], h => nomatch h
theorem objLed_snoc {Z : Stat} {c : Cn} {a : Addr} {x : D} : ∀ {r : List Addr} {xs : List D}, r.length = xs.length → objLed Z c (r ++ [a]) (xs ++ [x]) = objLed Z c r xs ++ [(a, isObj Z c x)]
  | [], [], _ => rfl
  | b :: r, y :: xs, h => congrArg ((b, isObj Z c y) :: ·) (objLed_snoc (r := r) (xs := xs) (Nat.succ.inj h))
  | [], _ :: _, h => nomatch h
  | _ :: _, [], h => nomatch h
theorem tabLed_addr {w : Option WrapI} {c c' : Cn} : (tabLed w c).map (·.1) = (tabLed w c').map (·.1) := by cases w <;> rfl
theorem tabLed_at {w : Option WrapI} {c c' : Cn} {h h' : Heap} (l : c.leG c') (k : ∀ p ∈ tabLed w c, ∀ o, h.get? p.1 = some o → h'.get? p.1 = some o) (A : Led.At (tabLed w c) h) : Led.At (tabLed w c') h' := by
  cases w with
  | none => exact fun p hp => nomatch hp
  | some w =>
    intro p hp
    obtain rfl := List.mem_singleton.mp hp
    obtain ⟨o, e, f⟩ := A _ (.head _)
    exact ⟨o, k _ (.head _) o e, f.monoG l⟩
theorem mpLed_addr {Z : Stat} {c c' : Cn} {mx : Option (Addr × Addr)} {mp mp' : Option Loc} (h : mp.isSome = mp'.isSome) : (mpLed Z c mx mp).map (·.1) = (mpLed Z c' mx mp').map (·.1) := by
  unfold mpLed
  rw [List.map_append, List.map_append, tabLed_addr (c' := c')]
  cases mx <;> cases mp <;> cases mp' <;> first | rfl | exact nomatch h
theorem mpLed0_at {Z : Stat} {c c' : Cn} {mx : Option (Addr × Addr)} {mp : Option Loc} {h h' : Heap} (l : c.le c') (k : ∀ p ∈ mpLed0 Z c mx mp, ∀ o, h.get? p.1 = some o → h'.get? p.1 = some o) (A : Led.At (mpLed0 Z c mx mp) h) : Led.At (mpLed0 Z c' mx mp) h' := by
  have no : ∀ {l : Led}, Led.At [((0 : Addr), fun _ => False)] h → Led.At l h' := fun A => let ⟨_, _, f⟩ := A _ (.head _); f.elim
  cases mx with
  | none => cases mp with
    | none => exact fun p hp => nomatch hp
    | some f => exact no A
  | some q => cases mp with
    | none => exact no A
    | some f =>
      intro p hp
      obtain rfl := List.mem_singleton.mp hp
      obtain ⟨o, e, f⟩ := A _ (.head _)
      exact ⟨o, k _ (.head _) o e, f.mono l⟩
theorem Led.at_append {l₁ l₂ : Led} {h : Heap} (a : l₁.At h) (b : l₂.At h) : Led.At (l₁ ++ l₂) h := fun p hp => (List.mem_append.mp hp).elim (a p) (b p)
theorem Led.at_l {l₁ l₂ : Led} {h : Heap} (a : Led.At (l₁ ++ l₂) h) : l₁.At h := fun p hp => a p (List.mem_append_left _ hp)
theorem Led.at_r {l₁ l₂ : Led} {h : Heap} (a : Led.At (l₁ ++ l₂) h) : l₂.At h := fun p hp => a p (List.mem_append_right _ hp)
theorem mpLed_at {Z : Stat} {c c' : Cn} {mx : Option (Addr × Addr)} {mp : Option Loc} {h h' : Heap} (l : c.le c') (k : ∀ p ∈ mpLed Z c mx mp, ∀ o, h.get? p.1 = some o → h'.get? p.1 = some o) (A : Led.At (mpLed Z c mx mp) h) : Led.At (mpLed Z c' mx mp) h' :=
  Led.at_append (tabLed_at l.toG (fun p hp => k p (List.mem_append_left _ hp)) (Led.at_l A)) (mpLed0_at l (fun p hp => k p (List.mem_append_right _ hp)) (Led.at_r A))
theorem objLed_at {Z : Stat} {c c' : Cn} {r : List Addr} {xs : List D} {h h' : Heap} (l : c.le c') (k : ∀ a ∈ r, ∀ o, h.get? a = some o → h'.get? a = some o) (A : Led.At (objLed Z c r xs) h) : Led.At (objLed Z c' r xs) h' := by
  intro p hp
  obtain ⟨n, x, e1, e2, e3⟩ := objLed_mem hp
  obtain ⟨o, e, f⟩ := A _ (objLed_of (c := c) e1 e2)
  exact ⟨o, k _ (List.mem_of_getElem? e1) o e, by rw [e3]; exact f.mono l⟩

section
variable {Z : Stat} {Kp : Addr → Option Obj} {c : Cn} {hs : Hs} {s : Shared} {h' : Heap} {tk : Nat}
theorem Core.addr (C : Core Z Kp c hs s) : (ledOf Z c hs).map (·.1) = (mpLed Z c c.mx hs.mp).map (·.1) ++ c.ρ := by
  unfold ledOf
  rw [List.map_append, objLed_addr C.len]
theorem Core.atM (C : Core Z Kp c hs s) : Led.At (mpLed Z c c.mx hs.mp) s.heap := fun p hp => C.led p (List.mem_append_left _ hp)
theorem Core.atL (C : Core Z Kp c hs s) : Led.At (objLed Z c c.ρ hs.hp) s.heap := fun p hp => C.led p (List.mem_append_right _ hp)
theorem Core.freeR (C : Core Z Kp c hs s) {a : Addr} (ha : a ∈ c.ρ) : c.G a = none ∧ Kp a = none := by
  have : a ∈ (ledOf Z c hs).map (·.1) := by rw [C.addr]; exact List.mem_append_right _ ha
  obtain ⟨p, hp, rfl⟩ := List.mem_map.mp this
  exact C.free p hp
theorem Core.keepTo (C : Core Z Kp c hs s) (k : ∀ b o, s.heap.get? b = some o → h'.get? b = some o) : Core Z Kp c hs { s with heap := h', toks := tk } where
  base := C.base
  sub := fun b o e => k b o (C.sub b o e)
  kp := fun b o e => k b o (C.kp b o e)
  dis := C.dis
  len := C.len
  led := Led.at_append (mpLed_at (.refl c) (fun p _ o e => k p.1 o e) C.atM) (objLed_at (.refl c) (fun a _ o e => k a o e) C.atL)
  apart := C.apart
  free := C.free
  inst := C.inst
  gens := C.gens
  os := C.os
theorem Core.toks (C : Core Z Kp c hs s) : Core Z Kp c hs { s with toks := tk } := C.keepTo fun _ _ e => e
theorem free_map {l l' : Led} {P : Addr → Prop} (h : l'.map (·.1) = l.map (·.1)) (f : ∀ p ∈ l, P p.1) : ∀ p ∈ l', P p.1 := fun p hp => by
  have hm : p.1 ∈ l'.map (·.1) := List.mem_map_of_mem hp
  rw [h] at hm
  obtain ⟨q, hq, e⟩ := List.mem_map.mp hm
  exact e ▸ f q hq
theorem Core.notIn (C : Core Z Kp c hs s) {a : Addr} (fr : s.heap.get? a = none) {p : Addr × (Obj → Prop)} (hp : p ∈ ledOf Z c hs) : p.1 ≠ a := fun q =>
  let ⟨_, e', _⟩ := C.led p hp
  no2 (q ▸ fr) e'
theorem Core.addrG (C : Core Z Kp c hs s) (a : Addr) (o : Obj) : (ledOf Z (c.addG a o) hs).map (·.1) = (ledOf Z c hs).map (·.1) := by
  unfold ledOf
  rw [List.map_append, List.map_append]
  exact congr (congrArg _ (mpLed_addr rfl)) ((objLed_addr C.len).trans (objLed_addr C.len).symm)
theorem addL_led (C : Core Z Kp c hs s) (a : Addr) (x : D) : ledOf Z (c.addL a) ⟨hs.hp ++ [x], hs.mp⟩ = mpLed Z (c.addL a) c.mx hs.mp ++ (objLed Z (c.addL a) c.ρ hs.hp ++ [(a, isObj Z (c.addL a) x)]) :=
  congrArg (mpLed Z (c.addL a) c.mx hs.mp ++ ·) (objLed_snoc C.len)
theorem Core.addrL (C : Core Z Kp c hs s) (a : Addr) (x : D) : (ledOf Z (c.addL a) ⟨hs.hp ++ [x], hs.mp⟩).map (·.1) = (ledOf Z c hs).map (·.1) ++ [a] := by
  rw [addL_led C, C.addr, List.map_append, List.map_append, objLed_addr C.len, mpLed_addr (Z := Z) (c := c.addL a) (c' := c) (mp' := hs.mp) rfl, List.append_assoc]
  rfl
theorem Core.lenL (C : Core Z Kp c hs s) (a : Addr) (x : D) : (c.ρ ++ [a]).length = (hs.hp ++ [x]).length := by rw [List.length_append, List.length_append, C.len]; rfl
theorem Core.atL' (C : Core Z Kp c hs s) (a : Addr) (x : D) : (c.ρ ++ [a])[hs.hp.length]? = some a := by
  rw [← C.len, List.getElem?_append_right (Nat.le_refl _), Nat.sub_self]; rfl
theorem Core.addrL1 (C : Core Z Kp c hs s) (a : Addr) (x : D) : (ledOf Z (c.addL a) ⟨hs.hp ++ [x], hs.mp⟩).map (·.1) = (ledOf Z c hs ++ [(a, fun _ => True)] : Led).map (·.1) := by
  rw [C.addrL, List.map_append]; rfl
theorem free_snoc {l : Led} {a : Addr} {P : Addr → Prop} (f : ∀ p ∈ l, P p.1) (h : P a) : ∀ p ∈ l ++ [(a, fun _ => True)], P p.1 := fun p hp =>
  (List.mem_append.mp hp).elim (f p) fun hp => by rw [List.mem_singleton.mp hp]; exact h
theorem Led.at_one {h : Heap} {a : Addr} {x : D} {vs : List Value} {n : Nat} {c c' : Cn} (e : h.get? a = some (listO vs n)) (as : ListAs Z c x vs) (l : c.le c') : Led.At [(a, isObj Z c' x)] h := fun p hp =>
  (List.mem_singleton.mp hp) ▸ ⟨_, e, vs, n, rfl, as.mono l⟩
theorem nodup_snoc {α : Type} {l : List α} {a : α} (h : l.Nodup) (n : a ∉ l) : (l ++ [a]).Nodup :=
  List.nodup_append.mpr ⟨h, List.nodup_cons.mpr ⟨(nomatch ·), List.Pairwise.nil⟩, fun b hb b' hb' q => n ((q.trans (List.mem_singleton.mp hb')) ▸ hb)⟩
/-- something new that will never change -/
theorem Core.newG (C : Core Z Kp c hs s) {a : Addr} {o : Obj} (k : ∀ b o, s.heap.get? b = some o → h'.get? b = some o) (fr : s.heap.get? a = none) (e : h'.get? a = some o) :
    Core Z Kp (c.addG a o) hs { s with heap := h', toks := tk } ∧ c.le (c.addG a o) := by
  have l : c.le (c.addG a o) := Cn.addG_le (none_of_fresh C.sub fr)
  have addr := C.addrG a o
  exact ⟨⟨fun b o' e' => l.g b o' (C.base b o' e'), fun b o' e' => upd_some e' (fun q r => q ▸ r ▸ e) fun _ e' => k b o' (C.sub b o' e'), fun b o' e' => k b o' (C.kp b o' e'), fun b o' e' => (upd_ne (ne_of fr (C.kp b o' e'))).trans (C.dis b o' e'), C.len,
    Led.at_append (mpLed_at l (fun p _ o e => k p.1 o e) C.atM) (objLed_at l (fun a _ o e => k a o e) C.atL), addr ▸ C.apart,
    free_map (P := fun b => (c.addG a o).G b = none ∧ Kp b = none) addr fun p hp => ⟨(upd_ne (C.notIn fr hp)).trans (C.free p hp).1, (C.free p hp).2⟩, fun q d e' => (C.inst q d e').imp fun sl e'' => l.g _ _ e'', C.gens, C.os⟩, l⟩
/-- a new list that may change -/
theorem Core.newL (C : Core Z Kp c hs s) {a : Addr} {x : D} {vs : List Value} {n : Nat} (k : ∀ b o, s.heap.get? b = some o → h'.get? b = some o) (fr : s.heap.get? a = none) (e : h'.get? a = some (listO vs n)) (as : ListAs Z c x vs) :
    Core Z Kp (c.addL a) ⟨hs.hp ++ [x], hs.mp⟩ { s with heap := h', toks := tk } ∧ c.le (c.addL a) ∧ RepV Z (c.addL a) (.loc hs.hp.length) (.ref a) := by
  have l := Cn.addL_le c a
  refine ⟨⟨C.base, fun b o' e' => k b o' (C.sub b o' e'), fun b o' e' => k b o' (C.kp b o' e'), C.dis, C.lenL a x, ?_, ?_, ?_, C.inst, C.gens, C.os⟩, l, a, C.atL' a x, rfl⟩
  · rw [addL_led C]
    exact Led.at_append (mpLed_at l (fun p _ o e => k p.1 o e) C.atM) (Led.at_append (objLed_at l (fun a _ o e => k a o e) C.atL) (Led.at_one e as l))
  · rw [C.addrL]
    refine nodup_snoc C.apart fun hb => ?_
    obtain ⟨p, hp, q2⟩ := List.mem_map.mp hb
    exact C.notIn fr hp q2
  · exact free_map (P := fun b => c.G b = none ∧ Kp b = none) (C.addrL1 a x) (free_snoc (P := fun b => c.G b = none ∧ Kp b = none) C.free ⟨none_of_fresh C.sub fr, none_of_fresh C.kp fr⟩)
theorem Core.nodupR (C : Core Z Kp c hs s) : c.ρ.Nodup := by
  have := C.apart
  rw [C.addr] at this
  exact (List.nodup_append.mp this).2.1
theorem objLed_set {Z : Stat} {c : Cn} {x' : D} : ∀ {r : List Addr} {xs : List D} {n : Nat} {a : Addr}, r[n]? = some a → r.Nodup → ∀ p ∈ objLed Z c r (xs.set n x'), p = (a, isObj Z c x') ∨ (p ∈ objLed Z c r xs ∧ p.1 ≠ a)
  | b :: r, y :: xs, 0, a, h1, nd, p, hp => by
    cases h1
    rcases List.mem_cons.mp (show p ∈ (b, isObj Z c x') :: objLed Z c r xs from hp) with rfl | hp
    · exact .inl rfl
    · refine .inr ⟨.tail _ hp, fun q => ?_⟩
      obtain ⟨m, x, e1, _, _⟩ := objLed_mem hp
      rw [q] at e1
      exact (List.nodup_cons.mp nd).1 (List.mem_of_getElem? e1)
  | b :: r, y :: xs, n + 1, a, h1, nd, p, hp => by
    have h1' : r[n]? = some a := h1
    rcases List.mem_cons.mp (show p ∈ (b, isObj Z c y) :: objLed Z c r (xs.set n x') from hp) with rfl | hp
    · refine .inr ⟨.head _, fun q => ?_⟩
      have q : b = a := q
      rw [← q] at h1'
      exact (List.nodup_cons.mp nd).1 (List.mem_of_getElem? h1')
    · rcases objLed_set h1' (List.nodup_cons.mp nd).2 p hp with h | ⟨h, h2⟩
      · exact .inl h
      · exact .inr ⟨.tail _ h, h2⟩
  | [], _, _, _, h1, _, _, _ => nomatch h1
  | _ :: _, [], _, _, _, _, _, hp => nomatch hp
/-- a list changed in its place -/
theorem Core.setL (C : Core Z Kp c hs s) {n : Nat} {a : Addr} {x : D} {vs : List Value} {ep : Nat} (hn : c.ρ[n]? = some a) (k : ∀ b o, b ≠ a → s.heap.get? b = some o → h'.get? b = some o) (e : h'.get? a = some (listO vs ep)) (as : ListAs Z c x vs) :
    Core Z Kp c ⟨hs.hp.set n x, hs.mp⟩ { s with heap := h', toks := tk } := by
  have ha : a ∈ c.ρ := List.mem_of_getElem? hn
  have fr := C.freeR ha
  have len' : c.ρ.length = (hs.hp.set n x).length := by rw [List.length_set]; exact C.len
  have addr : (ledOf Z c ⟨hs.hp.set n x, hs.mp⟩).map (·.1) = (ledOf Z c hs).map (·.1) := by
    rw [C.addr]; unfold ledOf; rw [List.map_append, objLed_addr len']
  have nm : ∀ p ∈ mpLed Z c c.mx hs.mp, p.1 ≠ a := fun p hp q => by
    have := C.apart
    rw [C.addr] at this
    exact (List.nodup_append.mp this).2.2 p.1 (List.mem_map_of_mem hp) a ha q
  refine ⟨C.base, fun b o' e' => k b o' (ne_of fr.1 e') (C.sub b o' e'), fun b o' e' => k b o' (ne_of fr.2 e') (C.kp b o' e'), C.dis, len', ?_, ?_, ?_, C.inst, C.gens, C.os⟩
  · refine Led.at_append (mpLed_at (.refl c) (fun p hp o e => k p.1 o (nm p hp) e) C.atM) fun p hp => ?_
    rcases objLed_set hn C.nodupR p hp with rfl | ⟨hp, hne⟩
    · exact ⟨_, e, vs, ep, rfl, as⟩
    · obtain ⟨o, e1, f⟩ := C.atL p hp
      exact ⟨o, k _ o hne e1, f⟩
  · rw [addr]; exact C.apart
  · exact free_map (P := fun b => c.G b = none ∧ Kp b = none) addr C.free
/-- the made object's fields changed -/
theorem Core.setM (C : Core Z Kp c hs s) {q d : Addr} {f f' : Loc} {o : Obj} (hm : c.mx = some (q, d)) (hf : hs.mp = some f) (k : ∀ b o, b ≠ d → s.heap.get? b = some o → h'.get? b = some o) (e : h'.get? d = some o) (as : isFld Z c f' o) :
    Core Z Kp c ⟨hs.hp, some f'⟩ { s with heap := h', toks := tk } := by
  have eM : mpLed Z c c.mx hs.mp = tabLed Z.wrap c ++ [(d, isFld Z c f)] := by rw [hm, hf]; rfl
  have eM' : mpLed Z c c.mx (some f') = tabLed Z.wrap c ++ [(d, isFld Z c f')] := by rw [hm]; rfl
  have hmem : (d, isFld Z c f) ∈ mpLed Z c c.mx hs.mp := by rw [eM]; exact List.mem_append_right _ (.head _)
  have fr : c.G d = none ∧ Kp d = none := C.free (d, isFld Z c f) (List.mem_append_left _ hmem)
  have addr : (ledOf Z c ⟨hs.hp, some f'⟩).map (·.1) = (ledOf Z c hs).map (·.1) := by
    unfold ledOf
    rw [List.map_append, List.map_append, eM, eM', List.map_append, List.map_append]
    rfl
  have ap := C.apart
  rw [C.addr] at ap
  obtain ⟨ap1, _, ap2⟩ := List.nodup_append.mp ap
  have nr : ∀ a ∈ c.ρ, a ≠ d := fun a ha q => ap2 d (List.mem_map_of_mem hmem) a ha q.symm
  rw [eM, List.map_append] at ap1
  have nt : ∀ p ∈ tabLed Z.wrap c, p.1 ≠ d := fun p hp => (List.nodup_append.mp ap1).2.2 p.1 (List.mem_map_of_mem hp) d (.head _)
  refine ⟨C.base, fun b o' e' => k b o' (ne_of fr.1 e') (C.sub b o' e'), fun b o' e' => k b o' (ne_of fr.2 e') (C.kp b o' e'), C.dis, C.len, ?_, ?_, ?_, C.inst, C.gens, C.os⟩
  · refine Led.at_append ?_ (objLed_at (.refl c) (fun a ha o e => k a o (nr a ha) e) C.atL)
    rw [eM']
    have aM := C.atM
    rw [eM] at aM
    refine Led.at_append (tabLed_at (Cn.le.refl c).toG (fun p hp o e => k p.1 o (nt p hp) e) (Led.at_l aM)) fun p hp => ?_
    rw [List.mem_singleton.mp hp]
    exact ⟨o, e, as⟩
  · rw [addr]; exact C.apart
  · exact free_map (P := fun b => c.G b = none ∧ Kp b = none) addr C.free
/-- the table grows by the code of the lambda, which is new -/
theorem Core.setT (C : Core Z Kp c hs s) {w : WrapI} (hw : Z.wrap = some w) {a : Addr} {oc o : Obj} (fr : s.heap.get? a = none) (ea : h'.get? a = some oc) (k : ∀ b o, b ≠ w.tb → s.heap.get? b = some o → h'.get? b = some o) (e : h'.get? w.tb = some o) (as : isTab w (c.addG a oc) o) :
    Core Z Kp (c.addG a oc) hs { s with heap := h', toks := tk } ∧ c.le (c.addG a oc) := by
  have l : c.le (c.addG a oc) := Cn.addG_le (none_of_fresh C.sub fr)
  have eT : tabLed Z.wrap c = [(w.tb, isTab w c)] := by rw [hw]; rfl
  have hmem : (w.tb, isTab w c) ∈ ledOf Z c hs := List.mem_append_left _ (List.mem_append_left _ (by rw [eT]; exact .head _))
  have ft := C.free _ hmem
  have nl : ∀ p ∈ mpLed0 Z c c.mx hs.mp, p.1 ≠ w.tb := fun p hp q => by
    have ap := C.apart
    rw [C.addr] at ap
    have ap1 := (List.nodup_append.mp ap).1
    unfold mpLed at ap1
    rw [eT, List.map_append] at ap1
    exact (List.nodup_append.mp ap1).2.2 w.tb (.head _) p.1 (List.mem_map_of_mem hp) q.symm
  have nr : ∀ x ∈ c.ρ, x ≠ w.tb := fun x hx q => by
    have ap := C.apart
    rw [C.addr] at ap
    have hM : (w.tb, isTab w c) ∈ mpLed Z c c.mx hs.mp := List.mem_append_left _ (by rw [eT]; exact .head _)
    exact (List.nodup_append.mp ap).2.2 w.tb (List.mem_map_of_mem hM) x hx q.symm
  have addr := C.addrG a oc
  refine ⟨⟨fun b o' e' => l.g b o' (C.base b o' e'), fun b o' e' => upd_some e' (fun q r => q ▸ r ▸ ea) fun _ e' => k b o' (ne_of ft.1 e') (C.sub b o' e'), fun b o' e' => k b o' (ne_of ft.2 e') (C.kp b o' e'), fun b o' e' => (upd_ne (ne_of fr (C.kp b o' e'))).trans (C.dis b o' e'), C.len,
    Led.at_append (Led.at_append ?_ (mpLed0_at l (fun p hp o e => k p.1 o (nl p hp) e) (Led.at_r C.atM))) (objLed_at l (fun x hx o e => k x o (nr x hx) e) C.atL), addr ▸ C.apart,
    free_map (P := fun b => (c.addG a oc).G b = none ∧ Kp b = none) addr fun p hp => ⟨(upd_ne (C.notIn fr hp)).trans (C.free p hp).1, (C.free p hp).2⟩, fun q d e' => (C.inst q d e').imp fun sl e'' => l.g _ _ e'', C.gens, C.os⟩, l⟩
  rw [hw]
  intro p hp
  rw [List.mem_singleton.mp hp]
  exact ⟨o, e, as⟩
theorem Core.tabAt (C : Core Z Kp c hs s) {w : WrapI} (hw : Z.wrap = some w) : ∃ o, s.heap.get? w.tb = some o ∧ isTab w c o := by
  have eT : tabLed Z.wrap c = [(w.tb, isTab w c)] := by rw [hw]; rfl
  exact C.led (w.tb, isTab w c) (List.mem_append_left _ (List.mem_append_left _ (by rw [eT]; exact .head _)))
/-- what is only kept -/
theorem Core.forget (C : Core Z Kp c hs s) {Kq : Addr → Option Obj} (h : ∀ b o, Kq b = some o → Kp b = some o) : Core Z Kq c hs s :=
  ⟨C.base, C.sub, fun b o e => C.kp b o (h b o e), fun b o e => C.dis b o (h b o e), C.len, C.led, C.apart, fun p hp => ⟨(C.free p hp).1, by
    cases q : Kq p.1 with
    | none => rfl
    | some o => rw [← (C.free p hp).2, h _ _ q]⟩, C.inst, C.gens, C.os⟩
theorem Core.newK (C : Core Z Kp c hs s) {a : Addr} {o : Obj} (k : ∀ b o, s.heap.get? b = some o → h'.get? b = some o) (fr : s.heap.get? a = none) (e : h'.get? a = some o) :
    Core Z (updK Kp a o) c hs { s with heap := h', toks := tk } := by
  have C' := C.keepTo (tk := tk) k
  exact ⟨C'.base, C'.sub, fun b o' e' => upd_some e' (fun q r => q ▸ r ▸ e) fun _ e' => C'.kp b o' e', fun b o' e' => upd_some e' (fun q _ => q ▸ none_of_fresh C.sub fr) fun _ e' => C.dis b o' e', C'.len, C'.led, C'.apart,
    fun p hp => ⟨(C.free p hp).1, (upd_ne (C.notIn fr hp)).trans (C.free p hp).2⟩, C'.inst, C'.gens, C'.os⟩
theorem Core.setK (C : Core Z Kp c hs s) {a : Addr} {o o₀ : Obj} (ha : Kp a = some o₀) (k : ∀ b o, b ≠ a → s.heap.get? b = some o → h'.get? b = some o) (e : h'.get? a = some o) :
    Core Z (updK Kp a o) c hs { s with heap := h', toks := tk } := by
  have ga := C.dis a o₀ ha
  have nl : ∀ p ∈ ledOf Z c hs, p.1 ≠ a := fun p hp => Ne.symm (ne_of (C.free p hp).2 ha)
  exact ⟨C.base, fun b o' e' => k b o' (ne_of ga e') (C.sub b o' e'), fun b o' e' => upd_some e' (fun q r => q ▸ r ▸ e) fun q e' => k b o' q (C.kp b o' e'), fun b o' e' => upd_some e' (fun q _ => q ▸ ga) fun _ e' => C.dis b o' e', C.len,
    fun p hp => let ⟨o', e', f⟩ := C.led p hp; ⟨o', k _ _ (nl p hp) e', f⟩, C.apart, fun p hp => ⟨(C.free p hp).1, (upd_ne (nl p hp)).trans (C.free p hp).2⟩, C.inst, C.gens, C.os⟩
/-- a list that may change, as it stands -/
inductive LocAt (Z : Stat) (c : Cn) (hs : Hs) (h : Heap) (n : Nat) (a : Addr) : Prop
  | mk (lt : n < hs.hp.length) (vs : List Value) (ep : Nat) (e : h.get? a = some (listO vs ep)) (as : ListAs Z c (hs.hp.getD n .none) vs) : LocAt Z c hs h n a
theorem Core.locAt (C : Core Z Kp c hs s) {n : Nat} {a : Addr} (hn : c.ρ[n]? = some a) : LocAt Z c hs s.heap n a := by
  have hlt : n < hs.hp.length := by rw [← C.len]; exact (List.getElem?_eq_some_iff.mp hn).1
  have e2 : hs.hp[n]? = some (hs.hp.getD n .none) := by rw [List.getD_eq_getElem?_getD, List.getElem?_eq_getElem hlt]; rfl
  obtain ⟨o, e, vs, ep, rfl, as⟩ := C.atL _ (objLed_of (Z := Z) (c := c) hn e2)
  exact ⟨hlt, vs, ep, e, as⟩
end
end Mine
set_option genSizeOf false
set_option genInjectivity false
set_option maxRecDepth 100000
namespace Mine
open PySem PySem.W PySem.Calls PyProof.Rows

noncomputable def Post (Z : Stat) (Kp : Addr → Option Obj) (c : Cn) (K : KE) (Q : Value → Shared → Prop) : Prop :=
  ∀ (c' : Cn) (V : V) (v : Value) (hs' : Hs) (s' : Shared), c.le c' → Core Z Kp c' hs' s' → RepV Z c' V v → K V hs' → Q v s'
noncomputable def PostU (Z : Stat) (Kp : Addr → Option Obj) (c : Cn) (K : Hs → Prop) (Q : Unit → Shared → Prop) : Prop :=
  ∀ (c' : Cn) (hs' : Hs) (s' : Shared), c.le c' → Core Z Kp c' hs' s' → K hs' → Q () s'
noncomputable def D.isL : D → Bool
  | .ints _ | .list _ => true
  | _ => false

section
variable {Z : Stat} {Kp : Addr → Option Obj} {c : Cn} {hs : Hs} {s : Shared} {K : KE} {Q : Value → Shared → Prop} {A : Around} {E : Value → Shared → Prop} {tk : Nat}
theorem Post.now (P : Post Z Kp c K Q) {V : V} {v : Value} (C : Core Z Kp c hs s) (R : RepV Z c V v) (k : K V hs) : Q v s := P c V v hs s (.refl c) C R k
theorem Post.int (P : Post Z Kp c K Q) {i : Int} {t : Tok} (C : Core Z Kp c hs s) (k : K (.d (.int i)) hs) : Q (.int i t) { s with toks := tk } := P.now (V := .d (.int i)) C.toks ⟨_, rfl⟩ k
theorem Post.bool (P : Post Z Kp c K Q) {b : Bool} (C : Core Z Kp c hs s) (k : K (.d (.bool b)) hs) : Q (.bool b) s := P.now (V := .d (.bool b)) C rfl k
theorem Post.none (P : Post Z Kp c K Q) (C : Core Z Kp c hs s) (k : K (.d .none) hs) : Q .none s := P.now (V := .d .none) C rfl k
theorem Post.up (P : Post Z Kp c K Q) {c' : Cn} (l : c.le c') : Post Z Kp c' K Q := fun d V v hs' s' l' => P d V v hs' s' (l.trans l')

inductive SeqAt (h : Heap) (R : List Value → Prop) (v : Value) : Prop
  | mk (a : Addr) (vs : List Value) (n : Nat) (e : v = .ref a) (g : h.get? a = some (listO vs n)) (r : R vs) : SeqAt h R v
theorem seq_at (C : Core Z Kp c hs s) {R : List Value → Prop} {v : Value} (h : RSeq c.G listO R v) : SeqAt s.heap R v :=
  let ⟨a, vs, n, e, g, r⟩ := h; ⟨a, vs, n, e, C.sub _ _ g, r⟩
theorem ListAs.isL {x : D} {vs : List Value} (h : ListAs Z c x vs) : x.isL = true := by
  cases x with
  | list _ => rfl
  | «ints» _ => rfl
  | _ => exact False.elim h
theorem view_list (C : Core Z Kp c hs s) {V : V} {v : Value} {x : D} (R : RepV Z c V v) (e : deref hs V = x) (hx : x.isL = true) :
    SeqAt s.heap (fun vs => ListAs Z c x vs) v := by
  cases e
  cases V with
  | d y => cases y with
    | list _ => exact seq_at C R
    | «ints» _ => exact seq_at C R
    | _ => exact ff hx
  | loc n =>
    obtain ⟨a, e1, rfl⟩ := R
    obtain ⟨_, vs, ep, e2, as⟩ := C.locAt e1
    exact ⟨a, vs, ep, rfl, e2, as⟩
theorem view_d (C : Core Z Kp c hs s) {V : V} {v : Value} {x : D} (R : RepV Z c V v) (e : deref hs V = x) (hx : x.isL = false) : RepD Z c x v := by
  cases e
  cases V with
  | d y => exact R
  | loc n =>
    obtain ⟨a, e1, _⟩ := R
    obtain ⟨_, vs, ep, e2, as⟩ := C.locAt e1
    exact ff (hx.symm.trans as.isL)
theorem listO_eq (arr : Array Value) (n : Nat) : listO arr.toList n = { cls := .type "list", data := .seq arr n } := by simp [listO]
theorem ListAs.length {x : D} {vs : List Value} (h : ListAs Z c x vs) : lenD x = some vs.length := by
  cases x with
  | list _ => exact congrArg some (RepDs.length h)
  | «ints» _ => exact congrArg some (IntsAre.length' h)
  | _ => exact False.elim h
theorem alloc_ok (P : Post Z Kp c K Q) (C : Core Z Kp c hs s) {m : Bool} {x : D} {arr : Array Value} {n : Nat} (h : alloc m x hs K) (as : ListAs Z c x arr.toList) :
    Q (.ref s.heap.objs.size) { s with heap := s.heap.push { cls := .type "list", data := .seq arr n }, toks := tk } := by
  have e : (s.heap.push { cls := .type "list", data := .seq arr n }).get? s.heap.objs.size = some (listO arr.toList n) := by rw [listO_eq]; exact Heap.get?_push_size _ rfl
  have k : ∀ b o, s.heap.get? b = some o → (s.heap.push { cls := .type "list", data := .seq arr n }).get? b = some o := fun b o e => Heap.get?_push_of_some _ e
  cases m with
  | true =>
    obtain ⟨C', l, R⟩ := C.newL (tk := tk) k (fresh_size _) e as
    exact P _ _ _ _ _ l C' R h
  | false =>
    obtain ⟨C', l⟩ := C.newG (tk := tk) k (fresh_size _) e
    exact P _ (.d x) _ _ _ l C' ((as.mono l).rep (Cn.addG_get _ _ _)) h
theorem alloc_at (P : Post Z Kp c K Q) (C : Core Z Kp c hs s) {m : Bool} {x : D} {a : Addr} {vs : List Value} {n : Nat} {h' : Heap} (k : ∀ b o, s.heap.get? b = some o → h'.get? b = some o) (fr : s.heap.get? a = none) (e : h'.get? a = some (listO vs n)) (h : alloc m x hs K) (as : ListAs Z c x vs) :
    Q (.ref a) { s with heap := h', toks := tk } := by
  cases m with
  | true =>
    obtain ⟨C', l, R⟩ := C.newL (tk := tk) k fr e as
    exact P _ _ _ _ _ l C' R h
  | false =>
    obtain ⟨C', l⟩ := C.newG (tk := tk) k fr e
    exact P _ (.d x) _ _ _ l C' ((as.mono l).rep (Cn.addG_get _ _ _)) h

/-! ### arithmetic -/
theorem intBits_le {a : Int} (h : a.natAbs < 2 ^ 62) : Builtin.Int.intBits a ≤ 62 := by
  unfold Builtin.Int.intBits
  split
  · lia
  · rename_i h0
    have h1 : a.natAbs ≠ 0 := fun e => h0 (by rw [Int.natAbs_eq_zero.mp e]; rfl)
    have := (Nat.log2_lt h1).mpr h
    lia
theorem mulOk {a b : Int} (h : a.natAbs < 2 ^ 62 ∨ b.natAbs < 2 ^ 62) : IntMulOk a b :=
  h.elim (fun h => .of_left (Nat.le_trans (intBits_le h) (by decide))) fun h => .of_right (Nat.le_trans (intBits_le h) (by decide))
theorem powOk {a n : Int} (h1 : 0 ≤ n) (h2 : n ≤ 1000) (h3 : a.natAbs < 2 ^ 62) : (Builtin.Int.intBits a : Int) * n ≤ 2 ^ 27 := by
  have h4 := intBits_le h3
  have : (Builtin.Int.intBits a : Int) * n ≤ 62 * 1000 := Int.mul_le_mul (by lia) h2 h1 (by decide)
  exact Int.le_trans this (by decide)
theorem binInt_ok (P : Post Z Kp c K Q) (C : Core Z Kp c hs s) {op : Operator} {i j : Int} {t u : Tok} (h : binInt op i j hs K) : wpAny (model Z.P Z.w) A (binaryOp op (.int i t) (.int j u)) Q E s := by
  cases op with
  | Add => exact PyProof.Rows.add_int (P.int C h)
  | Sub => exact PyProof.Rows.sub_int (P.int C h)
  | Mult => exact PyProof.Rows.mul_int (P.int C h.2) (mulOk h.1)
  | Mod => exact PyProof.Rows.mod_int' h.1 (P.int C h.2)
  | FloorDiv => exact PyProof.Rows.floordiv_int h.1.1 (P.int C h.2) (.inl (PyProof.noPylong_small h.1.2))
  | LShift =>
    obtain ⟨⟨h1, h2, h3⟩, h⟩ := h
    exact PyProof.Rows.lshift_int_small h1 (by lia) (by lia) (P.int C h)
  | RShift => exact PyProof.Rows.rshift_int h.1 (P.int C h.2)
  | Pow =>
    obtain ⟨⟨h1, h2, h3⟩, h⟩ := h
    exact PyProof.Rows.pow_int h1 (powOk h1 h2 h3) (P.int C h)
  | BitAnd => exact PyProof.Rows.and_int (P.int C h)
  | BitOr => exact PyProof.Rows.or_int (P.int C h)
  | BitXor => exact PyProof.Rows.xor_int (P.int C h)
  | _ => exact False.elim h
theorem binInt_ok' (P : Post Z Kp c K Q) (C : Core Z Kp c hs s) {op : Operator} {i j : Int} {t u : Tok} (h : binInt op i j hs K) : wpAny (model Z.P Z.w) A (inplaceOp op (.int i t) (.int j u)) Q E s := by
  cases op with
  | Add => exact PyProof.Rows.iadd_int (P.int C h)
  | Sub => exact PySem.P.isub_int (P.int C h)
  | Mult => exact PyProof.Rows.imul_int (P.int C h.2) (mulOk h.1)
  | Mod => exact PyProof.Rows.imod_int h.1 (P.int C h.2)
  | FloorDiv => exact PyProof.Rows.ifloordiv_int h.1.1 (P.int C h.2) (.inl (PyProof.noPylong_small h.1.2))
  | LShift =>
    obtain ⟨⟨h1, h2, h3⟩, h⟩ := h
    exact PyProof.Rows.ilshift_int_small h1 (by lia) (by lia) (P.int C h)
  | RShift => exact PyProof.Rows.irshift_int h.1 (P.int C h.2)
  | Pow =>
    obtain ⟨⟨h1, h2, h3⟩, h⟩ := h
    exact PyProof.Rows.ipow_int h1 (powOk h1 h2 h3) (P.int C h)
  | BitAnd => exact PyProof.Rows.iand_int (P.int C h)
  | BitOr => exact PyProof.Rows.ior_int (P.int C h)
  | BitXor => exact PyProof.Rows.ixor_int (P.int C h)
  | _ => exact False.elim h

/-! ### lists -/
theorem RepDs.append : ∀ {xs ys : List D} {vs ws : List Value}, RepDs Z c xs vs → RepDs Z c ys ws → RepDs Z c (xs ++ ys) (vs ++ ws)
  | [], ys, vs, ws, h, h' => by obtain rfl : vs = [] := h; exact h'
  | x :: xs, ys, vs, ws, h, h' => by
    obtain ⟨v, r, rfl, h1, h2⟩ := h
    exact ⟨v, r ++ ws, rfl, h1, RepDs.append h2 h'⟩
theorem ListAs.elts {x : D} {ds : List D} {vs : List Value} (e : x.elts? = some ds) (h : ListAs Z c x vs) : RepDs Z c ds vs := by
  cases x with
  | list _ => exact some_eq e ▸ h
  | «ints» _ => exact some_eq e ▸ ints_iff.mp h
  | _ => exact none_some e
theorem elts_isL {x : D} {ds : List D} (e : x.elts? = some ds) : x.isL = true := by
  cases x with
  | list _ => rfl
  | «ints» _ => rfl
  | _ => exact none_some e
theorem catD_as {x y z : D} {vs ws : List Value} (e : catD x y = some z) (h : ListAs Z c x vs) (h' : ListAs Z c y ws) : ListAs Z c z (vs ++ ws) := by
  rcases orB_iff e with ⟨p, hp, e⟩ | e
  · obtain ⟨h1, h2⟩ := both_iff hp
    rw [D.ints_eq h1] at h
    rw [D.ints_eq h2] at h'
    rw [← some_eq e]
    refine reps_ints (Z := Z) (c := c) ?_
    rw [List.map_append]
    exact RepDs.append (ints_iff.mp h) (ints_iff.mp h')
  · obtain ⟨p, hp, e⟩ := optB_iff e
    obtain ⟨h1, h2⟩ := both_iff hp
    exact some_eq e ▸ RepDs.append (h.elts h1) (h'.elts h2)
theorem catD_isL {x y z : D} (e : catD x y = some z) : x.isL = true ∧ y.isL = true := by
  rcases orB_iff e with ⟨p, hp, e⟩ | e
  · obtain ⟨h1, h2⟩ := both_iff hp
    exact ⟨D.ints_eq h1 ▸ rfl, D.ints_eq h2 ▸ rfl⟩
  · obtain ⟨p, hp, e⟩ := optB_iff e
    exact ⟨elts_isL (both_iff hp).1, elts_isL (both_iff hp).2⟩
theorem rep_as (Z : Stat) (c : Cn) {xs : List Int} {vs : List Value} (h : IntsAre vs xs) (k : Nat) : IntsAre (List.replicate k vs).flatten (List.replicate k xs).flatten := by
  refine reps_ints (Z := Z) (c := c) ?_
  induction k with
  | zero => rfl
  | succ k ih =>
    rw [List.replicate_succ, List.replicate_succ, List.flatten_cons, List.flatten_cons, List.map_append]
    exact RepDs.append (ints_iff.mp h) ih
theorem mulL_ok (P : Post Z Kp c K Q) (C : Core Z Kp c hs s) {m : Bool} {xs : List Int} {n : Int} {u : Tok} {va : Value} (R : SeqAt s.heap (fun vs => ListAs Z c (.ints xs) vs) va) (h1 : 0 ≤ n) (h2 : n ≤ lim) (h3 : xs.length * n.toNat ≤ lim) (h : alloc m (.ints (rep n xs)) hs K) :
    wpAny (model Z.P Z.w) A (binaryOp .Mult va (.int n u)) Q E s := by
  obtain ⟨a, vs, k, rfl, hl, as⟩ := R
  have len : xs.length = vs.length := IntsAre.length' as
  have hl' : s.heap.get? a = some { cls := .type "list", dict := none, data := .seq vs.toArray k, slots := #[] } := hl
  unfold lim at h2 h3
  rw [len] at h3
  have h4 : vs.toArray.size * n.toNat ≤ 2 ^ 20 := h3
  refine wpAny_binaryOp_repeat_ref (T := "list") (U := "int") (by decide) ⟨_, hl', rfl⟩ (fun s' => typeIs_int s' n u) noFill_list_mul F.fills_int_mul F.slot_int_rmul repeat_list F.slot_int_index.lookup
    (call_meets F.slot_int_rmul (typeIs_int s n u) F.entry_int_rmul (F.args_int_rmul_2 _ _) (int___rmul___int_list n u a vs.toArray k)
      ⟨hl', rfl, ⟨_, hl', rfl⟩, call_meets F.slot_list_mul ⟨_, hl', rfl⟩ F.entry_list_mul (F.args_list_mul_2 _ _)
        (AutoListH.list___mul___list_int_3 a vs.toArray k n u (by simp [Builtin.List.listFitsIndex]; lia) (by lia) (by simp [Builtin.List.listTooLong, sizeLine]; simp at h4; lia))
        ⟨hl', ?_⟩⟩)
  refine alloc_ok (n := 0) P C h ?_
  rw [PyProof.Rows.listMul_foldl]
  have e0 : (List.replicate (if vs.toArray.isEmpty = true then 0 else n.toNat) xs).flatten = rep n xs := by
    cases vs with
    | nil =>
      obtain rfl := List.eq_nil_of_length_eq_zero len
      unfold rep
      generalize n.toNat = k
      induction k with
      | zero => rfl
      | succ k ih => exact ih
    | cons v r => rfl
  rw [← e0]
  exact rep_as Z c as _
theorem addL_ok (P : Post Z Kp c K Q) (C : Core Z Kp c hs s) {m : Bool} {x y z : D} {n : Nat} {va vb : Value} (ez : catD x y = some z) (en : lenD z = some n) (Ra : SeqAt s.heap (fun vs => ListAs Z c x vs) va) (Rb : SeqAt s.heap (fun vs => ListAs Z c y vs) vb) (h1 : n ≤ lim) (h : alloc m z hs K) :
    wpAny (model Z.P Z.w) A (binaryOp .Add va vb) Q E s := by
  obtain ⟨a1, vs, k, rfl, hl, as⟩ := Ra
  obtain ⟨a2, ws, k2, rfl, hl2, as2⟩ := Rb
  have as3 := catD_as ez as as2
  have e3 : n = (vs ++ ws).length := some_eq (en.symm.trans as3.length)
  rw [e3, List.length_append] at h1
  refine PySem.P.add_list (n := k) (n2 := k2) hl hl2 ?_ (Nat.le_trans h1 (by decide : lim ≤ sizeLine))
  refine alloc_ok (n := 0) (tk := s.toks) P C h ?_
  rw [List.append_toArray]
  exact as3
theorem binOpV_ok (P : Post Z Kp c K Q) (C : Core Z Kp c hs s) {op : Operator} {m : Bool} {a b : V} {va vb : Value} (Ra : RepV Z c a va) (Rb : RepV Z c b vb) (h : binOpV op m a b hs K) :
    wpAny (model Z.P Z.w) A (binaryOp op va vb) Q E s := by
  rcases orP_iff h with ⟨p, hp, h⟩ | h
  · obtain ⟨h1, h2⟩ := both_iff hp
    obtain ⟨t, rfl⟩ := view_d C Ra (D.int_eq h1) rfl
    obtain ⟨u, rfl⟩ := view_d C Rb (D.int_eq h2) rfl
    exact binInt_ok P C h
  rcases orP_iff h with ⟨p, hp, h⟩ | h
  · obtain ⟨h1, h2⟩ := both_iff hp
    obtain ⟨u, rfl⟩ := view_d C Rb (D.int_eq h2) rfl
    obtain ⟨e, h⟩ := need_iff h
    cases mul_of e
    exact mulL_ok P C (view_list C Ra (D.ints_eq h1) rfl) h.1.1 h.1.2.1 h.1.2.2 h.2
  · obtain ⟨e, h⟩ := need_iff h
    cases add_of e
    obtain ⟨z, ez, h⟩ := optP_iff h
    obtain ⟨n, en, h⟩ := optP_iff h
    exact addL_ok P C ez en (view_list C Ra rfl (catD_isL ez).1) (view_list C Rb rfl (catD_isL ez).2) h.1 h.2
end
end Mine
set_option genSizeOf false
set_option genInjectivity false
set_option maxRecDepth 100000
namespace Mine
open PySem PySem.W PySem.Calls PyProof.Rows

section
variable {Z : Stat} {Kp : Addr → Option Obj} {c : Cn} {hs : Hs} {s : Shared} {K : KE} {Q : Value → Shared → Prop} {A : Around} {E : Value → Shared → Prop} {tk : Nat}

/-! ### truth -/
theorem isEmpty_eq {α β : Type} {xs : List α} {vs : List β} (h : xs.length = vs.length) : (!vs.isEmpty) = !xs.isEmpty := by
  cases xs <;> cases vs <;> first | rfl | exact nomatch h
theorem truthL_ok {Qb : Bool → Shared → Prop} {n : Nat} {b b' : Bool} (P : ∀ tk, Qb b' { s with toks := tk }) {R : List Value → Prop} {va : Value} (V : SeqAt s.heap R va) (hl : ∀ {vs}, R vs → n = vs.length ∧ (!vs.isEmpty) = b) (h : noB (!decide (n < 2 ^ 62)) (some b) = some b') :
    wpAny (model Z.P Z.w) A (truthy va) Qb E s := by
  obtain ⟨a', vs, m, rfl, g, as⟩ := V
  obtain ⟨len, e⟩ := hl as
  obtain ⟨h1, h⟩ := noB_iff h
  have h1 := of_decide_eq_true (not_t' h1)
  rw [len] at h1
  refine wpAny_truthy_list (items := vs.toArray) ⟨_, g, rfl, m, rfl⟩ (by show (vs.length : Int) < 2 ^ 63; omega) ?_
  rw [show (!vs.toArray.isEmpty) = b' by rw [← some_eq h, ← e, List.isEmpty_toArray]]
  exact P _
theorem truthV_ok {Qb : Bool → Shared → Prop} {k : Bool → Prop} (P : ∀ b tk, k b → Qb b { s with toks := tk }) (C : Core Z Kp c hs s) {a : V} {va : Value} (Ra : RepV Z c a va) (h : truthV a hs k) :
    wpAny (model Z.P Z.w) A (truthy va) Qb E s := by
  obtain ⟨b, h, hk⟩ := optP_iff h
  have q := fun tk => P b tk hk
  have d := fun x => view_d C Ra (x := x)
  have l := fun x => view_list C Ra (x := x)
  revert h d l
  generalize deref hs a = x
  intro h d l
  cases x with
  | none => cases d _ rfl rfl; cases some_eq h; exact PyProof.Rows.truthy_none (q s.toks)
  | bool b => cases d _ rfl rfl; cases some_eq h; exact wpAny_truthy_bool (q s.toks)
  | int i => obtain ⟨t, rfl⟩ := d _ rfl rfl; cases some_eq h; exact PyProof.Rows.truthy_int (q s.toks)
  | list xs => exact truthL_ok q (l _ rfl rfl) (fun as => have e := RepDs.length as; ⟨e, isEmpty_eq e⟩) h
  | «ints» xs => exact truthL_ok q (l _ rfl rfl) (fun as => have e := IntsAre.length' as; ⟨e, isEmpty_eq e⟩) h
  | _ => exact none_some h

theorem unOpV_ok (P : Post Z Kp c K Q) (C : Core Z Kp c hs s) {op : UnaryOp} {a : V} {va : Value} (Ra : RepV Z c a va) (h : unOpV op a hs K) :
    wpAny (model Z.P Z.w) A (unaryOp op va) Q E s := by
  cases op with
  | Not => exact PyProof.Rows.not_of (truthV_ok (k := fun b => K (.d (.bool (!b))) hs) (fun b tk k => P.now (V := .d (.bool _)) C.toks rfl k) C Ra h)
  | USub =>
    obtain ⟨i, e, h⟩ := optP_iff h
    rw [V.int_eq e] at Ra
    obtain ⟨t, rfl⟩ := Ra
    exact PyProof.Rows.neg_int (P.int C h)
  | Invert =>
    obtain ⟨i, e, h⟩ := optP_iff h
    rw [V.int_eq e] at Ra
    obtain ⟨t, rfl⟩ := Ra
    exact PyProof.Rows.invert_int (P.int C h)
  | UAdd => exact False.elim h

/-! ### comparisons -/
theorem ia_get {vs : List Value} {xs : List Int} (h : IA vs xs) : ∀ j, j < xs.length → ∃ t, vs[j]? = some (.int (xs.getD j 0) t) := by
  induction h with
  | nil => exact fun j hj => absurd hj (Nat.not_lt_zero j)
  | @cons i t vs xs _ ih => exact fun j hj => match j with
    | 0 => ⟨t, rfl⟩
    | j + 1 => ih j (Nat.lt_of_succ_lt_succ hj)
theorem ints_get {vs : List Value} {xs : List Int} (h : IntsAre vs xs) : ∀ j, j < xs.length → ∃ t, vs[j]? = some (.int (xs.getD j 0) t) := ia_get (ia_of h)
theorem eq_all (xs : List Int) : ∀ ys : List Int, xs.length = ys.length → (List.range xs.length).all (fun j => xs.getD j 0 == ys.getD j 0) = decide (xs = ys) := by
  intro ys hl
  rw [Bool.eq_iff_iff]
  simp only [List.all_eq_true, List.mem_range, beq_iff_eq, decide_eq_true_eq]
  constructor
  · intro h
    apply List.ext_getElem hl
    intro i h1 h2
    have := h i h1
    simpa [h1, h2] using this
  · rintro rfl; simp
theorem ints_eqAt {vs ws : List Value} {xs ys : List Int} (h : IntsAre vs xs) (h' : IntsAre ws ys) (j : Nat) (h1 : j < vs.toArray.size) (h2 : j < ws.toArray.size) : SeqAt.EqAt A s vs.toArray[j] ws.toArray[j] (xs.getD j 0 == ys.getD j 0) := by
  obtain ⟨t, e⟩ := ints_get h j (by rw [IntsAre.length' h]; simpa using h1)
  obtain ⟨u, e'⟩ := ints_get h' j (by rw [IntsAre.length' h']; simpa using h2)
  have e1 : vs.toArray[j] = .int (xs.getD j 0) t := by
    have : vs[j]? = some vs.toArray[j] := by simp at h1; simp [h1]
    rw [this] at e; exact Option.some.inj e
  have e2 : ws.toArray[j] = .int (ys.getD j 0) u := by
    have : ws[j]? = some ws.toArray[j] := by simp at h2; simp [h2]
    rw [this] at e'; exact Option.some.inj e'
  rw [e1, e2]
  exact SeqAt.EqAt.int_int _ _ _ _
theorem toInts_as {ds : List D} {is : List Int} {vs : List Value} (e : toInts ds = some is) (h : RepDs Z c ds vs) : IntsAre vs is := by
  rw [toInts_spec e] at h
  exact ints_iff.mpr h
theorem cmpI_ok {b : Bool} (q : Q (.bool b) s) {op : CmpOp} {i j : Int} {t u : Tok} (h : cmpInt op i j = some b) : wpAny (model Z.P Z.w) A (compareOp op (.int i t) (.int j u)) Q E s := by
  cases op with
  | Eq => exact PyProof.Rows.eq_int (some_eq h ▸ q)
  | NotEq => exact PyProof.Rows.ne_int (some_eq h ▸ q)
  | Lt => exact PyProof.Rows.lt_int (some_eq h ▸ q)
  | LtE => exact PyProof.Rows.le_int (some_eq h ▸ q)
  | Gt => exact PyProof.Rows.gt_int (some_eq h ▸ q)
  | GtE => exact PyProof.Rows.ge_int (some_eq h ▸ q)
  | _ => exact none_some h
theorem cmpL_ok {b : Bool} (q : Q (.bool b) s) (hu : A.units < cLine) {op : CmpOp} {xs ys : List Int} {va vb : Value} (Ra : SeqAt s.heap (fun vs => IntsAre vs xs) va) (Rb : SeqAt s.heap (fun vs => IntsAre vs ys) vb) (h : cmpEq op (decide (xs = ys)) = some b) :
    wpAny (model Z.P Z.w) A (compareOp op va vb) Q E s := by
  obtain ⟨a1, vs, n1, rfl, hl1, as1⟩ := Ra
  obtain ⟨a2, ws, n2, rfl, hl2, as2⟩ := Rb
  have l1 : s.heap.IsList a1 vs.toArray := ⟨_, hl1, rfl, n1, rfl⟩
  have l2 : s.heap.IsList a2 ws.toArray := ⟨_, hl2, rfl, n2, rfl⟩
  have len1 := IntsAre.length' as1
  have len2 := IntsAre.length' as2
  by_cases hz : vs.length = ws.length
  · rw [← eq_all xs ys (len1.trans (hz.trans len2.symm)), len1] at h
    cases op with
    | Eq => exact SeqAt.eq_listAt l1 l2 hz hu (fun j h1 h2 => ints_eqAt as1 as2 j h1 h2) (some_eq h ▸ q)
    | NotEq => exact SeqAt.RcNeAt.lists l1 l2 hz hu (fun j h1 h2 => ints_eqAt as1 as2 j h1 h2) _ _ _ _ (some_eq h ▸ q)
    | _ => exact none_some h
  · rw [decide_eq_false fun e => hz (len1.symm.trans ((congrArg _ e).trans len2))] at h
    cases op with
    | Eq => exact SeqAt.eq_list_lengthsAt l1 l2 (bne_iff_ne.mpr hz) hu (some_eq h ▸ q)
    | NotEq => exact SeqAt.RcNeAt.lists_lengths l1 l2 (bne_iff_ne.mpr hz) hu _ _ _ _ (by cases some_eq h; exact q)
    | _ => exact none_some h
theorem cmpT_ok {b : Bool} (q : Q (.bool b) s) (hu : A.units < cLine) {op : CmpOp} {xs ys : List Int} {a1 a2 : Addr} {vs ws : List Value} (l1 : s.heap.IsTuple a1 vs.toArray) (l2 : s.heap.IsTuple a2 ws.toArray) (as1 : IntsAre vs xs) (as2 : IntsAre ws ys) (h : cmpEq op (decide (xs = ys)) = some b) :
    wpAny (model Z.P Z.w) A (compareOp op (.ref a1) (.ref a2)) Q E s := by
  have len1 := IntsAre.length' as1
  have len2 := IntsAre.length' as2
  have e3 : ((List.range (min vs.toArray.size ws.toArray.size)).all (fun j => xs.getD j 0 == ys.getD j 0) && vs.toArray.size == ws.toArray.size) = decide (xs = ys) := by
    by_cases hz : vs.length = ws.length
    · rw [← eq_all xs ys (len1.trans (hz.trans len2.symm)), len1]
      show ((List.range (min vs.length ws.length)).all _ && vs.length == ws.length) = _
      rw [hz, Nat.min_self, beq_self_eq_true, Bool.and_true]
    · rw [decide_eq_false fun e => hz (len1.symm.trans ((congrArg _ e).trans len2)), beq_false_of_ne (by exact hz), Bool.and_false]
  rw [← e3] at h
  cases op with
  | Eq => exact SeqAt.eq_tupleAt l1 l2 hu (fun j h1 h2 => ints_eqAt as1 as2 j h1 h2) (some_eq h ▸ q)
  | NotEq => exact SeqAt.RcNeAt.tuples l1 l2 hu (fun j h1 h2 => ints_eqAt as1 as2 j h1 h2) _ _ _ _ (some_eq h ▸ q)
  | _ => exact none_some h
theorem repD_none {x : D} {v : Value} (R : RepD Z c x v) : (isNone x = true ∧ v = .none) ∨ (isNone x = false ∧ v ≠ .none) := by
  cases x with
  | none => exact .inl ⟨rfl, R⟩
  | bool b => exact .inr ⟨rfl, fun q => nomatch (R : v = .bool b).symm.trans q⟩
  | int i => exact .inr ⟨rfl, fun q => let ⟨_, e⟩ := R; nomatch e.symm.trans q⟩
  | str i => exact .inr ⟨rfl, fun q => let ⟨_, e⟩ := R; nomatch e.symm.trans q⟩
  | tup xs => exact .inr ⟨rfl, fun q => let ⟨_, _, _, e, _, _⟩ := R; nomatch e.symm.trans q⟩
  | list xs => exact .inr ⟨rfl, fun q => let ⟨_, _, _, e, _, _⟩ := R; nomatch e.symm.trans q⟩
  | «ints» xs => exact .inr ⟨rfl, fun q => let ⟨_, _, _, e, _, _⟩ := R; nomatch e.symm.trans q⟩
  | fn m x => exact .inr ⟨rfl, fun q => let ⟨_, e, _⟩ := R; nomatch e.symm.trans q⟩
  | meth x => exact .inr ⟨rfl, fun q => let ⟨_, _, _, _, e, _, _, _⟩ := R; nomatch e.symm.trans q⟩
  | bi b => exact .inr ⟨rfl, fun q => by rw [show v = biV b from R] at q; cases b <;> cases q⟩
  | cls => exact .inr ⟨rfl, fun q => nomatch (R : v = .ref Z.ca).symm.trans q⟩
  | mpu => exact .inr ⟨rfl, fun q => let ⟨_, _, e, _⟩ := R; nomatch e.symm.trans q⟩
  | rng n => exact .inr ⟨rfl, fun q => let ⟨_, _, _, _, e, _⟩ := R; nomatch e.symm.trans q⟩
  | arg xs => exact .inr ⟨rfl, fun q => let ⟨_, _, _, _, e, _, _, _, _⟩ := R; nomatch e.symm.trans q⟩
  | dict xs => exact .inr ⟨rfl, fun q => let ⟨_, _, _, e, _, _, _⟩ := R; nomatch e.symm.trans q⟩
theorem repV_none (C : Core Z Kp c hs s) {a : V} {v : Value} (R : RepV Z c a v) : (isNone (deref hs a) = true ∧ v = .none) ∨ (isNone (deref hs a) = false ∧ v ≠ .none) := by
  cases a with
  | d x => exact repD_none R
  | loc n =>
    obtain ⟨ad, e1, rfl⟩ := R
    obtain ⟨_, vs, ep, _, as⟩ := C.locAt e1
    refine .inr ⟨?_, fun q => nomatch q⟩
    show isNone (hs.hp.getD n .none) = false
    revert as
    cases hs.hp.getD n .none <;> first | exact fun _ => rfl | exact fun as => False.elim as
theorem isNone_eq {d : D} (h : isNone d = true) : d = .none := by cases d <;> first | rfl | exact ff h
theorem tupI_at (C : Core Z Kp c hs s) {a : V} {va : Value} {is : List Int} (Ra : RepV Z c a va) (e : toIntsT (deref hs a) = some is) : ∃ ad vs, va = .ref ad ∧ s.heap.IsTuple ad (List.toArray vs) ∧ IntsAre vs is := by
  obtain ⟨xs, e1, e2⟩ := optB_iff e
  obtain ⟨ad, vs, n, rfl, g, r⟩ := view_d C Ra (D.tup_eq e1) rfl
  exact ⟨ad, vs, rfl, ⟨_, C.sub _ _ g, rfl, n, rfl⟩, toInts_as e2 r⟩
theorem cmpV_ok {k : Bool → Prop} (P : ∀ b, k b → Q (.bool b) s) (C : Core Z Kp c hs s) (hu : A.units < cLine) {op : CmpOp} {a b : V} {va vb : Value} (Ra : RepV Z c a va) (Rb : RepV Z c b vb) (h : cmpV op a b hs k) :
    wpAny (model Z.P Z.w) A (compareOp op va vb) Q E s := by
  obtain ⟨r, h, hk⟩ := optP_iff h
  have q := P r hk
  rcases orB_iff h with ⟨p, hp, h⟩ | h
  · obtain ⟨t, rfl⟩ := view_d C Ra (D.int_eq (both_iff hp).1) rfl
    obtain ⟨u, rfl⟩ := view_d C Rb (D.int_eq (both_iff hp).2) rfl
    exact cmpI_ok q h
  rcases orB_iff h with ⟨p, hp, h⟩ | h
  · exact cmpL_ok q hu (view_list C Ra (D.ints_eq (both_iff hp).1) rfl) (view_list C Rb (D.ints_eq (both_iff hp).2) rfl) h
  rcases orB_iff h with ⟨p, hp, h⟩ | h
  · obtain ⟨_, _, rfl, l1, as1⟩ := tupI_at C Ra (both_iff hp).1
    obtain ⟨_, _, rfl, l2, as2⟩ := tupI_at C Rb (both_iff hp).2
    exact cmpT_ok q hu l1 l2 as1 as2 h
  · obtain ⟨e, h'⟩ := noB_iff h
    obtain ⟨e1, e2⟩ := and_t (not_t' e)
    cases is_of e2
    cases view_d C Rb (isNone_eq e1) rfl
    rw [← some_eq h'] at q
    rcases repV_none C Ra with ⟨e, rfl⟩ | ⟨e, hne⟩
    · rw [e] at q; exact wpAny_is_self (by decide) q
    · rw [e] at q; exact PyProof.Rows.is_none_ne hne q
end
end Mine
set_option genSizeOf false
set_option genInjectivity false
set_option maxRecDepth 100000
namespace Mine
open PySem PySem.W PySem.Calls PyProof.Rows

section
variable {Z : Stat} {Kp : Addr → Option Obj} {c : Cn} {hs : Hs} {s : Shared} {K : KE} {Q : Value → Shared → Prop} {A : Around} {E : Value → Shared → Prop} {tk : Nat}

/-! ### items -/
theorem fits_of {i : Int} (h : small i) : Builtin.List.listFitsIndex i = true := by
  unfold small at h
  simp [Builtin.List.listFitsIndex]; lia
theorem seqIndex_of {i : Int} {n : Nat} (h0 : 0 ≤ idx i n) (h1 : idx i n < n) : seqIndex? i n = some (idx i n).toNat := by
  unfold idx at h0 h1
  unfold seqIndex? idx
  simp only [Bool.and_eq_true, decide_eq_true_eq, if_pos (And.intro h0 h1)]
theorem getItem_listAt {a : Addr} {vs : List Value} {n : Nat} {i : Int} {t : Tok} {x : Value} (hl : s.heap.get? a = some (listO vs n)) (hs : small i) (h0 : 0 ≤ idx i vs.length) (h1 : idx i vs.length < vs.length) (hx : vs[(idx i vs.length).toNat]? = some x) (hq : Q x s) :
    wpAny (model Z.P Z.w) A (getItem (.ref a) (.int i t)) Q E s := by
  have l : s.heap.IsList a vs.toArray := ⟨_, hl, rfl, n, rfl⟩
  unfold small at hs
  by_cases hi : i < 0
  · have e : idx i vs.length = i + vs.length := if_pos hi
    rw [e] at h0 hx
    exact wpAny_getItem_list_neg l hi (by simp; lia) (by lia) (by simpa using hx) hq
  · have e : idx i vs.length = i := if_neg hi
    rw [e] at h0 hx
    exact wpAny_getItem_list l h0 (by lia) (by simpa using hx) hq
theorem getItem_tupAt {a : Addr} {vs : List Value} {n : Nat} {i : Int} {t : Tok} {x : Value} (hl : s.heap.get? a = some (tupO vs n)) (hs : small i) (h0 : 0 ≤ idx i vs.length) (h1 : idx i vs.length < vs.length) (hx : vs[(idx i vs.length).toNat]? = some x) (hq : Q x s) :
    wpAny (model Z.P Z.w) A (getItem (.ref a) (.int i t)) Q E s := by
  unfold small at hs
  exact PyProof.Rows.getItem_tuple (items := vs.toArray) ⟨_, hl, rfl, n, rfl⟩ (by lia) (by lia) (by simpa using seqIndex_of h0 h1) (by simpa using hx) hq
/-- what an item's reading asks of the value read from -/
noncomputable def itemType (s : Shared) (v : Value) : Prop := ∃ T id, s.TypeIs v T ∧ typeLookup (.type T) "__getitem__" = pure (some (.builtin id))
theorem idx_lt {i : Int} {n : Nat} (h0 : 0 ≤ idx i n) (h1 : idx i n < n) : (idx i n).toNat < n := by lia
theorem itemL_ok (P : Post Z Kp c K Q) (C : Core Z Kp c hs s) {R : List Value → Prop} {n : Nat} {f : Nat → D} {i : Int} {t : Tok} {va : Value} (V : SeqAt s.heap R va) (hR : ∀ {vs}, R vs → n = vs.length ∧ ∀ k, k < n → ∃ u, vs[k]? = some u ∧ RepD Z c (f k) u)
    (h : at' i n fun k => K (.d (f k)) hs) : wpAny (model Z.P Z.w) A (getItem va (.int i t)) Q E s ∧ itemType s va := by
  obtain ⟨a', vs, m, rfl, hl, as⟩ := V
  obtain ⟨rfl, g⟩ := hR as
  obtain ⟨u, hx, hr⟩ := g _ (idx_lt h.2.1 h.2.2.1)
  exact ⟨getItem_listAt hl h.1 h.2.1 h.2.2.1 hx (P.now (V := .d _) C hr h.2.2.2), "list", _, ⟨_, hl, rfl⟩, list_getitem_lookup⟩
theorem itemT_ok (P : Post Z Kp c K Q) (C : Core Z Kp c hs s) {xs : List D} {i : Int} {t : Tok} {va : Value} (V : RepD Z c (.tup xs) va) (h : at' i xs.length fun k => K (.d (xs.getD k .none)) hs) :
    wpAny (model Z.P Z.w) A (getItem va (.int i t)) Q E s ∧ itemType s va := by
  obtain ⟨a', vs, m, rfl, g, as⟩ := V
  have hl := C.sub _ _ g
  obtain ⟨u, hx, hr⟩ := RepDs.get as _ (idx_lt h.2.1 h.2.2.1)
  rw [RepDs.length as] at h hx hr
  exact ⟨getItem_tupAt hl h.1 h.2.1 h.2.2.1 hx (P.now (V := .d _) C hr h.2.2.2), "tuple", _, ⟨_, hl, rfl⟩, slot_tuple_getitem.lookup⟩
theorem itemD_ok (P : Post Z Kp c K Q) (C : Core Z Kp c hs s) {xs : List (Int × D)} {i : Int} {t : Tok} {va : Value} (V : RepD Z c (.dict xs) va) (h : optP (xs.lookup i) fun d => K (.d d) hs) :
    wpAny (model Z.P Z.w) A (getItem va (.int i t)) Q E s ∧ itemType s va := by
  obtain ⟨a', o, kvs, rfl, g, hi, rk⟩ := V
  obtain ⟨d, hd, h⟩ := optP_iff h
  obtain ⟨v, hv, rv⟩ := rk.lookup hd
  have hdo : s.heap.DictOf (intKind Z.P Z.w) a' kvs := Heap.dictOf_iff.mpr ⟨o, C.sub _ _ g, hi⟩
  exact ⟨wpAny_getItem_of (intKind_is _ _ i t) hdo.mapOf hv (P.now (V := .d _) C.toks rv h), "dict", _, hdo.typeIs, slot_dict_getitem.lookup⟩
theorem itemV_ok (P : Post Z Kp c K Q) (C : Core Z Kp c hs s) {a b : V} {va vb : Value} (Ra : RepV Z c a va) (Rb : RepV Z c b vb) (h : itemV a b hs K) :
    (wpAny (model Z.P Z.w) A (getItem va vb) Q E s ∧ itemType s va) ∧ ∃ i t, vb = .int i t := by
  obtain ⟨i, e, h⟩ := optP_iff h
  rw [V.int_eq e] at Rb
  obtain ⟨t, rfl⟩ := Rb
  refine ⟨?_, i, t, rfl⟩
  have d := fun x => view_d C Ra (x := x)
  have l := fun x => view_list C Ra (x := x)
  revert h d l
  generalize deref hs a = x
  intro h d l
  cases x with
  | «ints» xs => exact itemL_ok P C (f := fun k => .int (xs.getD k 0)) (l _ rfl rfl) (fun as => ⟨IntsAre.length' as, fun k hk => (ints_get as k hk).elim fun u e => ⟨_, e, u, rfl⟩⟩) h
  | list xs => exact itemL_ok P C (f := fun k => xs.getD k .none) (l _ rfl rfl) (fun as => ⟨RepDs.length as, RepDs.get as⟩) h
  | tup xs => exact itemT_ok P C (d _ rfl rfl) h
  | dict xs => exact itemD_ok P C (d _ rfl rfl) h
  | _ => exact False.elim h

/-! ### slices -/
theorem RepDs.drop : ∀ {xs : List D} {vs : List Value}, RepDs Z c xs vs → ∀ k, RepDs Z c (xs.drop k) (vs.drop k)
  | _, _, h, 0 => h
  | [], vs, h, k + 1 => by obtain rfl : vs = [] := h; rfl
  | x :: xs, vs, h, k + 1 => by
    obtain ⟨v, r, rfl, h1, h2⟩ := h
    exact RepDs.drop h2 k
theorem RepDs.take : ∀ {xs : List D} {vs : List Value}, RepDs Z c xs vs → ∀ k, RepDs Z c (xs.take k) (vs.take k)
  | _, _, _, 0 => rfl
  | [], vs, h, k + 1 => by obtain rfl : vs = [] := h; rfl
  | x :: xs, vs, h, k + 1 => by
    obtain ⟨v, r, rfl, h1, h2⟩ := h
    exact ⟨v, _, rfl, h1, RepDs.take h2 k⟩
theorem RepDs.cut {xs : List D} {vs : List Value} (h : RepDs Z c xs vs) (lo hi : Option Int) : RepDs Z c (cut xs lo hi) (cut vs lo hi) := by
  unfold Mine.cut
  rw [h.length]
  exact (h.drop _).take _
theorem cut_map {α β : Type} (f : α → β) (xs : List α) (lo hi : Option Int) : (cut xs lo hi).map f = cut (xs.map f) lo hi := by
  unfold cut
  rw [List.map_take, List.map_drop, List.length_map]
theorem cut_ints (Z : Stat) (c : Cn) {xs : List Int} {vs : List Value} (h : IntsAre vs xs) (lo hi : Option Int) : IntsAre (cut vs lo hi) (cut xs lo hi) := by
  refine (ints_iff (Z := Z) (c := c)).mpr ?_
  rw [cut_map]
  exact RepDs.cut (ints_iff.mp h) lo hi
theorem slicePick_cut (vs : List Value) (lo hi : Option Int) : (slicePick vs.toArray lo hi none).toList = cut vs lo hi := by
  rw [slicePick_plain]
  simp [cut]
noncomputable def RepO (Z : Stat) (c : Cn) : Option V → Value → Prop
  | none, v => v = .none
  | some V, v => RepV Z c V v
theorem RepO.mono {c c' : Cn} (l : c.le c') {V : Option V} {v : Value} (h : RepO Z c V v) : RepO Z c' V v := by
  cases V with
  | none => exact h
  | some V => exact RepV.mono l h
theorem partV_ok {V : Option V} {l : Option Int} {v : Value} (h : partV V = some l) (R : RepO Z c V v) : IsPart v l := by
  cases V with
  | none =>
    cases (R : v = .none)
    exact some_eq h ▸ .none
  | some V =>
    obtain ⟨i, e, h⟩ := optB_iff h
    have R : RepV Z c V v := R
    rw [V.int_eq e] at R
    obtain ⟨t, rfl⟩ := R
    exact some_eq h ▸ .int _ t
theorem sliceK_ok (P : Post Z Kp c K Q) (C : Core Z Kp c hs s) {m : Bool} {l u : Option Int} {vl vu : Value} {sl : Addr} (p1 : IsPart vl l) (p2 : IsPart vu u) (hsl : s.heap.IsSliceOf sl vl vu .none) {x : D} {b : Addr} {o : Obj} {vs : List Value} {n : Nat} (ho : s.heap.get? b = some o) (hc : o.cls = .type "list") (hd : o.data = .seq vs.toArray n)
    {k : Nat} (len : k = vs.length) (hz : k ≤ lim) (as : ListAs Z c x (cut vs l u)) (h : alloc m x hs K) : wpAny (model Z.P Z.w) A (getItem (.ref b) (.ref sl)) Q E s ∧ itemType s (.ref b) := by
  refine ⟨wpAny_getItem_list_slice ⟨o, ho, hc, n, hd⟩ hsl p1 p2 .none (by simp) ?_ (Nat.le_trans (len ▸ hz : vs.length ≤ lim) (by decide)), ⟨"list", _, ⟨o, ho, hc⟩, list_getitem_lookup⟩⟩
  exact alloc_ok (n := 0) (tk := s.toks) P C h (by rw [slicePick_cut]; exact as)
theorem sliceV_ok (P : Post Z Kp c K Q) (C : Core Z Kp c hs s) {m : Bool} {a : V} {lo hi : Option V} {va vl vu : Value} {sl : Addr} (Ra : RepV Z c a va)
    (Rl : RepO Z c lo vl) (Ru : RepO Z c hi vu) (hsl : s.heap.IsSliceOf sl vl vu .none) (h : sliceV m a lo hi hs K) :
    wpAny (model Z.P Z.w) A (getItem va (.ref sl)) Q E s ∧ itemType s va := by
  obtain ⟨l, e1, h⟩ := optP_iff h
  obtain ⟨u, e2, h⟩ := optP_iff h
  have p1 := partV_ok e1 Rl
  have p2 := partV_ok e2 Ru
  have d := fun x => view_d C Ra (x := x)
  have ls := fun x => view_list C Ra (x := x)
  revert h d ls
  generalize deref hs a = x
  intro h d ls
  cases x with
  | «ints» xs =>
    obtain ⟨a', vs, n, rfl, hl, as⟩ := ls _ rfl rfl
    exact sliceK_ok P C p1 p2 hsl (x := .ints (cut xs l u)) hl rfl rfl (IntsAre.length' as) h.1 (cut_ints Z c as l u) h.2
  | list xs =>
    obtain ⟨a', vs, n, rfl, hl, as⟩ := ls _ rfl rfl
    exact sliceK_ok P C p1 p2 hsl (x := .list (cut xs l u)) hl rfl rfl (RepDs.length as) h.1 (RepDs.cut as l u) h.2
  | arg xs =>
    obtain ⟨a', o, vs, n, rfl, g, hc, hd, as⟩ := d _ rfl rfl
    exact sliceK_ok P C p1 p2 hsl (x := .ints (cut xs l u)) (C.sub _ _ g) hc hd (IntsAre.length' as) h.1 (cut_ints Z c as l u) h.2
  | _ => exact False.elim h

/-! ### stores into a list -/
theorem ia_set {vs : List Value} {xs : List Int} (h : IA vs xs) (j : Int) (t : Tok) : ∀ k, IA (vs.set k (.int j t)) (xs.set k j) := by
  induction h with
  | nil => exact fun _ => .nil
  | cons h ih => exact fun k => match k with
    | 0 => .cons h
    | k + 1 => .cons (ih k)
theorem ints_set {vs : List Value} {xs : List Int} (h : IntsAre vs xs) (k : Nat) (j : Int) (t : Tok) : IntsAre (vs.set k (.int j t)) (xs.set k j) := of_ia (ia_set (ia_of h) j t k)
theorem setItem_listAt {Qu : Unit → Shared → Prop} {a : Addr} {vs : List Value} {n : Nat} {i : Int} {t : Tok} {x : Value} (hl : s.heap.get? a = some (listO vs n)) (hs : small i) (h0 : 0 ≤ idx i vs.length) (h1 : idx i vs.length < vs.length)
    (hq : ∀ h', h'.get? a = some (listO (vs.set (idx i vs.length).toNat x) n) → Heap.SameBut a s.heap h' → Qu () { s with heap := h' }) :
    wpAny (model Z.P Z.w) A (setItem (.ref a) (.int i t) x) Qu E s := by
  have hT : s.TypeIs (.ref a) "list" := ⟨_, hl, rfl⟩
  have hi := seqIndex_of h0 h1
  have fin : Qu () { s with heap := s.heap.update a (Obj.mapSeq (·.setIfInBounds (idx i vs.length).toNat x)) } := by
    refine hq _ ?_ (Heap.SameBut.update ..)
    rw [Heap.get?_update_self _ hl (by simp [Obj.mapSeq, Obj.isFreed])]
    simp [Obj.mapSeq]
  obtain ⟨y, hx⟩ : ∃ y, vs.toArray[(idx i vs.length).toNat]? = some y := ⟨_, Array.getElem?_eq_getElem (by simp; lia)⟩
  unfold setItem
  refine wpAny_holding ?_
  refine wpAny_bind (wpAny_sequenceKey hT (by decide) ?_)
  refine wpAny_bind (wpAny_callSpecial?_slot (name := Str.ofString "__setitem__") hT slot_list_setitem
    (wpAny_call_entry slot_list_setitem hT entry_list_setitem ?_ (args_list_setitem _ _ _)))
  show wpAny _ _ (Builtin.List.listSubscript? (.int i t) >>= _) _ _ s
  refine wpAny_bind (wpAny_listSubscript_int (fits_of hs) ?_)
  have tail : ∀ j : Nat, j = (idx i vs.length).toNat → wpAny (model Z.P Z.w) A.in1 (setSeqItemAt a j x >>= fun _ => ret .none) (fun fin s' => ∃ v, fin = .done (.ret v) ∧ (fun v s' => wpAny (model Z.P Z.w) A (pure ()) Qu E s') v s') E s := by
    rintro j rfl
    exact wpAny_bind (wpAny_setSeqItemAt hl rfl (wpAny_pure ⟨.none, rfl, wpAny_pure fin⟩))
  cases i with
  | ofNat j =>
    have e : idx (Int.ofNat j) vs.length = (j : Int) := if_neg (by simp)
    rw [e] at hx tail
    show wpAny _ _ ((seqItemAt a j >>= fun r => pure (r.map (j, ·))) >>= _) _ _ s
    refine wpAny_bind (wpAny_bind (wpAny_seqItemAt hl rfl (wpAny_pure ?_)))
    rw [show vs.toArray[j]? = _ from hx]
    exact tail j rfl
  | negSucc j =>
    show wpAny _ _ ((Builtin.List.listItems (.ref a) >>= fun xs => pure ((seqIndex? (Int.negSucc j) xs.size).bind fun i => xs[i]?.map (i, ·))) >>= _) _ _ s
    refine wpAny_bind (wpAny_bind ?_)
    show wpAny _ _ (seqItems? (.ref a) >>= _) _ _ s
    refine wpAny_bind (wpAny_seqItems hl rfl (wpAny_pure (wpAny_pure ?_)))
    rw [show vs.toArray.size = vs.length by simp, hi]
    simp only [Option.bind_some, hx, Option.map_some]
    exact tail _ rfl
theorem setItemV_ok {Ku : Hs → Prop} {Qu : Unit → Shared → Prop} (P : PostU Z Kp c Ku Qu) (C : Core Z Kp c hs s) {a b u : V} {va vb vu : Value} (Ra : RepV Z c a va) (Rb : RepV Z c b vb) (Ru : RepV Z c u vu) (h : setItemV a b u hs Ku) :
    wpAny (model Z.P Z.w) A (setItem va vb vu) Qu E s := by
  obtain ⟨n, ea, h⟩ := optP_iff h
  obtain ⟨i, eb, h⟩ := optP_iff h
  obtain ⟨j, eu, h⟩ := optP_iff h
  obtain ⟨xs, e, h⟩ := optP_iff h
  rw [V.loc_eq ea] at Ra
  rw [V.int_eq eb] at Rb
  rw [V.int_eq eu] at Ru
  obtain ⟨t, rfl⟩ := Rb
  obtain ⟨t', rfl⟩ := Ru
  obtain ⟨ad, e1, rfl⟩ := Ra
  obtain ⟨_, vs, ep, e2, as⟩ := C.locAt e1
  rw [D.ints_eq e] at as
  rw [IntsAre.length' as] at h
  exact setItem_listAt e2 h.1 h.2.1 h.2.2.1 fun h' e' hs' => P _ _ _ (.refl c) (C.setL (x := .ints _) (tk := s.toks) e1 (fun b o hb e => hs'.extBut b o hb e) e' (ints_set as _ j t')) h.2.2.2

/-! ### lists that grow -/
theorem appendD_as {x y z : D} {vs : List Value} {v : Value} (e : appendD x y = some z) (h : ListAs Z c x vs) (h' : RepD Z c y v) : ListAs Z c z (vs ++ [v]) := by
  have one : RepDs Z c [y] [v] := ⟨v, [], rfl, h', rfl⟩
  rcases orB_iff e with ⟨p, hp, e⟩ | e
  · obtain ⟨h1, h2⟩ := both_iff hp
    rw [D.ints_eq h1] at h
    rw [D.int_eq h2] at one
    rw [← some_eq e]
    refine reps_ints (Z := Z) (c := c) ?_
    rw [List.map_append]
    exact RepDs.append (ints_iff.mp h) one
  · obtain ⟨xs, hx, e⟩ := optB_iff e
    exact some_eq e ▸ RepDs.append (h.elts hx) one
theorem growV_ok {Ku : Hs → Prop} {n : Nat} {z : Option D} {a : Addr} {vs ws : List Value} (C : Core Z Kp c hs s) (hn : c.ρ[n]? = some a) (h : growV n z hs Ku) (as : ∀ z', z = some z' → ListAs Z c z' (vs ++ ws)) :
    vs.length + ws.length ≤ 2 ^ 20 ∧ ∀ h' ep, h'.get? a = some (listO (vs ++ ws) ep) → Heap.SameBut a s.heap h' → ∃ hs', Core Z Kp c hs' { s with heap := h', toks := tk } ∧ Ku hs' := by
  obtain ⟨z', ez, h⟩ := optP_iff h
  obtain ⟨k, ek, h⟩ := optP_iff h
  have as := as z' ez
  have e : k = (vs ++ ws).length := some_eq (ek.symm.trans as.length)
  exact ⟨List.length_append ▸ e ▸ h.1, fun h' _ e' hs' => ⟨_, C.setL hn (fun b o hb e => hs'.extBut b o hb e) e' as, h.2⟩⟩
theorem append_ok {Ku : Hs → Prop} (P : PostU Z Kp c Ku fun _ s' => Q .none s') (C : Core Z Kp c hs s) {n : Nat} {y : D} {va v : Value} (Ra : RepV Z c (.loc n) va) (Ry : RepD Z c y v) (h : growV n (appendD (hs.hp.getD n .none) y) hs Ku) :
    wpAny (model Z.P Z.w) A (call (.builtin "list.append") [va, v]) Q E s := by
  obtain ⟨ad, e1, rfl⟩ := Ra
  obtain ⟨_, vs, ep, e2, as⟩ := C.locAt e1
  obtain ⟨hz, hk⟩ := growV_ok (tk := s.toks) (vs := vs) (ws := [v]) C e1 h (fun z' e => appendD_as e as Ry)
  refine wpAny_call_entry slot_list_append ⟨_, e2, rfl⟩ entry_list_append ?_ (args_list_append _ _)
  show wpAny _ _ (updateSeq ad (·.push v) >>= fun _ => ret .none) _ _ s
  have hz1 : vs.toArray.size ≤ sizeLine := by simp [sizeLine]; simp at hz; lia
  refine wpAny_bind (wpAny_updateSeq e2 rfl (hz := hz1) (_hz' := by simp [sizeLine]; simp at hz; lia) (wpAny_pure ⟨.none, rfl, ?_⟩))
  obtain ⟨hs', C', k⟩ := hk (s.heap.update ad (Obj.mapSeq (·.push v))) (ep + 1) (by
    rw [Heap.get?_update_self _ e2 (by simp [Obj.mapSeq, Obj.isFreed])]
    simp [Obj.mapSeq]) (Heap.SameBut.update ..)
  exact P _ _ _ (.refl c) C' k
theorem extend_ok {Ku : Hs → Prop} (P : PostU Z Kp c Ku fun _ s' => Q .none s') (C : Core Z Kp c hs s) {n : Nat} {y : V} {va v : Value} (Ra : RepV Z c (.loc n) va) (Ry : RepV Z c y v) (h : extendV n y hs Ku) :
    wpAny (model Z.P Z.w) A (call (.builtin "list.extend") [va, v]) Q E s := by
  obtain ⟨ad, e1, rfl⟩ := Ra
  obtain ⟨_, vs, ep, e2, as⟩ := C.locAt e1
  obtain ⟨z, ez, _⟩ := optP_iff h
  · obtain ⟨l1, l2⟩ := catD_isL ez
    obtain ⟨a2, ws, k2, rfl, hl2, as2⟩ := view_list C Ry rfl l2
    obtain ⟨hz, hk⟩ := growV_ok (tk := s.toks) (vs := vs) (ws := ws) C e1 h (fun z' e => catD_as e as as2)
    have hz1 : vs.toArray.size ≤ sizeLine := by simp [sizeLine]; lia
    refine call_meets F.slot_list_extend ⟨_, e2, rfl⟩ F.entry_list_extend (F.args_list_extend_2 _ _) (AutoSeq1.list_extend_list_list_0 ad vs.toArray ep a2 ws.toArray k2 (by simp [Builtin.List.listTooLong, sizeLine]; intro _; lia) hz1 (by simp [sizeLine]; lia)) ⟨e2, hl2, ?_⟩
    obtain ⟨hs', C', k⟩ := hk (s.heap.update ad (Obj.mapSeq fun x => x ++ ws.toArray)) (if ((vs ++ ws).toArray.size == vs.toArray.size) = true then ep else ep + 1) (by
      rw [IsL.update (n := ep) (items := vs.toArray) e2]
      simp only [listO, List.append_toArray]) (Heap.SameBut.update ..)
    exact P _ _ _ (.refl c) C' k
end
section
variable {M : Model} {A : Around} {E : Value → Shared → Prop} {s : Shared}
theorem list_iseq : fillsInplaceSlot (.type "list") "add" (Operator.Add == .Add) = pure false := by
  unfold fillsInplaceSlot
  show (typeLookup (.type "list") (dunderI "add") >>= fun fi => pure (fi.isSome && !isSeqSlot fi)) = pure false
  rw [F.slot_list_iadd.lookup]
  rfl
theorem list_seq : seqSlot? (.type "list") (dunderI "add") = pure (some (.builtin "list.__iadd__")) := by
  unfold seqSlot?
  rw [F.slot_list_iadd.lookup]
  rfl
theorem inplace_list {a b : Value} {Q : Value → Shared → Prop} (ha : s.TypeIs a "list") (hb : s.TypeIs b "list") (hc : wpAny M A (call (.builtin "list.__iadd__") [a, b]) Q E s) : wpAny M A (inplaceOp .Add a b) Q E s := by
  unfold inplaceOp
  refine wpAny_holding ?_
  refine wpAny_bind (wpAny_typeOf ha (wpAny_bind (wpAny_of_eq list_iseq ?_)))
  refine wpF rfl ?_
  refine wpAny_bind (wpAny_binaryOp1_none (nm := "add") ha hb noFill_list_add ?_)
  refine wpAny_bind (wpAny_of_eq list_seq ?_)
  exact wpAny_bind (wpAny_rule hc)
end
section
variable {Z : Stat} {Kp : Addr → Option Obj} {c : Cn} {hs : Hs} {s : Shared} {K : KE} {Q : Value → Shared → Prop} {A : Around} {E : Value → Shared → Prop} {tk : Nat}
theorem iadd_ok (P : Post Z Kp c K Q) (C : Core Z Kp c hs s) {n : Nat} {y : V} {va v : Value} (Ra : RepV Z c (.loc n) va) (Ry : RepV Z c y v) (h : extendV n y hs fun hs => K (.loc n) hs) :
    wpAny (model Z.P Z.w) A (inplaceOp .Add va v) Q E s := by
  have Ra' := Ra
  obtain ⟨ad, e1, rfl⟩ := Ra
  obtain ⟨_, vs, ep, e2, as⟩ := C.locAt e1
  obtain ⟨z, ez, _⟩ := optP_iff h
  obtain ⟨l1, l2⟩ := catD_isL ez
  obtain ⟨a2, ws, k2, rfl, hl2, as2⟩ := view_list C Ry rfl l2
  obtain ⟨hz, hk⟩ := growV_ok (tk := s.toks) (vs := vs) (ws := ws) C e1 h (fun z' e => catD_as e as as2)
  have hz1 : vs.toArray.size ≤ sizeLine := by simp [sizeLine]; lia
  refine inplace_list ⟨_, e2, rfl⟩ ⟨_, hl2, rfl⟩ (call_meets F.slot_list_iadd ⟨_, e2, rfl⟩ F.entry_list_iadd (F.args_list_iadd_2 _ _) (AutoSeq1.list___iadd___list_list_0 ad vs.toArray ep a2 ws.toArray k2 (by simp [Builtin.List.listTooLong, sizeLine]; intro _; lia) hz1 (by simp [sizeLine]; lia)) ⟨e2, hl2, ?_⟩)
  obtain ⟨hs', C', k⟩ := hk (s.heap.update ad (Obj.mapSeq fun x => x ++ ws.toArray)) (if ((vs ++ ws).toArray.size == vs.toArray.size) = true then ep else ep + 1) (by
    rw [IsL.update (n := ep) (items := vs.toArray) e2]
    simp only [listO, List.append_toArray]) (Heap.SameBut.update ..)
  exact P _ _ _ _ _ (.refl c) C' Ra' k
end
theorem splice_arr {vs ws : List Value} {lo hi : Option Int} : vs.toArray.extract 0 (((lo.elim 0 (clipAt vs.toArray.size) : Nat) : Int)).toNat ++ ws.toArray ++ vs.toArray.extract (max ((lo.elim 0 (clipAt vs.toArray.size) : Nat) : Int) ((hi.elim vs.toArray.size (clipAt vs.toArray.size) : Nat) : Int)).toNat = (splice vs lo hi ws).toArray := by
  have e : (max ((lo.elim 0 (clipAt vs.toArray.size) : Nat) : Int) ((hi.elim vs.toArray.size (clipAt vs.toArray.size) : Nat) : Int)).toNat = max (lo.elim 0 (clipAt vs.toArray.size)) (hi.elim vs.toArray.size (clipAt vs.toArray.size)) := by lia
  rw [e, Int.toNat_natCast]
  apply Array.ext'
  simp [splice]
  exact List.take_of_length_le (by simp)
theorem splice_size {vs ws : List Value} {lo hi : Option Int} (hz : vs.length + ws.length ≤ lim) : (splice vs lo hi ws).toArray.size ≤ sizeLine + 1 := by
  have hq : lim ≤ sizeLine := by decide
  simp only [splice, List.size_toArray, List.length_append, List.length_take, List.length_drop]
  lia
section
variable {Z : Stat} {s : Shared} {A : Around} {E : Value → Shared → Prop}
theorem letGo_ok {M : Model} {Q : Unit → Shared → Prop} (h : Q () s) : ∀ (l k : List Value), wpAny M A (letGo l k) Q E s
  | [], _ => wpAny_pure h
  | _ :: r, k => by
    unfold letGo
    exact wpAny_bind (wpAny_holding (wpAny_point (letGo_ok h r k)))
theorem setSlice_at {Qu : Unit → Shared → Prop} {a b sl : Addr} {vs ws : List Value} {n m : Nat} {vl vu : Value} {lo hi : Option Int} (hl : s.heap.get? a = some (listO vs n)) (hb : s.heap.get? b = some (listO ws m))
    (hs : s.heap.IsSliceOf sl vl vu .none) (pl : IsPart vl lo) (pu : IsPart vu hi) (hz : vs.length + ws.length ≤ lim)
    (hq : ∀ h' k, h'.get? a = some (listO (splice vs lo hi ws) k) → Heap.SameBut a s.heap h' → Qu () { s with heap := h' }) :
    wpAny (model Z.P Z.w) A (setItem (.ref a) (.ref sl) (.ref b)) Qu E s := by
  have hT : s.TypeIs (.ref a) "list" := ⟨_, hl, rfl⟩
  have hTb : s.TypeIs (.ref b) "list" := ⟨_, hb, rfl⟩
  obtain ⟨os, hos, hcs, hds⟩ := id hs
  have hTs : s.TypeIs (.ref sl) "slice" := ⟨os, hos, hcs⟩
  unfold setItem
  refine wpAny_holding ?_
  refine wpAny_bind (wpAny_sequenceKey hT (by decide) ?_)
  refine wpAny_bind (wpAny_callSpecial?_slot (name := Str.ofString "__setitem__") hT slot_list_setitem
    (wpAny_call_entry slot_list_setitem hT entry_list_setitem ?_ (args_list_setitem _ _ _)))
  show wpAny _ _ (Builtin.List.listSubscript? (.ref sl) >>= _) _ _ s
  refine wpAny_bind ?_
  unfold Builtin.List.listSubscript?
  refine wpAny_bind (wpAny_specialOf hTs slice_no_index (wpAny_pure ?_))
  show wpAny _ _ (typeOf (.ref sl) >>= _) _ _ s
  refine wpAny_bind (wpAny_typeOf hTs ?_)
  rw [if_neg (by decide), listSliceParts_eq]
  refine wpAny_bind (wpAny_bind (wpAny_field hos hds (x := .none) rfl (wpAny_bind (wpAny_listPart .none ?_))))
  refine wpF rfl ?_
  refine wpAny_bind (wpAny_field hos hds (x := vl) rfl (wpAny_bind (wpAny_listPart pl ?_)))
  refine wpAny_bind (wpAny_field hos hds (x := vu) rfl (wpAny_bind (wpAny_listPart pu (wpAny_pure ?_))))
  have items : ∀ {c : Addr} {us : List Value} {k : Nat} {Q : Array Value → Shared → Prop}, s.heap.get? c = some (listO us k) → Q us.toArray s → wpAny (model Z.P Z.w) A.in1 (Builtin.List.listItems (.ref c)) Q E s := fun e h => by
    unfold Builtin.List.listItems
    exact wpAny_bind (wpAny_seqItems e rfl (wpAny_pure h))
  have all : ∀ {Q : Array Value → Shared → Prop}, Q ws.toArray s → wpAny (model Z.P Z.w) A.in1 (Builtin.List.listAllItems (.ref b) "must assign iterable to extended slice") Q E s := fun h => by
    unfold Builtin.List.listAllItems
    refine wpAny_bind (wpAny_typeOf hTb ?_)
    exact wpT rfl (items hb h)
  dsimp only
  cases Builtin.List.listSameRef (.ref a) (.ref b) <;> (first | refine wpT rfl (wpAny_bind (items hb ?_)) | refine wpF rfl (wpAny_bind (all ?_)))
  all_goals
    refine wpAny_bind (items hl ?_)
    refine wpAny_bind (wpAny_of_eq (sliceIndices_raw lo hi none vs.toArray.size (by simp)) ?_)
    rw [sliceBounds_plain]
    refine wpT rfl (wpAny_bind (wpAny_rule ?_))
    refine wpF (by have hq : lim ≤ sizeLine := (by decide); simp [Builtin.List.listTooLong]; lia) ?_
    refine wpAny_bind (m := Builtin.List.listUpdate _ _) ?_
    refine wpAny_updateSeq (n := n) hl rfl (wpAny_bind (letGo_ok (wpAny_pure ⟨_, rfl, wpAny_pure (hq _ _ (by
      rw [IsL.update (n := n) (items := vs.toArray) hl, splice_arr]) (Heap.SameBut.update ..))⟩) _ _)) (by have hq : lim ≤ sizeLine := (by decide); simp; lia) (by rw [splice_arr]; exact splice_size hz)
end
section
variable {Z : Stat} {Kp : Addr → Option Obj} {c : Cn} {hs : Hs} {s : Shared} {K : KE} {Q : Value → Shared → Prop} {A : Around} {E : Value → Shared → Prop} {tk : Nat}
theorem splice_map {α β : Type} (f : α → β) (xs ys : List α) (lo hi : Option Int) : splice (xs.map f) lo hi (ys.map f) = (splice xs lo hi ys).map f := by
  unfold splice
  rw [List.length_map, List.map_append, List.map_append, List.map_take, List.map_drop]
theorem splice_ints (Z : Stat) (c : Cn) {xs ys : List Int} {vs ws : List Value} (h : IntsAre vs xs) (h' : IntsAre ws ys) (lo hi : Option Int) : IntsAre (splice vs lo hi ws) (splice xs lo hi ys) := by
  refine (ints_iff (Z := Z) (c := c)).mpr ?_
  rw [← splice_map]
  have a := (ints_iff (Z := Z) (c := c)).mp h
  unfold splice
  rw [← (show (xs.map D.int).length = vs.length from RepDs.length a)]
  exact ((a.take _).append ((ints_iff (Z := Z) (c := c)).mp h')).append (a.drop _)
theorem setSliceV_ok {Ku : Hs → Prop} {Qu : Unit → Shared → Prop} (P : PostU Z Kp c Ku Qu) (C : Core Z Kp c hs s) {a u : V} {lo hi : Option V} {va vl vh vu : Value} {sl : Addr} (Ra : RepV Z c a va) (Rl : RepO Z c lo vl) (Rh : RepO Z c hi vh) (Ru : RepV Z c u vu) (hsl : s.heap.IsSliceOf sl vl vh .none)
    (h : setSliceV a lo hi u hs Ku) : wpAny (model Z.P Z.w) A (setItem va (.ref sl) vu) Qu E s := by
  obtain ⟨n, ea, h⟩ := optP_iff h
  obtain ⟨l, el, h⟩ := optP_iff h
  obtain ⟨k, ek, h⟩ := optP_iff h
  obtain ⟨xs, ex, h⟩ := optP_iff h
  obtain ⟨ys, ey, h⟩ := optP_iff h
  rw [V.loc_eq ea] at Ra
  obtain ⟨ad, e1, rfl⟩ := Ra
  obtain ⟨_, vs, ep, e2, as⟩ := C.locAt e1
  rw [D.ints_eq ex] at as
  obtain ⟨b, ws, m, rfl, hb, as2⟩ := view_list C Ru (D.ints_eq ey) rfl
  rw [IntsAre.length' as, IntsAre.length' as2] at h
  exact setSlice_at e2 hb hsl (partV_ok el Rl) (partV_ok ek Rh) h.1 fun h' k' e' hs' => P _ _ _ (.refl c) (C.setL (x := .ints _) (tk := s.toks) e1 (fun b o hb e => hs'.extBut b o hb e) e' (splice_ints Z c as as2 l k)) h.2
end
end Mine
set_option genSizeOf false
set_option genInjectivity false
set_option maxRecDepth 100000
namespace Mine
open PySem PySem.W PySem.Calls PyProof.Rows

/-- what is known of the class -/
structure ClsOK (Z : Stat) (K : Frag) : Prop where
  inK : ∀ a o, K.lookup a = some o → Z.G₀ a = some o
  get : findIn K (.ref Z.ca) "__getattribute__" = some (some (.builtin "object.__getattribute__"))
  noget : findIn K (.ref Z.ca) "__getattr__" = some none
  set : findIn K (.ref Z.ca) "__setattr__" = some (some (.builtin "object.__setattr__"))
  plain : plainOver K Z.ca = true
  hasDict : hasDictIn K Z.ca = true
  makes : makesIn K Z.ca = true
  keep : keepIn K (.ref Z.ca) = true
  own : ∀ x, sMem x fldNames = true → findIn K (.ref Z.ca) x = some none
  meth : ∀ x m y, clsD Z.X x = some (.fn m y) → ∃ f, Z.fa true y = some f ∧ findIn K (.ref Z.ca) x = some (some (.ref f)) ∧ typeIn K (.ref f) = some (.type "function") ∧
    specialIn K (.ref f) "__get__" = some (some (.builtin "function.__get__")) ∧ takesIn K (.ref f) = some false ∧ copiedNames.contains x = false
  con : ∀ x d, clsD Z.X x = some d → (∀ m y, d ≠ .fn m y) → ∃ v, findIn K (.ref Z.ca) x = some (some v) ∧ RepD Z ⟨Z.G₀, [], none⟩ d v ∧ specialIn K v "__get__" = some none ∧ handedIn v = true ∧ copiedNames.contains x = false

section
variable {Z : Stat} {Kp : Addr → Option Obj} {c : Cn} {hs : Hs} {s : Shared} {K : KE} {Q : Value → Shared → Prop} {A : Around} {E : Value → Shared → Prop} {tk : Nat} {F : Frag}

theorem ClsOK.here (B : ClsOK Z F) (C : Core Z Kp c hs s) : F.In s.heap := fun a o e => C.sub _ _ (C.base _ _ (B.inK a o e))
theorem Core.baseLe (C : Core Z Kp c hs s) : Cn.le ⟨Z.G₀, [], none⟩ c := ⟨C.base, fun n a h => by simp at h, fun _ h => nomatch h⟩

theorem isStr_sEq (x y : Str) (t : Tok) : (Value.str y t).isStr x = sEq x y := by
  show (y == x) = sEq x y
  rw [← sEq_beq]
  cases h : sEq x y with
  | true => rw [sEq_iff.mp h]; exact sEq_iff.mpr rfl
  | false =>
    cases h2 : sEq y x with
    | true => rw [sEq_iff.mp h2, sEq_iff.mpr rfl] at h; cases h
    | false => rfl
/-! ### the made object -/
inductive FE (Z : Stat) (c : Cn) : Option V → Option DictEntry → Prop
  | none : FE Z c none none
  | some {u : V} {e : DictEntry} : RepV Z c u e.val → FE Z c (some u) (some e)
theorem FldEnts.fe {es : List DictEntry} {f : Loc} (h : FldEnts Z c es f) (x : Str) : FE Z c (sLook x f) (es.find? (·.key.isStr x)) := by
  induction h with
  | nil => exact .none
  | @cons e es y t u f ek R r ih =>
    have e1 : e.key.isStr x = sEq x y := by rw [ek]; exact isStr_sEq ..
    show FE Z c (if sEq x y = true then some u else sLook x f) _
    rw [List.find?_cons, e1]
    cases sEq x y with
    | true => exact .some R
    | false => exact ih
theorem FldEnts.refs {es : List DictEntry} {f : Loc} (h : FldEnts Z c es f) : es.any (·.refKey) = false := by
  induction h with
  | nil => rfl
  | @cons e es y t u f ek R r ih =>
    rw [List.any_cons, ih, Bool.or_false]
    unfold DictEntry.refKey
    rw [ek]
theorem FldEnts.find {es : List DictEntry} {f : Loc} (h : FldEnts Z c es f) (x : Str) : (∀ u, sLook x f = some u → ∃ v, getL x es = some (some v) ∧ RepV Z c u v) ∧ (sLook x f = none → getL x es = some none) := by
  have fe := h.fe x
  unfold getL
  rw [h.refs]
  revert fe
  generalize sLook x f = a
  generalize es.find? (·.key.isStr x) = b
  intro fe
  cases fe with
  | none => exact ⟨fun u h => (nomatch h), fun _ => rfl⟩
  | @some u e R => exact ⟨fun u h => ⟨e.val, rfl, some_eq h ▸ R⟩, fun h => nomatch h⟩
theorem FldEnts.put {es : List DictEntry} {f : Loc} (h : FldEnts Z c es f) (x : Str) (hsh : Int) (t : Tok) {u : V} {v : Value} (R : RepV Z c u v) : FldEnts Z c (W.putL x hsh (.str x t) v es) (putL x u f) := by
  induction h with
  | nil => exact .cons rfl R .nil
  | @cons e es y t' u' f ek R' r ih =>
    have e1 : e.key.isStr x = sEq x y := by rw [ek]; exact isStr_sEq ..
    show FldEnts Z c (if e.key.isStr x = true then _ else _) (if sEq x y = true then _ else _)
    rw [e1]
    cases hq : sEq x y with
    | true =>
      cases sEq_iff.mp hq
      exact .cons ek R r
    | false => exact .cons ek R' ih
theorem FldEnts.length {es : List DictEntry} {f : Loc} (h : FldEnts Z c es f) : es.length = f.length := by
  induction h with
  | nil => rfl
  | cons _ _ _ ih => exact congrArg Nat.succ ih
inductive InstIs (Z : Stat) (c : Cn) (h : Heap) (q d : Addr) (f : Loc) : Prop
  | mk (es : List DictEntry) (n : Nat) (sl : Array (Option Value)) (I : InstAt h q ⟨.ref Z.ca, some d, .plain, sl⟩ Z.ca (some (dictOf es n))) (e : h.get? d = some (dictOf es n)) (fe : FldEnts Z c es f) : InstIs Z c h q d f
theorem Core.instAt (C : Core Z Kp c hs s) {q d : Addr} {f : Loc} (hm : c.mx = some (q, d)) (hf : hs.mp = some f) : InstIs Z c s.heap q d f := by
  obtain ⟨sl, e⟩ := C.inst q d hm
  obtain ⟨o, e1, es, n, rfl, fe⟩ := C.atM (d, isFld Z c f) (by rw [hm, hf]; exact List.mem_append_right _ (.head _))
  exact ⟨es, n, sl, ⟨C.sub _ _ e, rfl, rfl, e1⟩, e1, fe⟩
theorem handed_rep {x : D} {v : Value} (h : RepD Z c x v) : handedIn v = true ∨ ∃ b, x = .bi b := by
  cases x with
  | bi b => exact .inr ⟨b, rfl⟩
  | none => exact .inl (congrArg handedIn h)
  | bool _ => exact .inl (congrArg handedIn h)
  | int _ => exact .inl (let ⟨_, e⟩ := h; congrArg handedIn e)
  | str _ => exact .inl (let ⟨_, e⟩ := h; congrArg handedIn e)
  | cls => exact .inl (congrArg handedIn h)
  | fn _ _ => exact .inl (let ⟨_, e, _⟩ := h; congrArg handedIn e)
  | meth _ => exact .inl (let ⟨_, _, _, _, e, _, _, _⟩ := h; congrArg handedIn e)
  | mpu => exact .inl (let ⟨_, _, e, _⟩ := h; congrArg handedIn e)
  | rng _ => exact .inl (let ⟨_, _, _, _, e, _⟩ := h; congrArg handedIn e)
  | arg _ => exact .inl (let ⟨_, _, _, _, e, _, _, _, _⟩ := h; congrArg handedIn e)
  | dict _ => exact .inl (let ⟨_, _, _, e, _, _, _⟩ := h; congrArg handedIn e)
  | _ => exact .inl (let ⟨_, _, _, e, _, _⟩ := h; congrArg handedIn e)
theorem handed_bi (b : Bi) : handedIn (biV b) = true := by cases b <;> first | rfl | decide +kernel
theorem handed_all {x : V} {v : Value} (h : RepV Z c x v) : handedIn v = true := by
  cases x with
  | d x =>
    rcases handed_rep h with e | ⟨b, rfl⟩
    · exact e
    · rw [show v = biV b from h]; exact handed_bi b
  | loc n => obtain ⟨a, _, rfl⟩ := h; rfl
theorem getMeth_ok (B : ClsOK Z F) (P : Post Z Kp c K Q) (C : Core Z Kp c hs s) {q d : Addr} {es : List DictEntry} {n : Nat} {sl : Array (Option Value)} {x y : Str} {m expr : Bool} (hm : c.mx = some (q, d)) (I : InstAt s.heap q ⟨.ref Z.ca, some d, .plain, sl⟩ Z.ca (some (dictOf es n))) (hl : getL x es = some none)
    (hy : clsD Z.X x = some (.fn m y)) (h : K (.d (.meth y)) hs) : wpAny (model Z.P Z.w) A (getAttr (.ref q) x expr) Q E s := by
  have X := B.here C
  obtain ⟨f, hf, h1, h2, h3, h4, h5⟩ := B.meth x m y hy
  obtain ⟨cd, hc', hd⟩ := any_some B.hasDict
  have ho : W.ownOf cd (some (dictOf es n)) x = some none := by unfold W.ownOf; rw [if_pos hd]; exact hl
  have fo : findObj F Z.ca (some (dictOf es n)) x = some (.bind (.builtin "function.__get__") (.ref f)) := by
    unfold findObj
    rw [hc', Option.bind_some, h1, Option.bind_some]
    dsimp only
    rw [h3, Option.bind_some]
    dsimp only
    rw [h4, Option.bind_some]
    dsimp only
    rw [ho, h5]
    rfl
  have e2 : (s.heap.push (methodObj (.ref f) (.ref q))).get? s.heap.objs.size = some (methodObj (.ref f) (.ref q)) := Heap.get?_push_size _ rfl
  obtain ⟨C', l⟩ := C.newG (tk := s.toks + 1) (fun b o e => Heap.get?_push_of_some _ e) (fresh_size _) e2
  exact get_bind X I B.get fo B.noget (wpAny_call (fn_get (s := { s with toks := s.toks + 1 }) X h2 (handed_on rfl (P _ (.d (.meth y)) _ _ _ l C' ⟨_, f, q, d, rfl, hf, hm, Cn.addG_get _ _ _⟩ h))))
theorem getAttrV_ok (B : ClsOK Z F) (P : Post Z Kp c K Q) (C : Core Z Kp c hs s) {o : V} {vo : Value} {x : Str} {expr : Bool} (Ro : RepV Z c o vo) (h : getAttrV Z.X o x hs K) : wpAny (model Z.P Z.w) A (getAttr vo x expr) Q E s := by
  obtain ⟨eo, h⟩ := need_iff h
  obtain ⟨f, hf, h⟩ := optP_iff h
  rw [V.isMpu_eq eo] at Ro
  obtain ⟨q, d, rfl, hm⟩ := Ro
  obtain ⟨es, n, sl, I, e1, fe⟩ := C.instAt hm hf
  rcases orP_iff2 h with ⟨u, hu, h⟩ | ⟨hu, h⟩
  · obtain ⟨hx, h⟩ := need_iff h
    obtain ⟨v, hv, R⟩ := (fe.find x).1 u hu
    exact get_value (B.here C) I B.get (findObj_own B.hasDict (B.own x hx) rfl hv) (handed_all R) (P.now (C.toks (tk := s.toks + 1)) R h)
  · have hl := (fe.find x).2 hu
    obtain ⟨dd, hdd, h⟩ := optP_iff h
    rcases boundD_cases dd with ⟨m, y, rfl⟩ | ⟨hne, e⟩
    · exact getMeth_ok B P C hm I hl hdd h
    · obtain ⟨v, h1, R, h3, h4, h5⟩ := B.con x dd hdd hne
      rw [e] at h
      exact get_value (B.here C) I B.get (findObj_cls B.hasDict h1 h3 h4 h5 hl) h4 (P.now (V := .d dd) (C.toks (tk := s.toks + 1)) (RepD.mono C.baseLe _ _ R) h)

theorem putL_len (x : Str) (hsh : Int) (k v : Value) : ∀ es : List DictEntry, (W.putL x hsh k v es).length ≤ es.length + 1
  | [] => Nat.le_refl _
  | e :: r => by
    show (if e.key.isStr x = true then _ else _ : List DictEntry).length ≤ _
    split
    · exact Nat.le_succ _
    · exact Nat.succ_le_succ (putL_len x hsh k v r)
theorem getL_any {es : List DictEntry} {x : Str} (hl : (getL x es).isSome = true) : (!es.any (·.key.isStr x) && es.any (·.refKey)) = false := by
  unfold getL at hl
  cases he : es.find? (·.key.isStr x) with
  | some en => rw [List.any_eq_true.mpr ⟨en, List.mem_of_find?_eq_some he, List.find?_some he⟩]; rfl
  | none =>
    rw [he] at hl
    cases hr : es.any (·.refKey) with
    | false => exact Bool.and_false _
    | true => rw [hr] at hl; exact nomatch hl
theorem setattr_at {Qu : Unit → Shared → Prop} {q d : Addr} {ox : Obj} {es : List DictEntry} {n : Nat} {x : Str} {v : Value} (B : ClsOK Z F) (X : F.In s.heap) (I : InstAt s.heap q ox Z.ca (some (dictOf es n))) (hd : ox.dict = some d) (D : s.heap.get? d = some (dictOf es n))
    (hx : sMem x fldNames = true) (hl : (getL x es).isSome = true) (hz : es.length ≤ 500)
    (h : ∀ h', h'.get? d = some (dictOf (W.putL x (PyData.keyHash Z.w.params x) (.str x (s.toks + 1)) v es) (putN x es n)) → Heap.SameBut d s.heap h' → Qu () { s with heap := h', toks := s.toks + 2 }) :
    wpAny (model Z.P Z.w) A (setAttr (.ref q) x v) Qu E s := by
  have ht : takerIn F Z.ca x = some none := by unfold takerIn; rw [B.own x hx]; rfl
  refine set_plain X I B.set (osa_open (s := { s with toks := s.toks + 1 }) X I B.plain ht fun b => ?_)
  obtain ⟨cd, hc, hd'⟩ := any_some B.hasDict
  obtain ⟨hxx, hcl, hn, -⟩ := I
  obtain ⟨oc, odi, oda, osl⟩ := ox
  dsimp only at hcl hd
  subst hcl hd
  have put : Obj.putName x (PyData.keyHash Z.w.params x) (.str x (s.toks + 1)) v (dictOf es n) = dictOf (W.putL x (PyData.keyHash Z.w.params x) (.str x (s.toks + 1)) v es) (putN x es n) := putName_dict ..
  have D' : (s.heap.update d (Obj.putName x (PyData.keyHash Z.w.params x) (.str x (s.toks + 1)) v)).get? d = some (dictOf (W.putL x (PyData.keyHash Z.w.params x) (.str x (s.toks + 1)) v es) (putN x es n)) := by
    rw [Heap.get?_update_self _ D (by rw [put]; rfl), put]
  refine wpAny_bind (wpAny_pure (wpAny_bind (wpAny_bind (wpAny_loadPart hxx (wpAny_bind (looks_clsIn X hc _ _ _ _ (fun _ _ e => e) ?_))))))
  rw [hd']
  refine wpAny_pure (a := some d) (wpAny_bind (wpAny_pure (wpAny_bind ?_)))
  unfold nsSet
  refine wpAny_bind (wpAny_bind (wpAny_askSetting (wpAny_pure (wpAny_bind (wpAny_mkText (wpAny_bind (wpAny_loadPart D ?_)))))))
  refine wpF (by rw [aRefKeyMayBeTheName_at, List.any_toArray, List.any_toArray]; exact getL_any hl) ?_
  refine wpAny_updatePart D ?_
  refine wpAny_bind (wpAny_lookBehind D' (pastItsLine_dict (by
    have : (W.putL x (PyData.keyHash Z.w.params x) (.str x (s.toks + 1)) v es).length ≤ es.length + 1 := putL_len _ _ _ _ _
    rw [List.size_toArray, sizeLine_eq]; lia)) ?_)
  exact wpAny_pure (h _ D' (Heap.SameBut.update ..))
theorem setAttrV_ok {Ku : Hs → Prop} {Qu : Unit → Shared → Prop} (B : ClsOK Z F) (P : PostU Z Kp c Ku Qu) (C : Core Z Kp c hs s) {o u : V} {vo vu : Value} {x : Str} (Ro : RepV Z c o vo) (Ru : RepV Z c u vu) (h : setAttrV o x u hs Ku) :
    wpAny (model Z.P Z.w) A (setAttr vo x vu) Qu E s := by
  obtain ⟨eo, h⟩ := need_iff h
  obtain ⟨f, hf, h⟩ := optP_iff h
  obtain ⟨hx, h⟩ := need_iff h
  obtain ⟨hx, hn⟩ := and_t hx
  rw [V.isMpu_eq eo] at Ro
  obtain ⟨q, d, rfl, hm⟩ := Ro
  obtain ⟨es, n, sl, I, e1, fe⟩ := C.instAt hm hf
  have hl : (getL x es).isSome = true := by
    cases hu : sLook x f with
    | some u' => obtain ⟨v, hv, _⟩ := (fe.find x).1 u' hu; rw [hv]; rfl
    | none => rw [(fe.find x).2 hu]; rfl
  exact setattr_at B (B.here C) I rfl e1 hx hl (fe.length ▸ Nat.le_trans (Nat.le_of_ble_eq_true hn) (by decide)) fun h' e' hs' =>
    P _ _ _ (.refl c) (C.setM hm hf (fun b o hb e => hs'.extBut b o hb e) e' ⟨_, _, rfl, fe.put x _ _ Ru⟩) h
/-- a method looked up to be called -/
theorem isMeth_ok (B : ClsOK Z F) (C : Core Z Kp c hs s) {vo : Value} {x y : Str} {f : Loc} {pl : Sem Bool} {Qm : Value × List Value → Shared → Prop} (Ro : RepV Z c (.d .mpu) vo) (hf : hs.mp = some f) (h : isMeth Z.X x f = some y)
    (hq : ∀ a, Z.fa true y = some a → Qm (.ref a, [vo]) s) : wpAny (model Z.P Z.w) A (getMethod vo x pl) Qm E s := by
  obtain ⟨q, d, rfl, hm⟩ := Ro
  obtain ⟨hu, h⟩ := noB_iff h
  obtain ⟨dd, hd, h⟩ := optB_iff h
  obtain ⟨m, rfl⟩ := D.fn_eq h
  obtain ⟨es, n, sl, I, e1, fe⟩ := C.instAt hm hf
  obtain ⟨a, ha, h1, h2, h3, h4, h5⟩ := B.meth x m y hd
  have hl := (fe.find x).2 (none_of_isSome hu)
  exact method_fn (B.here C) I B.get B.noget h1 h2 (by show (lookIn x (dictOf es n)).map _ = _; rw [lookIn_dict, hl]; rfl) (hq a ha)
/-- a list's own method looked up to be called -/
theorem listMeth_ok {a : Addr} {vs : List Value} {n : Nat} (hl : s.heap.get? a = some (listO vs n)) {pl : Sem Bool} {Qm : Value × List Value → Shared → Prop} {x : Str} {id : String} (pa : PlainAttrs "list") (slot : Slot "list" x id) (hty : typeOf (.builtin id) = pure (.type "method_descriptor"))
    (hq : Qm (.builtin id, [.ref a]) s) : wpAny (model Z.P Z.w) A (getMethod (.ref a) x pl) Qm E s :=
  getMethod_builtin ⟨_, hl, rfl⟩ pa slot hty (fun b e => by cases e; exact ⟨_, hl, rfl⟩) hq

/-! ### built-in functions -/
theorem lenV_ok (P : Post Z Kp c K Q) (C : Core Z Kp c hs s) {v : V} {w : Value} {n : Nat} (R : RepV Z c v w) (hn : lenD (deref hs v) = some n) (hz : n < 2 ^ 62) (h : K (.d (.int n)) hs) : wpAny (model Z.P Z.w) A (call (.builtin "len") [w]) Q E s := by
  have d := fun x => view_d C R (x := x)
  have l := fun x => view_list C R (x := x)
  revert hn d l
  generalize deref hs v = x
  intro hn d l
  have hl : ∀ {vs : List Value}, n = vs.length → (vs.toArray.size : Int) < 2 ^ 63 := fun {vs} e => by show (vs.length : Int) < 2 ^ 63; lia
  have list : SeqAt s.heap (fun vs => n = vs.length) w → wpAny (model Z.P Z.w) A (call (.builtin "len") [w]) Q E s := fun V => by
    obtain ⟨a, vs, k, rfl, g, e⟩ := V
    exact PyProof.Rows.len_list (items := vs.toArray) ⟨_, g, rfl, k, rfl⟩ (hl e) (P.int C (by cases e; exact h))
  cases x with
  | tup xs =>
    obtain ⟨a, vs, k, rfl, g, as⟩ := d _ rfl rfl
    have e : n = vs.length := (some_eq hn).symm.trans as.length
    exact PyProof.Rows.len_tuple (items := vs.toArray) ⟨_, C.sub _ _ g, rfl, k, rfl⟩ (hl e) (P.int C (by cases e; exact h))
  | list xs => exact list (let ⟨a, vs, k, e, g, as⟩ := l _ rfl rfl; ⟨a, vs, k, e, g, (some_eq hn).symm.trans (RepDs.length as)⟩)
  | «ints» xs => exact list (let ⟨a, vs, k, e, g, as⟩ := l _ rfl rfl; ⟨a, vs, k, e, g, (some_eq hn).symm.trans (IntsAre.length' as)⟩)
  | _ => exact none_some hn
theorem sumV_ok (P : Post Z Kp c K Q) (C : Core Z Kp c hs s) {xs : List Int} {w : Value} (R : SeqAt s.heap (fun vs => IntsAre vs xs) w) (hh : A.handled = none) (h : K (.d (.int xs.sum)) hs) : wpAny (model Z.P Z.w) A (call (.builtin "sum") [w]) Q E s := by
  obtain ⟨a, vs, n, rfl, hl, as⟩ := R
  have l : s.heap.IsList a vs.toArray := ⟨_, hl, rfl, n, rfl⟩
  have len : xs.length = vs.length := IntsAre.length' as
  refine call_sum_walkG (wpAny_pyIter_list l ?_)
  have hlt := Heap.lt_size hl
  refine ⟨_, _, _, _, _, _, fun i => xs.getD i 0, rfl, Walks.list (A := A.in1) hh s.heap.objs.size a (Nat.ne_of_lt hlt) vs.toArray, ⟨⟨_, Heap.get?_push_size _ rfl, rfl, rfl⟩, ⟨_, Heap.get?_push_of_some _ hl, rfl, n, rfl⟩⟩, fun b hb => ?_, fun i v hv => ?_, fun h' tk t' hk => ?_⟩
  · show b < (s.heap.push _).objs.size
    rw [Heap.size_push]
    rcases List.mem_cons.mp hb with e | hb
    · rw [e]; exact Nat.lt_succ_self _
    · rw [List.mem_singleton.mp hb]; exact Nat.lt_succ_of_lt hlt
  · have e' : vs[i]? = some v := (List.getElem?_toArray ..).symm.trans hv
    obtain ⟨t, e⟩ := ints_get as i (len ▸ (List.getElem?_eq_some_iff.mp e').1)
    exact ⟨t, some_eq (e'.symm.trans e)⟩
  · have e : preSum (fun i => xs.getD i 0) vs.toArray.size = xs.sum := by
      rw [PyProof.Rows.preSum_getD, show vs.toArray.size = xs.length from len.symm, List.take_length]
    rw [e]
    refine P.now (V := .d (.int xs.sum)) (C.keepTo fun b o e => hk b o ?_ (Heap.get?_push_of_some _ e)) ⟨_, rfl⟩ h
    have := Heap.lt_size e
    exact fun q => absurd (List.mem_singleton.mp q) (Nat.ne_of_lt this)
theorem rangeV_ok (P : Post Z Kp c K Q) (C : Core Z Kp c hs s) {n : Int} {t : Tok} (h : K (.d (.rng n)) hs) : wpAny (model Z.P Z.w) A (call (.type "range") [.int n t]) Q E s := by
  refine call_range_1 ?_
  obtain ⟨C', l⟩ := C.newG (tk := s.toks + 1 + 1) (h' := s.heap.push { cls := .type "range", data := .fields #[.int 0 s.toks, .int n t, .int 1 (s.toks + 1)] }) (fun b o e => Heap.get?_push_of_some _ e) (fresh_size _) (Heap.get?_push_size _ rfl)
  exact P _ (.d (.rng n)) _ _ _ l C' ⟨_, _, _, _, rfl, Cn.addG_get _ _ _⟩ h
theorem biCall_ok (P : Post Z Kp c K Q) (C : Core Z Kp c hs s) {b : Bi} {vs : List V} {ws : List Value} (R : RepVs Z c vs ws) (hh : A.handled = none) (h : biCall b vs hs K) : wpAny (model Z.P Z.w) A (call (biV b) ws) Q E s := by
  obtain ⟨v, e, h⟩ := optP_iff h
  rw [one_eq e] at R
  obtain ⟨w, r, rfl, R1, rfl⟩ := R
  cases b with
  | len =>
    obtain ⟨n, hn, h⟩ := optP_iff h
    exact lenV_ok P C R1 hn h.1 h.2
  | sum =>
    obtain ⟨xs, hx, h⟩ := optP_iff h
    exact sumV_ok P C (view_list C R1 (D.ints_eq hx) rfl) hh h.2
  | range =>
    obtain ⟨n, hx, h⟩ := optP_iff h
    rw [V.int_eq hx] at R1
    obtain ⟨t, rfl⟩ := R1
    exact rangeV_ok P C h.2
  | _ => exact False.elim h
end
end Mine
set_option genSizeOf false
set_option genInjectivity false
set_option maxRecDepth 100000
namespace Mine
open PySem PySem.W PySem.Calls PyProof.Rows

inductive GlobA (h : Heap) (x : Str) (v : Value) : Prop
  | mk (gm : Str → Option Value) (h1 : h.Ns mainGlobals gm) (h2 : gm x = some v) : GlobA h x v
inductive GlobB (h : Heap) (x : Str) (v : Value) : Prop
  | mk (gm bm : Str → Option Value) (h1 : h.Ns mainGlobals gm) (h2 : gm x = none) (h3 : h.Ns builtinsNs bm) (h4 : bm x = some v) : GlobB h x v
noncomputable def GlobIs (h : Heap) (x : Str) (v : Value) : Prop := GlobA h x v ∨ GlobB h x v
structure BaseOK (Z : Stat) (F : Frag) : Prop where
  cls : ClsOK Z F
  glob : ∀ x d, glob Z.X x = some d → ∃ v, RepD Z ⟨Z.G₀, [], none⟩ d v ∧ ∀ h, Sub Z.G₀ h → GlobIs h x v
  nolim : ∀ h, Sub Z.G₀ h → h.NoLimit
  fns : ∀ m x a, Z.fa m x = some a → ∃ o fd, Z.G₀ a = some o ∧ o.data = .func fd
structure EnvOK (env : Env) (sc : Names) : Prop where
  names : env.scope.names = sc
  kind : env.scope.kind = .function
  glob : env.globals = mainGlobals
  blt : env.builtins = builtinsNs
  nodebug : sLook "__debug__" sc = none
  cells : ∀ x, (env.kindOf x = some .cell ∨ env.kindOf x = some .free) → (env.cells.lookup x).isSome = true
inductive NsIn (Z : Stat) (Kp : Addr → Option Obj) (c : Cn) (env : Env) (loc : Loc) : Prop
  | mk (o : Obj) (es : Array DictEntry) (ep : Nat) (h1 : Kp env.locals = some o) (h2 : o.data = .dict es ep) (h3 : StrKeys es) (h4 : ∀ x V, sLook x loc = some V → env.kindOf x = some .local → ∃ v, nsFind es x = some v ∧ RepV Z c V v) : NsIn Z Kp c env loc
inductive CellIn (Z : Stat) (Kp : Addr → Option Obj) (c : Cn) (env : Env) (x : Str) (V : V) : Prop
  | mk (a : Addr) (v : Value) (o : Obj) (h1 : env.cells.lookup x = some a) (h2 : Kp a = some o) (h3 : o.data = .cell (some v)) (h4 : RepV Z c V v) : CellIn Z Kp c env x V
structure FrameIn (Z : Stat) (Kp : Addr → Option Obj) (c : Cn) (env : Env) (loc : Loc) : Prop where
  ns : NsIn Z Kp c env loc
  cell : ∀ x V, sLook x loc = some V → (env.kindOf x = some .cell ∨ env.kindOf x = some .free) → CellIn Z Kp c env x V
theorem FrameIn.mono {Z : Stat} {Kp : Addr → Option Obj} {c c' : Cn} {env : Env} {loc : Loc} (l : c.le c') (h : FrameIn Z Kp c env loc) : FrameIn Z Kp c' env loc := by
  obtain ⟨⟨o, es, ep, h1, h2, h3, h4⟩, h5⟩ := h
  refine ⟨⟨o, es, ep, h1, h2, h3, fun x V e k => ?_⟩, fun x V e k => ?_⟩
  · obtain ⟨v, a, b⟩ := h4 x V e k
    exact ⟨v, a, b.mono l⟩
  · obtain ⟨a, v, o, h1, h2, h3, h4⟩ := h5 x V e k
    exact ⟨a, v, o, h1, h2, h3, h4.mono l⟩
structure AOK (d : Nat) (A : Around) : Prop where
  handled : A.handled = none
  depth : A.depth + 4 * d + 4 < recursionLimit
  units : A.units + 40 * d + 40 < cLine
theorem AOK.hu {d : Nat} {A : Around} (h : AOK d A) : A.units < cLine := Nat.lt_of_le_of_lt (Nat.le_trans (Nat.le_add_right _ _) (Nat.le_add_right _ _)) h.units

noncomputable def SE (Z : Stat) (d : Nat) (rec : RecE) : Prop :=
  ∀ (env : Env) (sc : Names) (m : Bool) (e : Expr) (loc : Loc) (hs : Hs) (K : KE) (Kp : Addr → Option Obj) (c : Cn) (s : Shared) (A : Around) (Q : Value → Shared → Prop) (E : Value → Shared → Prop),
    EnvOK env sc → AOK d A → FrameIn Z Kp c env loc → Core Z Kp c hs s → rec sc m e loc hs K → Post Z Kp c K Q → wpAny (model Z.P Z.w) A (eval e env) Q E s
noncomputable def PostB (Z : Stat) (Kp : Addr → Option Obj) (c : Cn) (K : Bool → Hs → Prop) (Q : Bool → Shared → Prop) : Prop :=
  ∀ (c' : Cn) (b : Bool) (hs' : Hs) (s' : Shared), c.le c' → Core Z Kp c' hs' s' → K b hs' → Q b s'
noncomputable def ST (Z : Stat) (d : Nat) (rec : RecE) : Prop :=
  ∀ (env : Env) (sc : Names) (e : Expr) (loc : Loc) (hs : Hs) (K : KE) (KB : Bool → Hs → Prop) (Kp : Addr → Option Obj) (c : Cn) (s : Shared) (A : Around) (Q : Bool → Shared → Prop) (E : Value → Shared → Prop),
    EnvOK env sc → AOK d A → FrameIn Z Kp c env loc → Core Z Kp c hs s → rec sc false e loc hs K → (∀ v hs, K v hs → truthV v hs fun b => KB b hs) → PostB Z Kp c KB Q → wpAny (model Z.P Z.w) A (isTrue e env (eval e env)) Q E s
noncomputable def SC (Z : Stat) (d : Nat) (call : CallR) : Prop :=
  ∀ (m isM : Bool) (name : Str) (vs : List V) (hs : Hs) (K : KE) (Kp : Addr → Option Obj) (c : Cn) (s : Shared) (A : Around) (Q : Value → Shared → Prop) (E : Value → Shared → Prop) (ws : List Value) (a : Addr),
    AOK d A → Core Z Kp c hs s → RepVs Z c vs ws → Z.fa isM name = some a → call m isM name vs hs K → Post Z Kp c K Q → codeAny (model Z.P Z.w) A (.call (.ref a) ⟨ws, []⟩) (fun r s' => match r with | .ok (.ret v) => Q v s' | .ok _ => False | .error e => E e s') s
/-- a class called -/
noncomputable def SN (Z : Stat) (d : Nat) (call : CallR) : Prop :=
  ∀ (f : V) (ns : List Str) (vs : List V) (hs : Hs) (K : KE) (Kp : Addr → Option Obj) (c : Cn) (s : Shared) (A : Around) (Q : Value → Shared → Prop) (E : Value → Shared → Prop) (ws : List Value) (v : Value),
    AOK d A → Core Z Kp c hs s → RepV Z c f v → RepVs Z c vs ws → newV Z.X call f (some ns) vs hs K → Post Z Kp c K Q → wpAny (model Z.P Z.w) A (PySem.call v [] (ns.zip ws)) Q E s

section
variable {Z : Stat} {Kp : Addr → Option Obj} {c : Cn} {hs : Hs} {s : Shared} {K : KE} {Q : Value → Shared → Prop} {A : Around} {E : Value → Shared → Prop} {tk : Nat} {F : Frag} {env : Env} {sc : Names} {loc : Loc} {d : Nat} {rec : RecE} {call : CallR}

theorem lookup_ne {x y : Str} {ns : Names} {k : NameKind} (h : ns.lookup x = some k) (h' : sLook y ns = none) : (x == y) = false := by
  cases q : x == y with
  | false => rfl
  | true =>
    rw [sLook_eq] at h'
    rw [beq_iff_eq.mp q, h'] at h
    cases h
theorem const_ok (P : Post Z Kp c K Q) (C : Core Z Kp c hs s) {k : Const} {dd : D} (h : constD k = some dd) (hk : K (.d dd) hs) : wpAny (model Z.P Z.w) A (constValue env k) Q E s := by
  cases k with
  | none => cases some_eq h; exact wpAny_pure (P.none C hk)
  | bool b => cases some_eq h; exact wpAny_pure (P.bool C hk)
  | int i => cases some_eq h; exact wpAny_mkInt (P.int C hk)
  | str x => cases some_eq h; exact wpAny_mkText (P.now (V := .d (.str _)) C.toks ⟨_, rfl⟩ hk)
  | _ => exact none_some h
theorem name_ok (B : BaseOK Z F) (O : EnvOK env sc) (FI : FrameIn Z Kp c env loc) (P : Post Z Kp c K Q) (C : Core Z Kp c hs s) {x : Str} {pos : Pos} (h : evName Z.X sc x loc hs K) : wpAny (model Z.P Z.w) A (eval (.Name x pos) env) Q E s := by
  obtain ⟨k, e, h⟩ := optP_iff h
  rw [sLook_eq] at e
  have hk : env.kindOf x = some k := by
    show env.scope.names.lookup x = some k
    rw [O.names]; exact e
  have hdb : (x == ("__debug__" : Str)) = false := lookup_ne e O.nodebug
  cases k with
  | globalImplicit =>
    obtain ⟨dd, hd, h⟩ := optP_iff h
    obtain ⟨v, R, hv⟩ := B.glob x dd hd
    have q : Q v s := P.now (V := .d dd) C (RepD.mono C.baseLe _ _ R) h
    refine Name_function_global O.kind hk ?_ hdb
    rcases hv s.heap (fun b o e => C.sub _ _ (C.base _ _ e)) with ⟨gm, h1, h2⟩ | ⟨gm, bm, h1, h2, h3, h4⟩
    · exact loadGlobal_global (O.glob.symm ▸ h1) h2 q
    · exact loadGlobal_builtin (O.glob.symm ▸ h1) h2 (O.blt.symm ▸ h3) h4 q
  | «local» =>
    obtain ⟨V, hV, h⟩ := optP_iff h
    obtain ⟨o, es, ep, h1, h2, h3, h4⟩ := FI.ns
    obtain ⟨v, e1, R⟩ := h4 x V hV hk
    exact wpAny_Name (wpAny_loadName_local O.kind hk ⟨o, es, ep, C.kp _ _ h1, h2, h3, fun n => rfl⟩ e1 (P.now C R h)) hdb
  | cell =>
    obtain ⟨V, hV, h⟩ := optP_iff h
    obtain ⟨a, v, o, h1, h2, h3, R⟩ := FI.cell x V hV (.inl hk)
    exact wpAny_Name (wpAny_loadName_cell O.kind hk h1 ⟨o, C.kp _ _ h2, h3⟩ (P.now C R h)) hdb
  | free =>
    obtain ⟨hcd, h⟩ := need_iff h
    obtain ⟨V, hV, h⟩ := optP_iff h
    obtain ⟨a, v, o, h1, h2, h3, R⟩ := FI.cell x V hV (.inr hk)
    exact wpAny_Name (wpAny_loadName_free O.kind hk h1 ⟨o, C.kp _ _ h2, h3⟩ (P.now C R h) ((sEq_beq _ _).symm.trans (not_t hcd))) hdb
  | _ => exact False.elim h

/-! ### the parts of an expression -/
theorem SE.ev (S : SE Z d rec) (O : EnvOK env sc) (a : AOK d A) (FI : FrameIn Z Kp c env loc) (C : Core Z Kp c hs s) {m : Bool} {e : Expr} {Q : Value → Shared → Prop} (h : rec sc m e loc hs K)
    (k : ∀ c' V v hs' s', c.le c' → Core Z Kp c' hs' s' → FrameIn Z Kp c' env loc → RepV Z c' V v → K V hs' → Q v s') : wpAny (model Z.P Z.w) A (eval e env) Q E s :=
  S env sc m e loc hs K Kp c s A Q E O a FI C h fun c' V v hs' s' l C' R kk => k c' V v hs' s' l C' (FI.mono l) R kk
theorem star_one {e : Expr} {es : List Expr} (h : noStar (e :: es) = true) : starEach (e :: es) env = (false, eval e env) :: starEach es env ∧ noStar es = true := by
  obtain ⟨h1, h2⟩ := and_t h
  refine ⟨?_, h2⟩
  clear h h2
  cases e <;> first | rfl | exact absurd h1 Bool.false_ne_true
theorem evs_ok (S : SE Z d rec) (O : EnvOK env sc) (a : AOK d A) {pos : Pos} : ∀ {es : List Expr} {hs : Hs} {c : Cn} {s : Shared} {K : List V → Hs → Prop} {Q : List Value → Shared → Prop}, FrameIn Z Kp c env loc → Core Z Kp c hs s →
    noStar es = true → evs (fun e => rec sc false e loc) es hs K →
    (∀ c' Vs vs hs' s', c.le c' → Core Z Kp c' hs' s' → RepVs Z c' Vs vs → Vs.length = es.length → K Vs hs' → Q vs s') → wpAny (model Z.P Z.w) A (spliced (backTo pos (starEach es env))) Q E s
  | [], hs, c, s, K, Q, FI, C, _, h, k => wpAny_items_nil (k c [] [] hs s (.refl c) C rfl rfl h)
  | e :: es, hs, c, s, K, Q, FI, C, ns, h, k => by
    have hst := star_one (env := env) ns
    refine wpAny_items_cons (S.ev O a FI C h fun c₁ V v hs₁ s₁ l C₁ F₁ R h₁ => ?_) hst.1
    refine evs_ok S O a F₁ C₁ hst.2 h₁ fun c₂ Vs vs hs₂ s₂ l₂ C₂ Rs len h₂ => ?_
    exact k c₂ (V :: Vs) (v :: vs) hs₂ s₂ (l.trans l₂) C₂ ⟨v, vs, rfl, R.mono l₂, Rs⟩ (congrArg Nat.succ len) h₂
theorem allSome_cons {α : Type} {o : Option α} {r : List (Option α)} {l : List α} (h : allSome (o :: r) = some l) : ∃ a l', o = some a ∧ allSome r = some l' ∧ l = a :: l' := by
  obtain ⟨a, e, h⟩ := optB_iff h
  obtain ⟨l', e', h⟩ := optB_iff h
  exact ⟨a, l', e, e', (some_eq h).symm⟩
theorem asDs_ok : ∀ {Vs : List V} {vs : List Value} {ds : List D}, RepVs Z c Vs vs → asDs Vs = some ds → RepDs Z c ds vs
  | [], vs, ds, h, e => some_eq e ▸ h
  | V :: Vs, vs, ds, h, e => by
    obtain ⟨v, r, rfl, h1, h2⟩ := h
    obtain ⟨d, l, e1, e2, rfl⟩ := allSome_cons (show allSome (asD V :: Vs.map asD) = some ds from e)
    cases V with
    | loc n => exact none_some e1
    | d x => exact ⟨v, r, rfl, some_eq e1 ▸ h1, asDs_ok h2 e2⟩
theorem RepVs.length : ∀ {Vs : List V} {vs : List Value}, RepVs Z c Vs vs → Vs.length = vs.length
  | [], vs, h => by obtain rfl : vs = [] := h; rfl
  | V :: Vs, vs, h => by
    obtain ⟨v, r, rfl, _, h2⟩ := h
    exact congrArg Nat.succ (RepVs.length h2)
theorem okBase_base {o : Expr} {x : Str} {w : Sem Value} (h : okBase o = true) : attributeBase o x env w = w := by cases o <;> first | rfl | exact ff h
theorem br_iff {b : Bool} {P R : Prop} (h : br b P R) : (b = true ∧ P) ∨ (b = false ∧ R) := by cases b <;> first | exact .inl ⟨rfl, h⟩ | exact .inr ⟨rfl, h⟩
theorem boolE_ok (S : SE Z d rec) (O : EnvOK env sc) (a : AOK d A) {op : BoolOp} {pos : Pos} : ∀ {es : List Expr} {hs : Hs} {c : Cn} {s : Shared} {K : KE} {Q : Value → Shared → Prop}, FrameIn Z Kp c env loc → Core Z Kp c hs s →
    boolE (fun e => rec sc false e loc) op es hs K → Post Z Kp c K Q → wpAny (model Z.P Z.w) A (boolOp pos op (evalEach es env)) Q E s
  | [], hs, c, s, K, Q, FI, C, h, P => False.elim h
  | [e], hs, c, s, K, Q, FI, C, h, P => S env sc false e loc hs K Kp c s A Q E O a FI C h P
  | e :: e' :: es, hs, c, s, K, Q, FI, C, h, P => by
    show wpAny _ A (do
      let v ← eval e env
      standAt pos
      let t ← holding [v] (truthy v)
      match op, t with
      | .And, false | .Or, true => pure v
      | _, _ => boolOp pos op (evalEach (e' :: es) env)) Q E s
    refine wpAny_bind (S.ev O a FI C h fun c₁ V v hs₁ s₁ l C₁ F₁ R h₁ => wpAny_bind (wpAny_standAt (wpAny_bind (wpAny_holding ?_))))
    refine truthV_ok (fun b tk hb => ?_) C₁ R h₁
    cases op <;> rcases br_iff hb with ⟨rfl, hb⟩ | ⟨rfl, hb⟩
    · exact boolE_ok S O a F₁ C₁.toks hb (P.up l)
    · exact wpAny_pure (P c₁ V v hs₁ _ l C₁.toks R hb)
    · exact wpAny_pure (P c₁ V v hs₁ _ l C₁.toks R hb)
    · exact boolE_ok S O a F₁ C₁.toks hb (P.up l)
theorem part_ok (S : SE Z d rec) (O : EnvOK env sc) (a : AOK d A) (FI : FrameIn Z Kp c env loc) (C : Core Z Kp c hs s) {eo : Option Expr} {K : Option V → Hs → Prop} {Q : Value → Shared → Prop} (h : evOpt (fun e => rec sc false e loc) eo hs K)
    (k : ∀ c' V v hs' s', c.le c' → Core Z Kp c' hs' s' → FrameIn Z Kp c' env loc → RepO Z c' V v → K V hs' → Q v s') : wpAny (model Z.P Z.w) A (valueOrNone (evalOpt eo env)) Q E s := by
  cases eo with
  | none => exact wpAny_pure (k c none .none hs s (.refl c) C FI rfl h)
  | some e => exact S.ev O a FI C h fun c' V v hs' s' l C' F' R kk => k c' (some V) v hs' s' l C' F' R kk
theorem subscripted_false (slice : Expr) (o i : Value) : subscripted slice false o i = operate [i, o] (getItem o i) ∨ subscripted slice false o i = operate [o, i] (getItem o i) := by
  cases slice with
  | Slice lo hi st p => cases st <;> first | exact .inl rfl | exact .inr rfl
  | _ => exact .inr rfl
theorem sub_ok {slice : Expr} {b : Bool} {o i : Value} (hb : b = false) (h : wpAny (model Z.P Z.w) A (getItem o i) Q E s) : wpAny (model Z.P Z.w) A (subscripted slice b o i) Q E s := by
  cases hb
  rcases subscripted_false slice o i with e | e
  · exact wpEq e (PyProof.Rows.wpAny_operate' h)
  · exact wpEq e (PyProof.Rows.wpAny_operate' h)
/-- the end of a subscript -/
theorem tail_ok {slice value : Expr} {pos : Pos} {o i : Value} (hT : itemType s o) (h : wpAny (model Z.P Z.w) A (getItem o i) Q E s) :
    wpAny (model Z.P Z.w) A (do
      standAt pos
      let r ← subscripted slice (← getitemInPython o) o i
      letTemporaryGo value o r
      pure r) Q E s := by
  obtain ⟨T, id, hT, hl⟩ := hT
  refine wpAny_bind (wpAny_standAt (wpAny_bind ?_))
  rw [getitemInPython_of_ne hT.not_modules]
  refine wpAny_bind (wpAny_specialOf hT hl ?_)
  have fin : wpAny (model Z.P Z.w) A (subscripted slice false o i) (fun r s₃ => wpAny (model Z.P Z.w) A (letTemporaryGo value o r >>= fun _ => pure r) Q E s₃) E s :=
    sub_ok (A := A) rfl (wpAny_mono h (fun r s₃ h₃ => wpAny_bind (wpAny_letTemporaryGo (wpAny_pure h₃))) fun _ _ x => x)
  first
    | exact wpAny_pure (wpAny_bind fin)
    | exact wpAny_bind (wpAny_pure (wpAny_bind fin))
    | exact wpAny_bind fin
end
end Mine
set_option genSizeOf false
set_option genInjectivity false
set_option maxRecDepth 100000
namespace Mine
open PySem PySem.W PySem.Calls PyProof.Rows

section
variable {Z : Stat} {Kp : Addr → Option Obj} {c : Cn} {hs : Hs} {s : Shared} {K : KE} {Q : Value → Shared → Prop} {A : Around} {E : Value → Shared → Prop} {tk : Nat} {Fg : Frag} {env : Env} {sc : Names} {loc : Loc} {d : Nat} {rec : RecE} {call : CallR}

noncomputable def Keeps1 (Z : Stat) (f : Value) (h : Heap) : Prop := ∃ k, (k = Keeper.frame ∨ k = Keeper.machine ∨ k = Keeper.boundFrame) ∧ Looks (model Z.P Z.w) h (keeperOf f) k
theorem keeps_fn (B : BaseOK Z Fg) (C : Core Z Kp c hs s) {m : Bool} {x : Str} {a : Addr} (h : Z.fa m x = some a) : Keeps1 Z (.ref a) s.heap := by
  obtain ⟨o, fd, e, ed⟩ := B.fns m x a h
  refine ⟨.frame, .inl rfl, (Looks.ld (part := none) (C.sub _ _ (C.base _ _ e))).andThen ?_⟩
  rw [ed]
  exact .now
theorem keeps_meth (B : BaseOK Z Fg) (C : Core Z Kp c hs s) {x : Str} {v : Value} (h : RepD Z c (.meth x) v) : Keeps1 Z v s.heap := by
  obtain ⟨a, f, q, dd, rfl, hf, hm, g⟩ := h
  obtain ⟨o, fd, e, ed⟩ := B.fns true x f hf
  refine ⟨.boundFrame, .inr (.inr rfl), (Looks.ld (part := none) (C.sub _ _ g)).andThen ?_⟩
  refine (Looks.ld (part := none) (C.sub _ _ (C.base _ _ e))).andThen ?_
  rw [ed]
  exact .now
theorem keeps_bi (b : Bi) (h : Heap) : Keeps1 Z (biV b) h := ⟨.machine, .inr (.inl rfl), by cases b <;> exact .now⟩

theorem noStar_any {pos : Pos} : ∀ {es : List Expr}, noStar es = true → (backTo pos (starEach es env)).any (·.1) = false ∧ (backTo pos (starEach es env)).all (fun x => !x.1) = true
  | [], _ => ⟨rfl, rfl⟩
  | e :: es, h => by
    have hst := star_one (env := env) h
    obtain ⟨i1, i2⟩ := noStar_any (pos := pos) hst.2
    rw [hst.1]
    exact ⟨i1, i2⟩
theorem evalArgs_ok {f : Value} {pos : Pos} {es : List Expr} {Q : Args → Shared → Prop} (ns : noStar es = true) (h : wpAny (model Z.P Z.w) A (spliced (backTo pos (starEach es env))) (fun vs s₁ => Q ⟨vs, []⟩ s₁) E s) :
    wpAny (model Z.P Z.w) A (evalArgs f true (backTo pos (starEach es env)) []) Q E s := by
  cases es with
  | nil =>
    unfold evalArgs
    show wpAny _ _ (spliced (backTo pos (starEach [] env)) >>= _) _ _ _
    refine wpAny_bind (wpAny_mono h (fun vs s' h' => ?_) fun _ _ x => x)
    refine wpAny_bind (wpAny_pure ?_)
    refine wpAny_holding ?_
    exact wpAny_bind (wpAny_pure (wpAny_bind (wpAny_pure (wpAny_pure h'))))
  | cons e es =>
    have hst := (star_one (env := env) ns).1
    rw [hst] at h ⊢
    exact evalArgs_plain h
theorem callWith_ok (S : SE Z d rec) (O : EnvOK env sc) (a : AOK d A) (FI : FrameIn Z Kp c env loc) (C : Core Z Kp c hs s) {f : Value} {pos : Pos} {first : List Value} {es : List Expr} {K : List V → Hs → Prop} {Q : Value → Shared → Prop}
    (ns : noStar es = true) (h : evs (fun e => rec sc false e loc) es hs K)
    (hk : ∀ c' Vs hs' s', c.le c' → Core Z Kp c' hs' s' → K Vs hs' → Keeps1 Z f s'.heap)
    (k : ∀ c' Vs vs hs' s', c.le c' → Core Z Kp c' hs' s' → RepVs Z c' Vs vs → K Vs hs' → wpAny (model Z.P Z.w) A (PySem.call f (first ++ vs)) Q E s') :
    wpAny (model Z.P Z.w) A (callWith pos f first (backTo pos (starEach es env)) []) Q E s := by
  refine callWith_of (P := fun h => Keeps1 Z f h) (by rw [(noStar_any ns).1]; rfl) (fun _ h => h) (evalArgs_ok ns (evs_ok S O a FI C ns h fun c' Vs vs hs' s' l C' R _ kk => ⟨hk c' Vs hs' s' l C' kk, k c' Vs vs hs' s' l C' R kk⟩))
theorem callV_ok (B : BaseOK Z Fg) (SCC : SC Z d call) (a : AOK d A) (P : Post Z Kp c K Q) (C : Core Z Kp c hs s) {m : Bool} {f : V} {vf : Value} {Vs : List V} {vs : List Value} (Rf : RepV Z c f vf) (R : RepVs Z c Vs vs) (h : callV call m f Vs hs K) :
    wpAny (model Z.P Z.w) A (PySem.call vf vs) Q E s := by
  obtain ⟨x, e, h⟩ := optP_iff h
  rw [V.d_eq e] at Rf
  cases x with
  | fn b x =>
    obtain ⟨ad, rfl, hf⟩ := Rf
    exact wpAny_call (SCC _ _ _ _ _ _ _ _ _ _ _ _ _ _ a C R hf h P)
  | meth x =>
    obtain ⟨ad, f, q, dd, rfl, hf, hm, g⟩ := Rf
    exact wpAny_call (method_call (C.sub _ _ g) (SCC m true _ (.d .mpu :: Vs) _ _ _ _ _ _ _ _ _ _ a C ⟨_, _, rfl, ⟨q, dd, rfl, hm⟩, R⟩ hf h P))
  | bi id =>
    cases (Rf : vf = biV id)
    exact biCall_ok P C R a.handled h
  | _ => exact False.elim h
theorem keeps_V (B : BaseOK Z Fg) {m : Bool} {f : V} {vf : Value} {Vs : List V} {c' : Cn} (Rf : RepV Z c f vf) (h : callV call m f Vs hs K) (l : c.le c') (C : Core Z Kp c' hs s) : Keeps1 Z vf s.heap := by
  obtain ⟨x, e, h⟩ := optP_iff h
  rw [V.d_eq e] at Rf
  cases x with
  | fn b x =>
    obtain ⟨ad, rfl, hf⟩ := Rf
    exact keeps_fn B C hf
  | meth x => exact keeps_meth B C (RepD.mono l _ _ Rf)
  | bi id =>
    cases (Rf : vf = biV id)
    exact keeps_bi _ _
  | _ => exact False.elim h
theorem okArgsE_iff {es : List Expr} (h : okArgsE es = true) : noStar es = true ∧ es.length ≤ 12 := ⟨(and_t h).1, Nat.le_of_ble_eq_true (and_t h).2⟩
theorem methodCall_ok (B : BaseOK Z Fg) (SCC : SC Z d call) (a : AOK d A) (P : Post Z Kp c K Q) (C : Core Z Kp c hs s) {m : Bool} {o : Expr} {x : Str} {ap p : Pos} {es : List Expr} {ov : V} {vo : Value} {t : Tg}
    (ha : okArgsE es = true) (hl : Nat.beq ap.endLine p.line = true) (Ro : RepV Z c ov vo) (ht : tgOf Z.X ov x hs = some t) (H : ∀ Q' : List Value → Shared → Prop, (∀ c' Vs vs hs' s', c.le c' → Core Z Kp c' hs' s' → RepVs Z c' Vs vs → callTg call m t Vs hs' K → Q' vs s') → wpAny (model Z.P Z.w) A (spliced (backTo p (starEach es env))) Q' E s) :
    wpAny (model Z.P Z.w) A (methodCall o x ap p env vo (es.length + ([] : List Keyword).length) (backTo p (starEach es env)) (backToKw p (keywordEach [] env))) Q E s := by
  obtain ⟨ns, len⟩ := okArgsE_iff ha
  have hform : methodCallForm (es.length + ([] : List Keyword).length) (backTo p (starEach es env)) (backToKw p (keywordEach [] env)) = true := by
    unfold methodCallForm
    rw [(noStar_any ns).2]
    show (true && true && decide (es.length < 30)) = true
    rw [decide_eq_true (show es.length < 30 from Nat.lt_of_le_of_lt len (by decide))]; rfl
  have hpos : methodCallPos true o env ap p = pure p := by unfold methodCallPos; rw [show (ap.endLine == p.line) = true from beq_iff_eq.mpr (Nat.eq_of_beq_eq_true hl)]; rfl
  unfold methodCall
  rw [hform]
  unfold calleeOf
  rw [if_pos rfl]
  refine wpAny_bind (wpAny_holding ?_)
  have rest : ∀ (f : Value) (first : List Value), (∀ c' Vs hs' s', c.le c' → Core Z Kp c' hs' s' → callTg call m t Vs hs' K → Keeps1 Z f s'.heap) →
      (∀ c' Vs vs hs' s', c.le c' → Core Z Kp c' hs' s' → RepVs Z c' Vs vs → callTg call m t Vs hs' K → wpAny (model Z.P Z.w) A (PySem.call f (first ++ vs)) Q E s') →
      wpAny (model Z.P Z.w) A (methodCallPos true o env ap p >>= fun callPos => callWith callPos f first (backTo p (starEach es env)) (backToKw p (keywordEach [] env))) Q E s := by
    intro f first hk k
    exact wpAny_bind (wpAny_of_eq hpos (callWith_of (P := fun h => Keeps1 Z f h) (by rw [(noStar_any ns).1]; rfl) (fun _ h => h) (evalArgs_ok ns (H _ fun c' Vs vs hs' s' l C' R kk => ⟨hk c' Vs hs' s' l C' kk, k c' Vs vs hs' s' l C' R kk⟩))))
  rcases orB_iff ht with ⟨n, en, ht⟩ | ht
  · rw [V.loc_eq en] at Ro
    obtain ⟨ad, e1, rfl⟩ := id Ro
    obtain ⟨_, ws, ep, e2, as⟩ := C.locAt e1
    rcases tgL_cases ht with ⟨rfl, rfl⟩ | ⟨rfl, rfl⟩
    · refine listMeth_ok (vs := ws) e2 F.plainAttrs_list F.slot_list_append F.type_list_append (rest _ _ (fun c' Vs hs' s' l C' _ => ⟨.machine, .inr (.inl rfl), .now⟩) fun c' Vs vs hs' s' l C' R hc => ?_)
      obtain ⟨v, e, hc⟩ := optP_iff hc
      obtain ⟨y, e', hc⟩ := optP_iff hc
      rw [one_eq e, V.d_eq e'] at R
      obtain ⟨v, r, rfl, R1, rfl⟩ := R
      exact append_ok (fun c'' hs'' s'' l' C'' k => (P.up (l.trans l')).none C'' k) C' (Ro.mono l) R1 hc
    · refine listMeth_ok (vs := ws) e2 F.plainAttrs_list F.slot_list_extend F.type_list_extend (rest _ _ (fun c' Vs hs' s' l C' _ => ⟨.machine, .inr (.inl rfl), .now⟩) fun c' Vs vs hs' s' l C' R hc => ?_)
      obtain ⟨v, e, hc⟩ := optP_iff hc
      rw [one_eq e] at R
      obtain ⟨v, r, rfl, R1, rfl⟩ := R
      exact extend_ok (fun c'' hs'' s'' l' C'' k => (P.up (l.trans l')).none C'' k) C' (Ro.mono l) R1 hc
  · obtain ⟨eo, ht⟩ := noB_iff ht
    obtain ⟨f, hf, ht⟩ := optB_iff ht
    obtain ⟨y, hy, ht⟩ := optB_iff ht
    cases some_eq ht
    rw [V.isMpu_eq (not_t' eo)] at Ro
    exact isMeth_ok B.cls C Ro hf hy fun ad had => rest _ _ (fun c' Vs hs' s' l C' _ => keeps_fn B C' had) fun c' Vs vs hs' s' l C' R hc =>
      wpAny_call (SCC m true y (.d .mpu :: Vs) _ _ _ _ _ _ _ _ _ _ a C' ⟨vo, vs, rfl, Ro.mono l, R⟩ had hc (P.up l))
end
end Mine
set_option genSizeOf false
set_option genInjectivity false
set_option maxRecDepth 100000
namespace Mine
open PySem PySem.W PySem.Calls PyProof.Rows

section
variable {Z : Stat} {Kp : Addr → Option Obj} {c : Cn} {hs : Hs} {s : Shared} {K : KE} {Q : Value → Shared → Prop} {A : Around} {E : Value → Shared → Prop} {tk : Nat} {Fg : Frag} {env : Env} {sc : Names} {loc : Loc} {d : Nat} {rec : RecE} {call : CallR}

/-- what is asked of comprehensions -/
noncomputable def SComp (Z : Stat) (d : Nat) (rec : RecE) : Prop :=
  ∀ (env : Env) (sc : Names) (m : Bool) (elt t it : Expr) (ifs : List Expr) (scope : Scope) (pos : Pos) (loc : Loc) (hs : Hs) (K : KE) (Kp : Addr → Option Obj) (c : Cn) (s : Shared) (A : Around) (Q : Value → Shared → Prop) (E : Value → Shared → Prop),
    EnvOK env sc → AOK d A → FrameIn Z Kp c env loc → Core Z Kp c hs s → okComp sc scope = true → notSet it = true →
    (iterE (fun e => rec sc false e loc) (enumOf Z.X sc) t it hs fun xs g hs => xs.length ≤ lim ∧
      compL (fun loc e => rec (compSc sc scope.names) false e loc) (compSc sc scope.names) t elt ifs g (fun ds hs => alloc m (mkList ds) hs K) xs (dropNames scope.names loc) hs []) →
    Post Z Kp c K Q → wpAny (model Z.P Z.w) A (eval (.ListComp elt [⟨t, it, ifs, 0⟩] scope pos) env) Q E s

theorem notSet_marks {op : CmpOp} {r : Expr} (h : notSet r = true) : behindInMarks op r = false := by cases r <;> first | rfl | cases h
theorem evalAll_ok (S : SE Z d rec) (O : EnvOK env sc) (a : AOK d A) {p : Pos} : ∀ {kws : List Keyword} {hs : Hs} {c : Cn} {s : Shared} {K : List V → Hs → Prop} {Q : List Value → Shared → Prop}, FrameIn Z Kp c env loc → Core Z Kp c hs s →
    evs (fun e => rec sc false e loc) (kws.map (·.value)) hs K →
    (∀ c' Vs vs hs' s', c.le c' → Core Z Kp c' hs' s' → RepVs Z c' Vs vs → K Vs hs' → Q vs s') → wpAny (model Z.P Z.w) A (evalAll ((backToKw p (keywordEach kws env)).map (·.2))) Q E s
  | [], hs, c, s, K, Q, FI, C, h, k => wpAny_evalAll_nil (k c [] [] hs s (.refl c) C rfl h)
  | ⟨nm, e, kp⟩ :: kws, hs, c, s, K, Q, FI, C, h, k => by
    refine wpAny_evalAll_cons (wpAny_bind (S.ev O a FI C h fun c₁ V v hs₁ s₁ l C₁ F₁ R h₁ => wpAny_bind (wpAny_standAt (wpAny_pure ?_))))
    refine evalAll_ok S O a F₁ C₁ h₁ fun c₂ Vs vs hs₂ s₂ l₂ C₂ Rs h₂ => ?_
    refine k c₂ (V :: Vs) (v :: vs) hs₂ s₂ (l.trans l₂) C₂ ?_ h₂
    exact ⟨v, vs, rfl, R.mono l₂, Rs⟩
theorem kw_names {p : Pos} : ∀ {kws : List Keyword} {ns : List Str}, kwNs kws = some ns → (backToKw p (keywordEach kws env)).filterMap (·.1) = ns ∧ (backToKw p (keywordEach kws env)).all (·.1.isSome) = true ∧ (backToKw p (keywordEach kws env)).any (·.1.isNone) = false
  | [], ns, h => by cases some_eq h; exact ⟨rfl, rfl, rfl⟩
  | ⟨nm, e, kp⟩ :: r, ns, h => by
    obtain ⟨x, ex, h1⟩ := optB_iff h
    obtain ⟨l, el, h2⟩ := optB_iff h1
    cases (ex : nm = some x)
    cases some_eq h2
    obtain ⟨i1, i2, i3⟩ := kw_names (p := p) el
    exact ⟨congrArg (x :: ·) i1, i2, i3⟩

theorem genP_iff {gens : List Comprehension} {q : Expr × Expr × List Expr} (h : genP gens = some q) : gens = [⟨q.1, q.2.1, q.2.2, 0⟩] := by
  obtain ⟨g, e, h⟩ := optB_iff h
  obtain ⟨e2, h⟩ := noB_iff h
  rw [one_eq e]
  cases g with
  | mk t it ifs n =>
    have e3 : n = 0 := of_decide_eq_true (not_t' e2)
    rw [← some_eq h, e3]
theorem cmpE_ok (S : SE Z d rec) (O : EnvOK env sc) (a : AOK d A) (FI : FrameIn Z Kp c env loc) (C : Core Z Kp c hs s) {l : Expr} {ops : List CmpOp} {rs : List Expr} {p : Pos} {K : KE} {Q : Value → Shared → Prop} (h : cmpE (fun e => rec sc false e loc) l ops rs hs K)
    (P : Post Z Kp c K Q) : wpAny (model Z.P Z.w) A (eval (.Compare l ops rs p) env) Q E s := by
  rcases ops with _ | ⟨op, _ | ⟨op2, ops⟩⟩
  · exact False.elim h
  · rcases rs with _ | ⟨r, _ | ⟨r2, rs⟩⟩
    · exact False.elim h
    · obtain ⟨hn, h⟩ := need_iff h
      refine wpAny_Compare1 (S.ev O a FI C h fun c₁ V₁ v₁ hs₁ s₁ l₁ C₁ F₁ R₁ h₁ => S.ev O a F₁ C₁ h₁ fun c₂ V₂ v₂ hs₂ s₂ l₂ C₂ F₂ R₂ h₂ => ?_) (notSet_marks hn)
      exact cmpV_ok (fun b k => (P.up (l₁.trans l₂)).bool C₂ k) C₂ a.hu (R₁.mono l₂) R₂ h₂
    · exact False.elim h
  · exact False.elim h
theorem callA_ok (B : BaseOK Z Fg) (S : SE Z d rec) (SCC : SC Z d call) (O : EnvOK env sc) (a : AOK d A) (FI : FrameIn Z Kp c env loc) (C : Core Z Kp c hs s) {m : Bool} {o : Expr} {x : Str} {ap : Pos} {args : List Expr} {kws : List Keyword} {p : Pos} {K : KE} {Q : Value → Shared → Prop}
    (h : callA Z.X call (fun e => rec sc false e loc) m o x ap args kws p hs K) (P : Post Z Kp c K Q) : wpAny (model Z.P Z.w) A (eval (.Call (.Attribute o x ap) args kws p) env) Q E s := by
  cases kws with
  | cons _ _ => exact False.elim h
  | nil =>
    obtain ⟨hn, h⟩ := need_iff h
    obtain ⟨hn, h3⟩ := and_t hn
    obtain ⟨h1, h2⟩ := and_t hn
    rw [arm_eval_Call, okBase_base h2]
    refine wpAny_bind (S.ev O a FI C h fun c₁ V₁ v₁ hs₁ s₁ l₁ C₁ F₁ R₁ h₁ => wpAny_bind (wpAny_standAt ?_))
    obtain ⟨t, ht, h₁⟩ := optP_iff h₁
    exact methodCall_ok B SCC a (P.up l₁) C₁ h1 h3 R₁ ht fun Q' hq => evs_ok S O a F₁ C₁ (okArgsE_iff h1).1 h₁ fun c' Vs vs hs' s' l C' R _ kk => hq c' Vs vs hs' s' l C' R kk
theorem newKeep (B : BaseOK Z Fg) {V₁ : V} {v₁ : Value} {ns : List Str} {c₁ : Cn} {K : KE} (R₁ : RepV Z c₁ V₁ v₁) : ∀ c' Vs hs' s', Core Z Kp c' hs' s' → newV Z.X call V₁ (some ns) Vs hs' K → Keeps1 Z v₁ s'.heap := by
  intro c' Vs hs' s' C' k
  obtain ⟨e, _⟩ := need_iff k
  rw [V.isCls_eq (and_t e).1] at R₁
  cases (R₁ : v₁ = .ref Z.ca)
  obtain ⟨k, a, b⟩ := keeps_K (M := model Z.P Z.w) B.cls.keep s'.heap (B.cls.here C')
  exact ⟨k, a.elim .inl fun a => a.elim (fun q => .inr (.inl q)) fun q => .inr (.inr q), b⟩
theorem callF_ok (B : BaseOK Z Fg) (S : SE Z d rec) (SCC : SC Z d call) (SNN : SN Z d call) (O : EnvOK env sc) (a : AOK d A) (FI : FrameIn Z Kp c env loc) (C : Core Z Kp c hs s) {m : Bool} {f : Expr} {args : List Expr} {kws : List Keyword} {p : Pos} {K : KE} {Q : Value → Shared → Prop}
    (he : eval (.Call f args kws p) env = (do callWith p (← eval f env) [] (backTo p (starEach args env)) (backToKw p (keywordEach kws env))))
    (h : callF Z.X call (fun e => rec sc false e loc) m f args kws hs K) (P : Post Z Kp c K Q) : wpAny (model Z.P Z.w) A (eval (.Call f args kws p) env) Q E s := by
  rw [he]
  cases kws with
  | nil =>
    obtain ⟨hn, h⟩ := need_iff h
    obtain ⟨ns, len⟩ := okArgsE_iff hn
    refine wpAny_bind (S.ev O a FI C h fun c₁ V₁ v₁ hs₁ s₁ l₁ C₁ F₁ R₁ h₁ => ?_)
    exact callWith_ok S O a F₁ C₁ ns h₁ (fun c' Vs hs' s' l C' k => keeps_V B R₁ k l C') fun c₂ Vs vs hs₂ s₂ l₂ C₂ R₂ h₂ => callV_ok B SCC a (P.up (l₁.trans l₂)) C₂ (R₁.mono l₂) R₂ h₂
  | cons k ks => cases args with
    | cons _ _ => exact False.elim h
    | nil =>
      obtain ⟨ns, hn, h⟩ := optP_iff h
      refine wpAny_bind (S.ev O a FI C h fun c₁ V₁ v₁ hs₁ s₁ l₁ C₁ F₁ R₁ h₁ => ?_)
      obtain ⟨n1, n2, n3⟩ := kw_names (env := env) (p := p) hn
      have hcls := newKeep (call := call) (ns := ns) (Kp := Kp) (K := K) B R₁
      refine callWith_of (P := fun h => Keeps1 Z v₁ h) (by rw [n3]; rfl) (fun _ h => h) ?_
      refine evalArgs_kw_nil n2 (evalAll_ok S O a F₁ C₁ h₁ fun c₂ Vs vs hs₂ s₂ l₂ C₂ R₂ h₂ => ⟨hcls _ _ _ _ C₂ h₂, ?_⟩)
      rw [n1]
      exact SNN V₁ ns Vs hs₂ K Kp c₂ s₂ A Q E vs v₁ a C₂ (R₁.mono l₂) R₂ h₂ (P.up (l₁.trans l₂))
theorem callE_plain {f : Expr} {args : List Expr} {kws : List Keyword} {p : Pos} : (∃ o x ap, f = .Attribute o x ap) ∨ (attrP f = none ∧ eval (.Call f args kws p) env = (do callWith p (← eval f env) [] (backTo p (starEach args env)) (backToKw p (keywordEach kws env)))) := by
  cases f <;> first | exact .inr ⟨rfl, rfl⟩ | exact .inl ⟨_, _, _, rfl⟩
theorem subE_ok (B : BaseOK Z Fg) (S : SE Z d rec) (O : EnvOK env sc) (a : AOK d A) (FI : FrameIn Z Kp c env loc) (C : Core Z Kp c hs s) {m : Bool} {o i : Expr} {p : Pos} {K : KE} {Q : Value → Shared → Prop}
    (h : subE (fun e => rec sc false e loc) m o i hs K) (P : Post Z Kp c K Q) : wpAny (model Z.P Z.w) A (eval (.Subscript o i p) env) Q E s := by
  rw [arm_eval_Subscript]
  have hi : (∃ lo hi st q, i = .Slice lo hi st q) ∨ sliceP i = none := by cases i <;> first | exact .inr rfl | exact .inl ⟨_, _, _, _, rfl⟩
  rcases hi with ⟨lo, hi, st, q, rfl⟩ | hi
  · obtain ⟨hst, h⟩ := need_iff h
    cases st with
    | some _ => exact absurd hst Bool.false_ne_true
    | none =>
      refine wpAny_bind (S.ev O a FI C h fun c₁ V₁ v₁ hs₁ s₁ l₁ C₁ F₁ R₁ h₁ => wpAny_bind (wpAny_holding ?_))
      rw [arm_eval_Slice]
      refine wpAny_bind (part_ok S O a F₁ C₁ h₁ fun c₂ V₂ v₂ hs₂ s₂ l₂ C₂ F₂ R₂ h₂ => wpAny_bind (wpAny_holding (part_ok S O a F₂ C₂ h₂ fun c₃ V₃ v₃ hs₃ s₃ l₃ C₃ F₃ R₃ h₃ => ?_)))
      refine wpAny_bind (wpAny_holding (wpAny_pure ?_))
      refine wpAny_newObj_type ?_ (by size_fits)
      have hsl := Heap.IsSliceOf.new s₃.heap v₂ v₃ .none
      have C₄ := C₃.keepTo (tk := s₃.toks) (h' := s₃.heap.push { cls := .type "slice", data := .fields #[v₂, v₃, .none] }) fun b o e => Heap.get?_push_of_some _ e
      obtain ⟨g1, g2⟩ := sliceV_ok (A := A) (E := E) (Q := Q) (P.up ((l₁.trans l₂).trans l₃)) C₄ ((R₁.mono l₂).mono l₃) (R₂.mono l₃) R₃ hsl h₃
      exact tail_ok g2 g1
  · unfold subE at h
    rw [hi] at h
    refine wpAny_bind (S.ev O a FI C h fun c₁ V₁ v₁ hs₁ s₁ l₁ C₁ F₁ R₁ h₁ => wpAny_bind (wpAny_holding (S.ev O a F₁ C₁ h₁ fun c₂ V₂ v₂ hs₂ s₂ l₂ C₂ F₂ R₂ h₂ => ?_)))
    obtain ⟨⟨g1, g2⟩, _⟩ := itemV_ok (A := A) (E := E) (P.up (l₁.trans l₂)) C₂ (R₁.mono l₂) R₂ h₂
    exact tail_ok g2 g1
theorem len_line {Vs : List V} {vs : List Value} {es : List Expr} (R : RepVs Z c Vs vs) (len : Vs.length = es.length) (h : Nat.ble es.length 2000 = true) : vs.length ≤ sizeLine := by
  rw [← R.length, len, sizeLine_eq]
  exact Nat.le_trans (Nat.le_of_ble_eq_true h) (by decide)
theorem stepE_ok (B : BaseOK Z Fg) (S : SE Z d rec) (SCC : SC Z d call) (SNN : SN Z d call) (SCO : SComp Z d rec) (ST' : ST Z d rec) : SE Z d (stepE Z.X call rec) := by
  intro env sc m e loc hs K Kp c s A Q E O a FI C h P
  cases e with
  | Constant k kk p =>
    obtain ⟨dd, hd, h⟩ := optP_iff h
    rw [arm_eval_Constant]
    exact const_ok P C hd h
  | Name x p => exact name_ok B O FI P C h
  | BinOp l op r p =>
    rw [arm_eval_BinOp]
    refine wpAny_bind (S.ev O a FI C h fun c₁ V₁ v₁ hs₁ s₁ l₁ C₁ F₁ R₁ h₁ => wpAny_bind (wpAny_holding (S.ev O a F₁ C₁ h₁ fun c₂ V₂ v₂ hs₂ s₂ l₂ C₂ F₂ R₂ h₂ => wpAny_bind (wpAny_standAt (PyProof.Rows.wpAny_operate' ?_)))))
    exact binOpV_ok (P.up (l₁.trans l₂)) C₂ (R₁.mono l₂) R₂ h₂
  | UnaryOp op x p =>
    rw [arm_eval_UnaryOp]
    refine wpAny_bind (S.ev O a FI C h fun c₁ V₁ v₁ hs₁ s₁ l₁ C₁ F₁ R₁ h₁ => wpAny_bind (wpAny_standAt (wpAny_holding ?_)))
    exact unOpV_ok (P.up l₁) C₁ R₁ h₁
  | BoolOp op es p =>
    rw [arm_eval_BoolOp]
    exact boolE_ok S O a FI C h P
  | IfExp t x y p =>
    rw [arm_eval_IfExp]
    refine wpAny_bind (ST' env sc _ loc hs _ _ Kp c s A _ _ O a FI C h (fun v hs h => h) fun c₁ b hs₁ s₁ l₁ C₁ hb => ?_)
    cases b with
    | true => exact S _ _ _ _ _ _ _ _ _ _ _ _ _ O a (FI.mono l₁) C₁ hb (P.up l₁)
    | false => exact S _ _ _ _ _ _ _ _ _ _ _ _ _ O a (FI.mono l₁) C₁ hb (P.up l₁)
  | List es p =>
    obtain ⟨hn, h⟩ := need_iff h
    obtain ⟨hn, hn2⟩ := and_t hn
    refine wpAny_List (evs_ok S O a FI C hn h fun c₁ Vs vs hs₁ s₁ l₁ C₁ R len h₁ => ?_)
    obtain ⟨ds, hds, h₁⟩ := optP_iff h₁
    exact ⟨len_line R len hn2, alloc_ok (n := 0) (tk := s₁.toks) (P.up l₁) C₁ h₁ (mkList_as (asDs_ok R hds))⟩
  | Tuple es x p =>
    obtain ⟨hn, h⟩ := need_iff h
    obtain ⟨hn, hn2⟩ := and_t hn
    refine wpAny_Tuple (evs_ok S O a FI C hn h fun c₁ Vs vs hs₁ s₁ l₁ C₁ R len h₁ => ?_)
    obtain ⟨ds, hds, h₁⟩ := optP_iff h₁
    refine ⟨len_line R len hn2, ?_⟩
    obtain ⟨C', l⟩ := C₁.newG (tk := s₁.toks) (h' := s₁.heap.push { cls := .type "tuple", data := .seq vs.toArray }) (o := tupO vs 0) (fun b o e => Heap.get?_push_of_some _ e) (fresh_size _) (Heap.get?_push_size _ rfl)
    refine P _ (.d (.tup ds)) _ _ _ (l₁.trans l) C' ?_ h₁
    exact ⟨_, vs, 0, rfl, Cn.addG_get _ _ _, RepDs.mono l _ _ (asDs_ok R hds)⟩
  | Compare l ops rs p => exact cmpE_ok S O a FI C h P
  | Call f args kws p =>
    rcases callE_plain (env := env) (f := f) (args := args) (kws := kws) (p := p) with ⟨o, x, ap, rfl⟩ | ⟨h1, h2⟩
    · exact callA_ok B S SCC O a FI C h P
    · have h : callE Z.X call (fun e => rec sc false e loc) m f args kws p hs K := h
      unfold callE at h
      rw [h1] at h
      exact callF_ok B S SCC SNN O a FI C h2 h P
  | Attribute o x p =>
    obtain ⟨hn, h⟩ := need_iff h
    rw [arm_eval_Attribute, okBase_base hn]
    refine wpAny_bind (S.ev O a FI C h fun c₁ V₁ v₁ hs₁ s₁ l₁ C₁ F₁ R₁ h₁ => wpAny_bind (wpAny_standAt (wpAny_bind (wpAny_holding ?_))))
    refine getAttrV_ok (K := K) (Q := fun r s' => wpAny (model Z.P Z.w) A (letTemporaryGo _ v₁ r >>= fun _ => pure r) Q E s') B.cls (fun c₂ V₂ v₂ hs₂ s₂ l₂ C₂ R₂ k => wpAny_bind (wpAny_letTemporaryGo (wpAny_pure ?_))) C₁ R₁ h₁
    exact P c₂ V₂ v₂ hs₂ s₂ (l₁.trans l₂) C₂ R₂ k
  | Subscript o i p => exact subE_ok B S O a FI C h P
  | ListComp elt gens scope p =>
    obtain ⟨q, hq, h⟩ := optP_iff h
    obtain ⟨hn, h⟩ := need_iff h
    obtain ⟨hn, hn2⟩ := and_t hn
    rw [genP_iff hq]
    exact SCO _ _ _ _ _ _ _ _ _ _ _ _ _ _ _ _ _ _ O a FI C hn hn2 h P
  | _ => exact False.elim h
end
end Mine
set_option genSizeOf false
set_option genInjectivity false
set_option maxRecDepth 100000
namespace Mine
open PySem PySem.W PySem.Calls PyProof.Rows

section
variable {Z : Stat} {Kp : Addr → Option Obj} {c : Cn} {hs : Hs} {s : Shared} {K : KE} {Q : Value → Shared → Prop} {A : Around} {E : Value → Shared → Prop} {tk : Nat} {Fg : Frag} {env : Env} {sc : Names} {loc : Loc} {d : Nat} {rec : RecE} {call : CallR}

theorem truthV_mono {v : V} {k k' : Bool → Prop} (h : truthV v hs k) (i : ∀ b, k b → k' b) : truthV v hs k' := by
  obtain ⟨b, e, h⟩ := optP_iff h
  exact optP_of e (i b h)
theorem allTrue_ok (S : SE Z d rec) (T : ST Z d rec) (O : EnvOK env sc) (a : AOK d A) {op : BoolOp} {Qb : Bool → Shared → Prop} {KB : Bool → Hs → Prop} : ∀ {es : List Expr} {hs : Hs} {c : Cn} {s : Shared} {K : KE}, FrameIn Z Kp c env loc → Core Z Kp c hs s →
    boolE (fun e => rec sc false e loc) op es hs K → (∀ v hs, K v hs → truthV v hs fun b => KB b hs) → PostB Z Kp c KB Qb → wpAny (model Z.P Z.w) A (allTrue op es env) Qb E s
  | [], hs, c, s, K, FI, C, h, i, P => False.elim h
  | [e], hs, c, s, K, FI, C, h, i, P => by
    rw [arm_allTrue_cons]
    refine wpAny_bind (T env sc e loc hs K KB Kp c s A _ E O a FI C h i fun c₁ b hs₁ s₁ l₁ C₁ hb => ?_)
    have q := P c₁ b hs₁ s₁ l₁ C₁ hb
    cases op <;> cases b <;> first | exact wpAny_pure q | (exact wpAny_pure (a := true) q)
  | e :: e' :: es, hs, c, s, K, FI, C, h, i, P => by
    rw [arm_allTrue_cons]
    refine wpAny_bind (T env sc e loc hs _ (fun b hs => match op with
      | .And => br b (boolE (fun e => rec sc false e loc) op (e' :: es) hs K) (KB false hs)
      | .Or => br b (KB true hs) (boolE (fun e => rec sc false e loc) op (e' :: es) hs K)) Kp c s A _ E O a FI C h (fun v hs hv => ?_) fun c₁ b hs₁ s₁ l₁ C₁ hb => ?_)
    · -- the value that stands at the end is the one whose truth was asked
      obtain ⟨b, e, hv⟩ := optP_iff hv
      have i' : K v hs → KB b hs := fun hk => by
        obtain ⟨b', e', h'⟩ := optP_iff (i v hs hk)
        cases some_eq (e.symm.trans e')
        exact h'
      refine optP_of e ?_
      cases op <;> cases b
      · exact i' hv
      · exact hv
      · exact hv
      · exact i' hv
    · have up : ∀ {b : Bool}, PostB Z Kp c₁ KB Qb := fun {_} c₂ b hs₂ s₂ l₂ C₂ k => P c₂ b hs₂ s₂ (l₁.trans l₂) C₂ k
      cases op <;> cases b
      · exact wpAny_pure (P c₁ false hs₁ s₁ l₁ C₁ hb)
      · exact allTrue_ok S T O a (FI.mono l₁) C₁ hb i (up (b := true))
      · exact allTrue_ok S T O a (FI.mono l₁) C₁ hb i (up (b := true))
      · exact wpAny_pure (P c₁ true hs₁ s₁ l₁ C₁ hb)
theorem stepT_ok (S : SE Z d rec) (T : ST Z d rec) (S' : SE Z d (stepE Z.X call rec)) : ST Z d (stepE Z.X call rec) := by
  intro env sc e loc hs K KB Kp c s A Qb E O a FI C h i P
  have plain : isTrue e env (eval e env) = (do
      let v ← eval e env
      standAt e.pos
      holding [v] (truthy v)) → wpAny (model Z.P Z.w) A (isTrue e env (eval e env)) Qb E s := fun hsp => by
    rw [hsp]
    refine wpAny_bind (S'.ev O a FI C h fun c₁ V₁ v₁ hs₁ s₁ l₁ C₁ F₁ R₁ h₁ => wpAny_bind (wpAny_standAt (wpAny_holding ?_)))
    exact truthV_ok (fun b tk k => P c₁ b hs₁ _ l₁ C₁.toks k) C₁ R₁ (i _ _ h₁)
  cases e with
  | UnaryOp op x p =>
    cases op with
    | Not =>
      rw [arm_isTrue_UnaryOp]
      refine wpAny_bind (T env sc x loc hs _ (fun b hs => KB (!b) hs) Kp c s A _ E O a FI C h (fun v hs hv => ?_) fun c₁ b hs₁ s₁ l₁ C₁ hb => wpAny_pure (P c₁ _ hs₁ s₁ l₁ C₁ hb))
      exact truthV_mono hv fun b hb => i (.d (.bool (!b))) hs hb
    | _ => exact plain rfl
  | BoolOp op es p =>
    rw [arm_isTrue_BoolOp]
    exact allTrue_ok S T O a FI C h i P
  | IfExp t x y p =>
    rw [arm_isTrue_IfExp]
    refine wpAny_bind (T env sc t loc hs _ _ Kp c s A _ E O a FI C h (fun v hs h => h) fun c₁ b hs₁ s₁ l₁ C₁ hb => ?_)
    have up : PostB Z Kp c₁ KB Qb := fun c₂ b hs₂ s₂ l₂ C₂ k => P c₂ b hs₂ s₂ (l₁.trans l₂) C₂ k
    rcases br_iff hb with ⟨rfl, hb⟩ | ⟨rfl, hb⟩
    · exact T _ _ _ _ _ _ _ _ _ _ _ _ _ O a (FI.mono l₁) C₁ hb i up
    · exact T _ _ _ _ _ _ _ _ _ _ _ _ _ O a (FI.mono l₁) C₁ hb i up
  | Compare l ops rs p =>
    rcases ops with _ | ⟨op, _ | ⟨op2, ops⟩⟩ <;> rcases rs with _ | ⟨r, _ | ⟨r2, rs⟩⟩ <;> first | exact False.elim h | skip
    have h : need (notSet r) (rec sc false l loc hs fun a hs => rec sc false r loc hs fun b hs => cmpV op a b hs fun c => K (.d (.bool c)) hs) := h
    obtain ⟨hn, h⟩ := need_iff h
    refine wpAny_isTrue_Compare1 (S.ev O a FI C h fun c₁ V₁ v₁ hs₁ s₁ l₁ C₁ F₁ R₁ h₁ => S.ev O a F₁ C₁ h₁ fun c₂ V₂ v₂ hs₂ s₂ l₂ C₂ F₂ R₂ h₂ => ?_) (notSet_marks hn)
    refine cmpV_ok (fun b k => wpAny_truthy_bool ?_) C₂ a.hu (R₁.mono l₂) R₂ h₂
    exact P c₂ b hs₂ s₂ (l₁.trans l₂) C₂ (i (.d (.bool b)) hs₂ k)
  | _ => exact plain rfl
end
end Mine
set_option genSizeOf false
set_option genInjectivity false
set_option maxRecDepth 100000
namespace Mine
open PySem PySem.W PySem.Calls PyProof.Rows

/-! ### what is kept, changed at some addresses -/
noncomputable def over (ia : List Addr) (Kp K₀ : Addr → Option Obj) : Addr → Option Obj := fun b => if b ∈ ia then Kp b else K₀ b
noncomputable def minus (ia : List Addr) (Kp : Addr → Option Obj) : Addr → Option Obj := fun b => if b ∈ ia then none else Kp b
structure Ups (ia : List Addr) (Kp Kq : Addr → Option Obj) : Prop where
  same : ∀ b, b ∉ ia → Kq b = Kp b
  here : ∀ b, b ∈ ia → (Kq b).isSome = true
theorem Ups.trans {ia : List Addr} {K₁ K₂ K₃ : Addr → Option Obj} (a : Ups ia K₁ K₂) (b : Ups ia K₂ K₃) : Ups ia K₁ K₃ := ⟨fun x hx => (b.same x hx).trans (a.same x hx), b.here⟩

section
variable {Z : Stat} {Kp Kq : Addr → Option Obj} {c : Cn} {hs : Hs} {s : Shared} {h' : Heap} {tk : Nat} {ia : List Addr}
theorem free_ng (C : Core Z Kp c hs s) (hia : ∀ b ∈ ia, (Kp b).isSome = true) {b : Addr} (hb : b ∈ ia) : c.G b = none :=
  let ⟨o, ho⟩ := Option.isSome_iff_exists.mp (hia b hb)
  C.dis b o ho
theorem no_some {α : Type} {o : Option α} {P : Prop} (h : o = none) (e : o.isSome = true) : P := by rw [h] at e; exact ff e
/-- kept objects changed; where they are new or were kept before -/
theorem Core.upK (C : Core Z Kp c hs s) (U : Ups ia Kp Kq) (hia : ∀ b ∈ ia, (Kp b).isSome = true ∨ s.heap.get? b = none) (k : ∀ b o, b ∉ ia → s.heap.get? b = some o → h'.get? b = some o) (e : ∀ b ∈ ia, h'.get? b = Kq b) :
    Core Z Kq c hs { s with heap := h', toks := tk } := by
  have ng : ∀ b ∈ ia, c.G b = none := fun b hb => (hia b hb).elim (fun h => let ⟨o, ho⟩ := Option.isSome_iff_exists.mp h; C.dis b o ho) fun h => none_of_fresh C.sub h
  have nl : ∀ p ∈ ledOf Z c hs, p.1 ∉ ia := fun p hp q => (hia p.1 q).elim (fun h => no_some (C.free p hp).2 h) fun h => let ⟨_, e1, _⟩ := C.led p hp; no2 h e1
  refine ⟨C.base, fun b o e' => k b o (fun q => no2 (ng b q) e') (C.sub b o e'), fun b o e' => ?_, fun b o e' => ?_, C.len, fun p hp => ?_, C.apart, fun p hp => ⟨(C.free p hp).1, (U.same _ (nl p hp)).trans (C.free p hp).2⟩, C.inst, C.gens, C.os⟩
  · by_cases hb : b ∈ ia
    · exact (e b hb).trans e'
    · exact k b o hb (C.kp b o ((U.same b hb).symm.trans e'))
  · by_cases hb : b ∈ ia
    · exact ng b hb
    · exact C.dis b o ((U.same b hb).symm.trans e')
  · obtain ⟨o, e1, f⟩ := C.led p hp
    exact ⟨o, k _ _ (nl p hp) e1, f⟩
theorem minus_some {b : Addr} {o : Obj} (e : minus ia Kp b = some o) : b ∉ ia ∧ Kp b = some o := by
  unfold minus at e
  by_cases q : b ∈ ia
  · rw [if_pos q] at e; exact none_some e
  · rw [if_neg q] at e; exact ⟨q, e⟩
theorem Core.dropK (C : Core Z Kp c hs s) (hia : ∀ b ∈ ia, (Kp b).isSome = true) (k : ∀ b o, b ∉ ia → s.heap.get? b = some o → h'.get? b = some o) :
    Core Z (minus ia Kp) c hs { s with heap := h', toks := tk } := by
  have nl : ∀ p ∈ ledOf Z c hs, p.1 ∉ ia := fun p hp q => no_some (C.free p hp).2 (hia p.1 q)
  exact ⟨C.base, fun b o e' => k b o (fun q => no2 (free_ng C hia q) e') (C.sub b o e'), fun b o e' => k b o (minus_some e').1 (C.kp b o (minus_some e').2), fun b o e' => C.dis b o (minus_some e').2, C.len,
    fun p hp => let ⟨o, e1, f⟩ := C.led p hp; ⟨o, k _ _ (nl p hp) e1, f⟩, C.apart, fun p hp => ⟨(C.free p hp).1, (if_neg (nl p hp)).trans (C.free p hp).2⟩, C.inst, C.gens, C.os⟩
theorem none_of_sub (sub : ∀ b o, Kq b = some o → Kp b = some o) {b : Addr} (h : Kp b = none) : Kq b = none := by
  cases q : Kq b with
  | none => rfl
  | some o => exact no2 h (sub b o q)
/-- what was only kept stands among what never changes -/
theorem Core.toG (C : Core Z Kp c hs s) {a : Addr} {o : Obj} (ha : Kp a = some o) (hq : Kq a = none) (sub : ∀ b o, Kq b = some o → Kp b = some o) : Core Z Kq (c.addG a o) hs s ∧ c.le (c.addG a o) := by
  have l : c.le (c.addG a o) := Cn.addG_le (C.dis a o ha)
  have addr := C.addrG a o
  exact ⟨⟨fun b o' e' => l.g b o' (C.base b o' e'), fun b o' e' => upd_some e' (fun q r => q ▸ r ▸ C.kp _ _ ha) fun _ e' => C.sub b o' e', fun b o' e' => C.kp b o' (sub b o' e'), fun b o' e' => (upd_ne (ne_of hq e')).trans (C.dis b o' (sub b o' e')), C.len,
    Led.at_append (mpLed_at l (fun p _ o e => e) C.atM) (objLed_at l (fun a _ o e => e) C.atL), addr ▸ C.apart,
    free_map (P := fun b => (c.addG a o).G b = none ∧ Kq b = none) addr fun p hp => ⟨(upd_ne (Ne.symm (ne_of (C.free p hp).2 ha))).trans (C.free p hp).1, none_of_sub sub (C.free p hp).2⟩, fun q d e' => (C.inst q d e').imp fun sl e'' => l.g _ _ e'', C.gens, C.os⟩, l⟩
theorem Core.toL (C : Core Z Kp c hs s) {a : Addr} {x : D} {vs : List Value} {n : Nat} (ha : Kp a = some (listO vs n)) (hq : Kq a = none) (sub : ∀ b o, Kq b = some o → Kp b = some o) (as : ListAs Z c x vs) :
    Core Z Kq (c.addL a) ⟨hs.hp ++ [x], hs.mp⟩ s ∧ c.le (c.addL a) ∧ RepV Z (c.addL a) (.loc hs.hp.length) (.ref a) := by
  have l := Cn.addL_le c a
  refine ⟨⟨C.base, C.sub, fun b o' e' => C.kp b o' (sub b o' e'), fun b o' e' => C.dis b o' (sub b o' e'), C.lenL a x, ?_, ?_, ?_, C.inst, C.gens, C.os⟩, l, a, C.atL' a x, rfl⟩
  · rw [addL_led C]
    exact Led.at_append (mpLed_at l (fun p _ o e => e) C.atM) (Led.at_append (objLed_at l (fun a _ o e => e) C.atL) (Led.at_one (C.kp _ _ ha) as l))
  · rw [C.addrL]
    refine nodup_snoc C.apart fun hb => ?_
    obtain ⟨p, hp, q⟩ := List.mem_map.mp hb
    exact ne_of (C.free p hp).2 ha q.symm
  · exact free_map (P := fun b => c.G b = none ∧ Kq b = none) (C.addrL1 a x) (free_snoc (P := fun b => c.G b = none ∧ Kq b = none) (fun p hp => ⟨(C.free p hp).1, none_of_sub sub (C.free p hp).2⟩) ⟨C.dis _ _ ha, hq⟩)
end

/-! ### iterators -/
noncomputable def ListAt (Z : Stat) (c : Cn) (g : Option (Nat × D)) (l : Addr) (all : List D) : Prop := match g with
  | none => ∃ vs n, c.G l = some (listO vs n) ∧ RepDs Z c all vs
  | some (n, d) => c.ρ[n]? = some l ∧ itemsD d = some all ∧ isRng d = false
theorem ListAt.mono {Z : Stat} {c c' : Cn} {g : Option (Nat × D)} {l : Addr} {all : List D} (le : c.le c') (h : ListAt Z c g l all) : ListAt Z c' g l all := by
  cases g with
  | none => exact let ⟨vs, n, a, b⟩ := h; ⟨vs, n, le.g _ _ a, RepDs.mono le _ _ b⟩
  | some g => exact ⟨le.ρ _ _ h.1, h.2⟩
theorem items_as {Z : Stat} {c : Cn} {d : D} {all : List D} {vs : List Value} (as : ListAs Z c d vs) (b : itemsD d = some all) : RepDs Z c all vs := by
  cases d with
  | list xs => exact some_eq b ▸ as
  | «ints» xs => exact some_eq b ▸ ints_iff.mp as
  | _ => exact False.elim as
theorem ListAt.here {Z : Stat} {Kp : Addr → Option Obj} {c : Cn} {hs : Hs} {s : Shared} {g : Option (Nat × D)} {l : Addr} {all : List D} (C : Core Z Kp c hs s) (h : ListAt Z c g l all) (st : stays g hs) : ∃ vs n, s.heap.get? l = some (listO vs n) ∧ RepDs Z c all vs := by
  cases g with
  | none => exact let ⟨vs, n, a, b⟩ := h; ⟨vs, n, C.sub _ _ a, b⟩
  | some g =>
    obtain ⟨a, b, r⟩ := h
    obtain ⟨_, vs, ep, e, as⟩ := C.locAt a
    exact ⟨vs, ep, e, items_as ((show hs.hp.getD g.1 .none = g.2 from st) ▸ as) b⟩
noncomputable def intsFrom (x : Int) : Nat → List D
  | 0 => []
  | n + 1 => .int x :: intsFrom (x + 1) n
inductive ItSt (Z : Stat) (Kp : Addr → Option Obj) (c : Cn) (g : Option (Nat × D)) : List Addr → Bool → Value → List D → Prop
  | lst {I l : Addr} {i : Nat} {all : List D} {o : Obj} : Kp I = some o → o.cls = .type "list_iterator" → o.data = .fields #[.ref l, .int i 0] → ListAt Z c g l all → ItSt Z Kp c g [I] false (.ref I) (all.drop i)
  | rng {I : Addr} {x : Int} {n : Nat} : Kp I = some { cls := .type "range_iterator", dict := none, data := .fields #[rawInt x, rawInt n, rawInt 1], slots := #[] } → ItSt Z Kp c g [I] false (.ref I) (intsFrom x n)
  | enm {e I l : Addr} {i : Nat} {all : List D} {o : Obj} {old : Value} : e ≠ I → Kp e = some { cls := .type "enumerate", dict := none, data := .fields #[.none, .bool false, .ref I, rawInt i, .none, old], slots := #[] } →
      Kp I = some o → o.cls = .type "list_iterator" → o.data = .fields #[.ref l, .int i 0] → ListAt Z c g l all → ItSt Z Kp c g [e, I] true (.ref e) (enumFrom i (all.drop i))
theorem ItSt.mono {Z : Stat} {Kp Kq : Addr → Option Obj} {c c' : Cn} {g : Option (Nat × D)} {ia : List Addr} {b : Bool} {v : Value} {xs : List D} (l : c.le c') (hk : ∀ a ∈ ia, Kq a = Kp a) (h : ItSt Z Kp c g ia b v xs) : ItSt Z Kq c' g ia b v xs := by
  cases h with
  | lst a b c d => exact .lst ((hk _ (.head _)).trans a) b c (d.mono l)
  | rng a => exact .rng ((hk _ (.head _)).trans a)
  | enm n a b c d e => exact .enm n ((hk _ (.head _)).trans a) ((hk _ (.tail _ (.head _))).trans b) c d (e.mono l)
theorem some_one {Kp : Addr → Option Obj} {a : Addr} {o : Obj} (e : Kp a = some o) : ∀ b ∈ [a], (Kp b).isSome = true := fun b hb => by rw [List.mem_singleton.mp hb, e]; rfl
theorem some_two {Kp : Addr → Option Obj} {a b : Addr} {o p : Obj} (e : Kp a = some o) (e' : Kp b = some p) : ∀ x ∈ [a, b], (Kp x).isSome = true := fun x hx =>
  (List.mem_cons.mp hx).elim (fun q => by rw [q, e]; rfl) (some_one e' x)
theorem ItSt.some {Z : Stat} {Kp : Addr → Option Obj} {c : Cn} {g : Option (Nat × D)} {ia : List Addr} {b : Bool} {v : Value} {xs : List D} (h : ItSt Z Kp c g ia b v xs) : ∀ a ∈ ia, (Kp a).isSome = true := by
  cases h with
  | lst a b c d => exact some_one a
  | rng a => exact some_one a
  | enm n a b c d e => exact some_two a b
noncomputable def heapK (ia : List Addr) (h : Heap) (Kp : Addr → Option Obj) : Addr → Option Obj := fun b => if b ∈ ia then h.get? b else Kp b
end Mine
set_option genSizeOf false
set_option genInjectivity false
set_option maxRecDepth 100000
namespace Mine
open PySem PySem.W PySem.Calls PyProof.Rows

section
variable {Z : Stat} {Kp Kq : Addr → Option Obj} {c : Cn} {hs : Hs} {s : Shared} {A : Around} {E : Value → Shared → Prop} {tk : Nat} {ia : List Addr} {g : Option (Nat × D)}

noncomputable def ownNs : List String := ["enumerate", "zip", "dict_itemiterator", "dict_reverseitemiterator", "odict_iterator", "itertools.zip_longest", "itertools.pairwise"]
theorem letOwned_plain {t : Expr} {I : Addr} {u : Value} {o : Obj} {n : String} {vs : Array Value} {Q : Unit → Shared → Prop} (ho : s.heap.get? I = some o) (hc : o.cls = .type n) (hd : o.data = .fields vs)
    (hn : ownNs.contains n = false) (h : Q () s) : wpAny (model Z.P Z.w) A (letOwnedTupleGo t (.ref I) u) Q E s := by
  have key : ∀ a, wpAny (model Z.P Z.w) A (do
      let o ← load I
      match o.cls, o.data with
      | .type n, .fields vs =>
        if ["enumerate", "zip", "dict_itemiterator", "dict_reverseitemiterator", "odict_iterator", "itertools.zip_longest", "itertools.pairwise"].contains n && vs[0]? == some (rawInt a) then
          rule "for.unpacks-the-owned-tuple"
          updateField I 0 .none
      | _, _ => pure ()) Q E s := fun a => by
    refine wpAny_bind (wpAny_load ho ?_)
    rw [hc, hd]
    show wpAny _ _ (if (ownNs.contains n && _) = true then _ else _) _ _ _
    rw [hn]
    exact wpAny_pure h
  cases t <;> first | exact wpAny_pure h | (cases u <;> first | exact wpAny_pure h | exact key _)
theorem upsK (h' : Heap) (hh : ∀ b ∈ ia, (h'.get? b).isSome = true) : Ups ia Kp (heapK ia h' Kp) := ⟨fun b hb => if_neg hb, fun b hb => by unfold heapK; rw [if_pos hb]; exact hh b hb⟩
theorem heapK_in {b : Addr} {h' : Heap} (hb : b ∈ ia) : heapK ia h' Kp b = h'.get? b := if_pos hb
theorem Core.upH (C : Core Z Kp c hs s) {h' : Heap} (hh : ∀ b ∈ ia, (h'.get? b).isSome = true) (hia : ∀ b ∈ ia, (Kp b).isSome = true) (k : ∀ b o, b ∉ ia → s.heap.get? b = some o → h'.get? b = some o) :
    Core Z (heapK ia h' Kp) c hs { s with heap := h', toks := tk } := C.upK (upsK h' hh) (fun b hb => .inl (hia b hb)) k fun b hb => (heapK_in hb).symm
theorem not_one {b I : Addr} (h : b ∉ [I]) : b ≠ I := fun q => h (q ▸ .head _)
theorem not_two {b e I : Addr} (h : b ∉ [e, I]) : b ≠ e ∧ b ≠ I := ⟨fun q => h (q ▸ .head _), fun q => h (q ▸ .tail _ (.head _))⟩
theorem drop_at {α : Type} : ∀ {l : List α} {i : Nat} {x : α} {r : List α}, l.drop i = x :: r → l[i]? = some x ∧ r = l.drop (i + 1)
  | [], 0, _, _, h => nomatch h
  | [], _ + 1, _, _, h => nomatch h
  | _ :: _, 0, _, _, h => by cases h; exact ⟨rfl, rfl⟩
  | _ :: l, i + 1, _, _, h => drop_at (l := l) (i := i) h
theorem drop_nil {α : Type} {l : List α} {i : Nat} (h : l.drop i = []) : l[i]? = none := List.getElem?_eq_none (List.drop_eq_nil_iff.mp h)
theorem reps_at {xs : List D} {vs : List Value} (h : RepDs Z c xs vs) {i : Nat} {x : D} (e : xs[i]? = some x) : ∃ v, vs[i]? = some v ∧ RepD Z c x v := by
  obtain ⟨v, h1, h2⟩ := h.get i (List.getElem?_eq_some_iff.mp e).1
  rw [List.getD_eq_getElem?_getD, e] at h2
  exact ⟨v, h1, h2⟩
theorem reps_end {xs : List D} {vs : List Value} (h : RepDs Z c xs vs) {i : Nat} (e : xs.drop i = []) : vs.toArray[i]? = none := by
  have e := List.drop_eq_nil_iff.mp e
  rw [h.length] at e
  exact (List.getElem?_toArray ..).trans (List.getElem?_eq_none e)
theorem arr_at {vs : List Value} {i : Nat} {u : Value} (h : vs[i]? = some u) : vs.toArray[i]? = some u := (List.getElem?_toArray ..).trans h
/-- how the walk goes on behind an item -/
noncomputable def Owned (Z : Stat) (c' : Cn) (hs : Hs) (s : Shared) (A : Around) (g : Option (Nat × D)) (ia : List Addr) (b : Bool) (v u : Value) (r : List D) (Kq : Addr → Option Obj) : Prop :=
  ∀ (t : Expr) (Q' : Unit → Shared → Prop) (E' : Value → Shared → Prop), (b = true → isTupE t = true) → (∀ Kr s'', Ups ia Kq Kr → Core Z Kr c' hs s'' → ItSt Z Kr c' g ia b v r → Q' () s'') → wpAny (model Z.P Z.w) A (letOwnedTupleGo t v u) Q' E' s
noncomputable def NextC (Z : Stat) (Kp : Addr → Option Obj) (c : Cn) (hs : Hs) (A : Around) (g : Option (Nat × D)) (ia : List Addr) (b : Bool) (v : Value) (x : D) (r : List D) (Q : Option Value → Shared → Prop) : Prop :=
  ∀ c' Kq u s', c.le c' → Ups ia Kp Kq → Core Z Kq c' hs s' → RepD Z c' x u → Owned Z c' hs s' A g ia b v u r Kq → Q (some u) s'
theorem ups_refl {Kq : Addr → Option Obj} (h : ∀ b ∈ ia, (Kq b).isSome = true) : Ups ia Kq Kq := ⟨fun _ _ => rfl, h⟩
theorem next_lst {I l : Addr} {i : Nat} {all : List D} {o : Obj} {Q : Option Value → Shared → Prop} (hh : A.handled = none) (C : Core Z Kp c hs s) (h1 : Kp I = some o) (h2 : o.cls = .type "list_iterator") (h3 : o.data = .fields #[.ref l, .int i 0]) (h4 : ListAt Z c g l all) (st : stays g hs)
    (hnil : all.drop i = [] → ∀ s', Core Z (minus [I] Kp) c hs s' → Q none s') (hcons : ∀ x r, all.drop i = x :: r → NextC Z Kp c hs A g [I] false (.ref I) x r Q) : wpAny (model Z.P Z.w) A (pyNext (.ref I)) Q E s := by
  have hsome := some_one h1
  obtain ⟨vs, n, hl, R⟩ := h4.here C st
  have l1 : s.heap.IsList l vs.toArray := ⟨_, hl, rfl, n, rfl⟩
  have i1 : s.heap.IsListIter I l i := ⟨o, C.kp _ _ h1, h2, h3⟩
  cases hx : all.drop i with
  | nil => exact wpAny_pyNext_list_end hh i1 l1 (reps_end R hx) fun h' he => hnil hx _ (C.dropK (tk := s.toks) hsome fun b o hb e => he b o (not_one hb) e)
  | cons x r =>
    obtain ⟨e, rfl⟩ := drop_at hx
    obtain ⟨u, hu, Ru⟩ := reps_at R e
    refine wpAny_pyNext_list_item i1 l1 (arr_at hu) fun h' i2 hsb => ?_
    obtain ⟨o', e1, e2, e3⟩ := i2
    have hs' := some_one (Kp := h'.get?) e1
    have kI := (heapK_in (ia := [I]) (Kp := Kp) (h' := h') (b := I) (.head _)).trans e1
    have C' := C.upH (tk := s.toks) hs' hsome fun b o hb e => hsb.extBut b o (not_one hb) e
    exact hcons x _ hx c _ u _ (.refl c) (upsK h' hs') C' Ru fun t Q' E' _ hq => letOwned_plain e1 e2 e3 rfl (hq _ _ (ups_refl (some_one kI)) C' (.lst kI e2 e3 h4))
theorem next_rng {I : Addr} {x : Int} {n : Nat} {Q : Option Value → Shared → Prop} (hh : A.handled = none) (C : Core Z Kp c hs s) (h1 : Kp I = some { cls := .type "range_iterator", dict := none, data := .fields #[rawInt x, rawInt n, rawInt 1], slots := #[] })
    (hnil : intsFrom x n = [] → ∀ s', Core Z (minus [I] Kp) c hs s' → Q none s') (hcons : ∀ y r, intsFrom x n = y :: r → NextC Z Kp c hs A g [I] false (.ref I) y r Q) : wpAny (model Z.P Z.w) A (pyNext (.ref I)) Q E s := by
  have hsome := some_one h1
  have i1 : IsRangeIter s.heap I x n 1 := C.kp _ _ h1
  cases n with
  | zero => exact wpAny_pyNext_range_end hh i1 (by decide) fun h' he => hnil rfl _ (C.dropK (tk := s.toks) hsome fun b o hb e => he b o (not_one hb) e)
  | succ n =>
    refine wpAny_pyNext_range_item i1 (Int.natCast_pos.mpr (Nat.succ_pos n)) fun h' i2 hsb => ?_
    have e1 : h'.get? I = some { cls := .type "range_iterator", dict := none, data := .fields #[rawInt (x + 1), rawInt n, rawInt 1], slots := #[] } := by
      rw [show ((n : Nat) : Int) = ((n + 1 : Nat) : Int) - 1 from by lia]; exact i2
    have hs' := some_one (Kp := h'.get?) e1
    have kI := (heapK_in (ia := [I]) (Kp := Kp) (h' := h') (b := I) (.head _)).trans e1
    have C' := C.upH (tk := s.toks + 1) hs' hsome fun b o hb e => hsb.extBut b o (not_one hb) e
    exact hcons (.int x) _ rfl c _ _ _ (.refl c) (upsK h' hs') C' ⟨_, rfl⟩ fun t Q' E' _ hq => letOwned_plain e1 rfl rfl rfl (hq _ _ (ups_refl (some_one kI)) C' (.rng kI))
theorem updK_some {K : Addr → Option Obj} {a : Addr} {o : Obj} (h : ∀ b ∈ ia, (K b).isSome = true) : ∀ b ∈ a :: ia, (updK K a o b).isSome = true := fun b hb => by
  by_cases q : b = a
  · rw [show updK K a o b = _ from if_pos q]; rfl
  · rw [show updK K a o b = _ from if_neg q]; exact h b ((List.mem_cons.mp hb).resolve_left q)
/-- kept objects changed, and one that is new -/
theorem Core.upN (C : Core Z Kp c hs s) {h' : Heap} {a : Addr} {o : Obj} (fr : s.heap.get? a = none) (ea : h'.get? a = some o) (hh : ∀ b ∈ ia, (h'.get? b).isSome = true) (hia : ∀ b ∈ ia, (Kp b).isSome = true) (k : ∀ b o, b ∉ ia → s.heap.get? b = some o → h'.get? b = some o) :
    Core Z (heapK ia h' Kp) (c.addG a o) hs { s with heap := h', toks := tk } ∧ c.le (c.addG a o) := by
  have ne1 : a ∉ ia := fun hm => let ⟨_, e⟩ := Option.isSome_iff_exists.mp (hia a hm); no2 fr (C.kp _ _ e)
  have kq : heapK ia h' Kp a = none := (if_neg ne1).trans (none_of_fresh C.kp fr)
  have C1 : Core Z (updK (heapK ia h' Kp) a o) c hs { s with heap := h', toks := tk } := by
    refine C.upK (ia := a :: ia) ⟨fun b hb => ?_, updK_some (upsK h' hh).here⟩ (fun b hb => ?_) (fun b o hb e' => k b o (fun q => hb (.tail _ q)) e') fun b hb => ?_
    · exact (show updK (heapK ia h' Kp) a o b = heapK ia h' Kp b from if_neg fun (q : b = a) => hb (q ▸ .head _)).trans (if_neg fun (q : b ∈ ia) => hb (.tail _ q))
    · rcases List.mem_cons.mp hb with q | hb
      · exact .inr (q ▸ fr)
      · exact .inl (hia b hb)
    · by_cases q : b = a
      · rw [q]; exact ea.trans (if_pos rfl).symm
      · exact ((heapK_in ((List.mem_cons.mp hb).resolve_left q)).symm).trans (show updK (heapK ia h' Kp) a o b = heapK ia h' Kp b from if_neg q).symm
  exact C1.toG (if_pos rfl) kq fun b o' hb => (if_neg (ne_of kq hb)).trans hb
theorem next_enm {e I l : Addr} {i : Nat} {all : List D} {o : Obj} {old : Value} {Q : Option Value → Shared → Prop} (hh : A.handled = none) (C : Core Z Kp c hs s) (hne : e ≠ I) (he : Kp e = some { cls := .type "enumerate", dict := none, data := .fields #[.none, .bool false, .ref I, rawInt i, .none, old], slots := #[] })
    (h1 : Kp I = some o) (h2 : o.cls = .type "list_iterator") (h3 : o.data = .fields #[.ref l, .int i 0]) (h4 : ListAt Z c g l all) (st : stays g hs)
    (hnil : enumFrom i (all.drop i) = [] → ∀ s', Core Z (minus [e, I] Kp) c hs s' → Q none s') (hcons : ∀ x r, enumFrom i (all.drop i) = x :: r → NextC Z Kp c hs A g [e, I] true (.ref e) x r Q) : wpAny (model Z.P Z.w) A (pyNext (.ref e)) Q E s := by
  have hsome := some_two he h1
  obtain ⟨vs, n, hl, R⟩ := h4.here C st
  have l1 : s.heap.IsList l vs.toArray := ⟨_, hl, rfl, n, rfl⟩
  have i1 : s.heap.IsListIter I l i := ⟨o, C.kp _ _ h1, h2, h3⟩
  have e1 : IsEnum s.heap e I i old := C.kp _ _ he
  cases hx : all.drop i with
  | nil => exact wpAny_pyNext_enum_end hh e1 i1 l1 (reps_end R hx) fun h' he' => hnil (by rw [hx]; rfl) _ (C.dropK (tk := s.toks) hsome fun b o hb e => he' b o (not_two hb).2 e)
  | cons x r =>
    obtain ⟨q, rfl⟩ := drop_at hx
    obtain ⟨u, hu, Ru⟩ := reps_at R q
    refine wpAny_pyNext_enum_item e1 i1 l1 (arr_at hu) hne fun h' eo i2 ht hz hk => ?_
    obtain ⟨o', f1, f2, f3⟩ := i2
    have hs' := some_two (Kp := h'.get?) eo f1
    obtain ⟨C2, le⟩ := C.upN (tk := s.toks + 1) (o := tupO [.int i s.toks, u] 0) (fresh_size _) ht hs' hsome fun b o hb e => hk b o (not_two hb).1 (not_two hb).2 e
    refine hcons (.tup [.int i, x]) (enumFrom (i + 1) _) (by rw [hx]; rfl) _ _ _ _ le (upsK h' hs') C2 ⟨_, [.int i s.toks, u], 0, rfl, Cn.addG_get _ _ _, _, _, rfl, ⟨_, rfl⟩, u, [], rfl, RepD.mono le _ _ Ru, rfl⟩ fun t Q' E' htup hq => ?_
    have htup := htup rfl
    cases t with
    | Tuple =>
      refine wpAny_letOwnedTupleGo_enum eo fun h'' eo' hsb => ?_
      have f1' := (hsb.2 I (Ne.symm hne)).trans f1
      have hs'' := some_two (Kp := h''.get?) eo' f1'
      have C3 := C2.upH (tk := s.toks + 1) hs'' (upsK h' hs').here fun b o hb e' => hsb.extBut b o (not_two hb).1 e'
      exact hq _ _ (upsK h'' hs'') C3 (.enm (old := u) hne ((heapK_in (.head _)).trans eo') ((heapK_in (.tail _ (.head _))).trans f1') f2 f3 (h4.mono le))
    | _ => exact ff htup
theorem next_ok {v : Value} {b : Bool} {xs : List D} {Q : Option Value → Shared → Prop} (hh : A.handled = none) (C : Core Z Kp c hs s) (I : ItSt Z Kp c g ia b v xs) (st : stays g hs)
    (hnil : xs = [] → ∀ s', Core Z (minus ia Kp) c hs s' → Q none s') (hcons : ∀ x r, xs = x :: r → NextC Z Kp c hs A g ia b v x r Q) : wpAny (model Z.P Z.w) A (pyNext v) Q E s := by
  cases I with
  | lst h1 h2 h3 h4 => exact next_lst hh C h1 h2 h3 h4 st hnil hcons
  | rng h1 => exact next_rng hh C h1 hnil hcons
  | enm hne he h1 h2 h3 h4 => exact next_enm hh C hne he h1 h2 h3 h4 st hnil hcons
end
end Mine
set_option genSizeOf false
set_option genInjectivity false
set_option maxRecDepth 100000
namespace Mine
open PySem PySem.W PySem.Calls PyProof.Rows

section
variable {Z : Stat} {Kp Kq : Addr → Option Obj} {c : Cn} {hs : Hs} {s : Shared} {A : Around} {E : Value → Shared → Prop} {tk : Nat} {ia : List Addr} {g : Option (Nat × D)} {Fg : Frag} {env : Env} {sc : Names} {loc : Loc} {d : Nat} {rec : RecE}

theorem folded_ok {e : Expr} (h : notSet e = true) (x : Value) : foldedSetIterable e env x = pure x := by cases e <;> first | rfl | exact ff h
inductive ItemsAt (Z : Stat) (c : Cn) (h : Heap) (g : Option (Nat × D)) (all : List D) (v : Value) : Prop
  | mk (l : Addr) (vs : List Value) (n : Nat) (e : v = .ref l) (hl : h.get? l = some (listO vs n)) (LA : ListAt Z c g l all) : ItemsAt Z c h g all v
theorem items_at (C : Core Z Kp c hs s) {V : V} {v : Value} {all : List D} (R : RepV Z c V v) (h : itemsD (deref hs V) = some all) (hr : isRng (deref hs V) = false) :
    ItemsAt Z c s.heap (guardOf V hs) all v := by
  cases V with
  | d x => cases x with
    | list xs =>
      cases some_eq h
      obtain ⟨a, ws, k, rfl, gg, r⟩ := R
      exact ⟨a, ws, k, rfl, C.sub _ _ gg, ws, k, gg, r⟩
    | «ints» xs =>
      cases some_eq h
      obtain ⟨a, ws, k, rfl, gg, r⟩ := R
      exact ⟨a, ws, k, rfl, C.sub _ _ gg, ws, k, gg, ints_iff.mp r⟩
    | rng n => exact nomatch hr
    | _ => exact none_some h
  | loc m =>
    obtain ⟨a, e1, rfl⟩ := R
    obtain ⟨_, vs, ep, e, as⟩ := C.locAt e1
    exact ⟨a, vs, ep, rfl, e, e1, h, hr⟩
/-- an iterator, newly made -/
structure Made (Z : Stat) (Kp : Addr → Option Obj) (c : Cn) (hs : Hs) (t : Expr) (g : Option (Nat × D)) (v : Value) (xs : List D) (ia : List Addr) (Kq : Addr → Option Obj) (s' : Shared) (b : Bool) : Prop where
  core : Core Z Kq c hs s'
  same : ∀ x, x ∉ ia → Kq x = Kp x
  new : ∀ x ∈ ia, Kp x = none
  it : ItSt Z Kq c g ia b v xs
  tup : b = true → isTupE t = true
theorem Core.mk1 (C : Core Z Kp c hs s) {o : Obj} (hf : o.isFreed = false) : Core Z (updK Kp s.heap.objs.size o) c hs { s with heap := s.heap.push o, toks := tk } :=
  C.newK (fun b o e => Heap.get?_push_of_some _ e) (fresh_size _) (Heap.get?_push_size _ hf)
theorem intsFrom_eq : ∀ (n : Nat) (x : Int), intsFrom x n = (List.range n).map fun (i : Nat) => D.int (x + i)
  | 0, _ => rfl
  | n + 1, x => by
    rw [List.range_succ_eq_map, List.map_cons, List.map_map]
    refine congr (congrArg _ (congrArg D.int (Int.add_zero x).symm)) ((intsFrom_eq n (x + 1)).trans (List.map_congr_left fun i _ => congrArg D.int ?_))
    show x + 1 + (i : Int) = x + ((i + 1 : Nat) : Int)
    rw [Int.natCast_succ, Int.add_assoc, Int.add_comm 1]
theorem Core.made1 (C : Core Z Kp c hs s) {t : Expr} {xs : List D} {o : Obj} (hf : o.isFreed = false) (I : ItSt Z (updK Kp s.heap.objs.size o) c g [s.heap.objs.size] false (.ref s.heap.objs.size) xs) :
    Made Z Kp c hs t g (.ref s.heap.objs.size) xs [s.heap.objs.size] (updK Kp s.heap.objs.size o) { s with heap := s.heap.push o, toks := tk } false :=
  ⟨C.mk1 (tk := tk) hf, fun _ hx => if_neg (not_one hx), fun _ hx => List.mem_singleton.mp hx ▸ none_of_fresh C.kp (fresh_size _), I, fun h => nomatch h⟩
theorem isRng_eq {d : D} (h : isRng d = true) : ∃ n, d = .rng n := by
  cases d with
  | rng n => exact ⟨n, rfl⟩
  | _ => exact ff h
theorem pyIter_ok (C : Core Z Kp c hs s) {t : Expr} {V : V} {v : Value} {all : List D} {Q : Value → Shared → Prop} (R : RepV Z c V v) (h : itemsD (deref hs V) = some all) (hsm : smallR (deref hs V))
    (k : ∀ ia Kq u s', Made Z Kp c hs t (guardOf V hs) u all ia Kq s' false → Q u s') : wpAny (model Z.P Z.w) A (pyIter v) Q E s := by
  cases hr : isRng (deref hs V) with
  | false =>
    obtain ⟨l, vs, n, rfl, hl, LA⟩ := items_at C R h hr
    exact wpAny_pyIter_list (items := vs.toArray) ⟨_, hl, rfl, n, rfl⟩ (k _ _ _ _ (C.made1 (tk := s.toks) rfl (.lst (i := 0) (if_pos rfl) rfl rfl LA)))
  | true =>
    obtain ⟨n, hd⟩ := isRng_eq hr
    obtain ⟨a, t', u, x, rfl, gg⟩ := view_d C R hd rfl
    rw [hd] at h hsm
    have hn : -(2 ^ 62) < n ∧ n < 2 ^ 62 := hsm
    have hsz : Builtin.Range.rangeSize 0 n 1 = n.toNat := by rw [rangeSize_one]; split <;> lia
    refine wpAny_pyIter_range (C.sub _ _ gg) (small_one (by decide) (by decide) (by lia) (by lia)) ?_
    rw [hsz]
    refine k _ _ _ _ (C.made1 (tk := s.toks) rfl ?_)
    have : all = intsFrom 0 n.toNat := by
      rw [intsFrom_eq, ← some_eq h]
      exact List.map_congr_left fun i _ => congrArg D.int (Int.zero_add _).symm
    rw [this]
    exact .rng (if_pos rfl)
theorem isGI_eq {k : Option NameKind} (h : isGI k = true) : k = some .globalImplicit := by
  cases k with
  | none => exact ff h
  | some k => cases k <;> first | rfl | exact ff h
theorem isEnumN_iff {X : PX} {x : Str} (h : isEnumN X sc x = true) : sLook x sc = some .globalImplicit ∧ glob X x = some (.bi .enum) := by
  obtain ⟨h1, h2⟩ := and_t h
  refine ⟨isGI_eq h1, ?_⟩
  cases q : glob X x with
  | none => rw [q] at h2; exact ff h2
  | some d =>
    rw [q] at h2
    cases d with
    | bi b => cases b <;> first | rfl | exact ff h2
    | _ => exact ff h2
inductive EnumIs (X : PX) (sc : Names) (e it : Expr) : Prop
  | mk (x : Str) (px p : Pos) (q : it = .Call (.Name x px) [e] [] p) (n : isEnumN X sc x = true) (k : okArgsE [e] = true) : EnumIs X sc e it
theorem callP_eq {e : Expr} {q : Expr × List Expr × List Keyword} (h : callP e = some q) : ∃ p, e = .Call q.1 q.2.1 q.2.2 p := by
  cases e with
  | Call f args kws p => exact ⟨p, some_eq h ▸ rfl⟩
  | _ => exact none_some h
theorem nameP1_eq {e : Expr} {x : Str} (h : nameP1 e = some x) : ∃ p, e = .Name x p := by
  cases e with
  | Name y p => exact ⟨p, some_eq h ▸ rfl⟩
  | _ => exact none_some h
theorem enumOf_iff {X : PX} {it e : Expr} (h : enumOf X sc it = some e) : EnumIs X sc e it := by
  obtain ⟨q, h1, h⟩ := optB_iff h
  obtain ⟨x, h2, h⟩ := optB_iff h
  obtain ⟨e', h3, h⟩ := optB_iff h
  obtain ⟨h4, h⟩ := noB_iff h
  obtain ⟨h4, h6⟩ := and_t (not_t' h4)
  obtain ⟨h4, h5⟩ := and_t h4
  obtain ⟨p, e1⟩ := callP_eq h1
  obtain ⟨px, e2⟩ := nameP1_eq h2
  have e := some_eq h
  exact ⟨x, px, p, by rw [e1, e2, one_eq h3, List.isEmpty_iff.mp h4, e], h5, e ▸ h6⟩
theorem Core.enum_new (C : Core Z Kp c hs s) {h' : Heap} {o o2 : Obj} (e1 : h'.get? (s.heap.objs.size + 1) = some o) (e2 : h'.get? s.heap.objs.size = some o2) (k : ∀ b o, s.heap.get? b = some o → h'.get? b = some o) :
    Core Z (heapK [s.heap.objs.size + 1, s.heap.objs.size] h' Kp) c hs { s with heap := h', toks := tk } ∧ ∀ x ∈ [s.heap.objs.size + 1, s.heap.objs.size], Kp x = none := by
  have fr : ∀ b ∈ [s.heap.objs.size + 1, s.heap.objs.size], s.heap.get? b = none := fun b hb =>
    (List.mem_cons.mp hb).elim (fun q => q ▸ fresh_ge (Nat.le_succ _)) fun hb => List.mem_singleton.mp hb ▸ fresh_size _
  exact ⟨C.upK (upsK h' (some_two (Kp := h'.get?) e1 e2)) (fun b hb => .inr (fr b hb)) (fun b o _ e => k b o e) fun b hb => (heapK_in hb).symm, fun x hx => none_of_fresh C.kp (fr x hx)⟩
theorem enum_ok (B : BaseOK Z Fg) (S : SE Z d rec) (O : EnvOK env sc) (a : AOK d A) (FI : FrameIn Z Kp c env loc) (C : Core Z Kp c hs s) {t e : Expr} {x : Str} {px p : Pos} {K : List D → Option (Nat × D) → Hs → Prop} {Q : Value → Shared → Prop}
    (hn : isEnumN Z.X sc x = true) (hargs : okArgsE [e] = true) (htup : isTupE t = true) (h : rec sc false e loc hs fun v hs => need (!isRng (deref hs v)) (optP (itemsD (deref hs v)) fun xs => K (enumFrom 0 xs) (guardOf v hs) hs))
    (k : ∀ c' ia Kq u s' b xs g hs', c.le c' → Made Z Kp c' hs' t g u xs ia Kq s' b → K xs g hs' → Q u s') :
    wpAny (model Z.P Z.w) A (eval (.Call (.Name x px) [e] [] p) env) (fun x s₁ => wpAny (model Z.P Z.w) A (pyIter x) Q E s₁) E s := by
  obtain ⟨hk, hg⟩ := isEnumN_iff hn
  have e1 : eval (.Call (.Name x px) [e] [] p) env = (do callWith p (← eval (.Name x px) env) [] (backTo p (starEach [e] env)) (backToKw p (keywordEach [] env))) := rfl
  rw [e1]
  refine wpAny_bind (name_ok B O FI (K := fun v hs' => v = .d (.bi .enum) ∧ hs' = hs) (fun c₁ V₁ v₁ hs₁ s₁ l₁ C₁ R₁ hV => ?_) C (optP_of hk (optP_of hg ⟨rfl, rfl⟩)))
  obtain ⟨rfl, rfl⟩ := hV
  cases (R₁ : v₁ = biV .enum)
  refine callWith_ok (K := fun Vs hs => optP (one Vs) fun v => need (!isRng (deref hs v)) (optP (itemsD (deref hs v)) fun xs => K (enumFrom 0 xs) (guardOf v hs) hs)) S O a (FI.mono l₁) C₁ (okArgsE_iff hargs).1 h (fun _ _ _ s' _ _ _ => keeps_bi _ _) (fun c₂ Vs vs hs₂ s₂ l₂ C₂ R₂ h₂ => ?_)
  obtain ⟨V, eV, h₂⟩ := optP_iff h₂
  rw [one_eq eV] at R₂
  obtain ⟨v, r, rfl, RV, rfl⟩ := R₂
  obtain ⟨hr, h₂⟩ := need_iff h₂
  obtain ⟨all, hall, h₂⟩ := optP_iff h₂
  obtain ⟨l, vs, n, rfl, hl, LA⟩ := items_at C₂ RV hall (not_t hr)
  refine call_enumerate_list (items := vs.toArray) ⟨_, hl, rfl, n, rfl⟩ fun h' he hit hz hk' => wpAny_pyIter_enum he ?_
  obtain ⟨o, f1, f2, f3⟩ := hit
  obtain ⟨C₃, fr⟩ := C₂.enum_new (tk := s₂.toks) he f1 hk'
  exact k c₂ _ _ _ _ true _ _ _ (l₁.trans l₂) ⟨C₃, fun x hx => if_neg hx, fr, .enm (i := 0) (old := .none) (Nat.succ_ne_self _) ((heapK_in (.head _)).trans he) ((heapK_in (.tail _ (.head _))).trans f1) f2 f3 LA, fun _ => htup⟩ h₂
theorem iter_ok (B : BaseOK Z Fg) (S : SE Z d rec) (O : EnvOK env sc) (a : AOK d A) (FI : FrameIn Z Kp c env loc) (C : Core Z Kp c hs s) {t it : Expr} {K : List D → Option (Nat × D) → Hs → Prop} {Q : Value → Shared → Prop}
    (h : iterE (fun e => rec sc false e loc) (enumOf Z.X sc) t it hs K)
    (k : ∀ c' ia Kq u s' b xs g hs', c.le c' → Made Z Kp c' hs' t g u xs ia Kq s' b → K xs g hs' → Q u s') :
    wpAny (model Z.P Z.w) A (eval it env) (fun x s₁ => wpAny (model Z.P Z.w) A (pyIter x) Q E s₁) E s := by
  rcases orP_iff h with ⟨e, he, h'⟩ | h
  · obtain ⟨htup, h'⟩ := need_iff h'
    obtain ⟨x, px, p, rfl, hn, hargs⟩ := enumOf_iff he
    exact enum_ok B S O a FI C hn hargs htup h' k
  · refine S.ev O a FI C h fun c₁ V v hs₁ s₁ l C₁ F₁ R h₁ => ?_
    obtain ⟨hsm, h₁⟩ := h₁
    obtain ⟨all, hall, h₁⟩ := optP_iff h₁
    exact pyIter_ok (t := t) C₁ R hall hsm fun ia Kq u s' M => k c₁ ia Kq u s' false all _ hs₁ l M h₁
end
end Mine
set_option genSizeOf false
set_option genInjectivity false
set_option maxRecDepth 100000
namespace Mine
open PySem PySem.W PySem.Calls PyProof.Rows

/-- a frame that may be written: K₀ is what is kept of all else -/
inductive CellW (K₀ Kp : Addr → Option Obj) (env : Env) (x : Str) : Prop
  | mk (a : Addr) (o : Obj) (v : Option Value) (h1 : env.cells.lookup x = some a) (h2 : Kp a = some o) (h3 : o.data = .cell v) (h4 : K₀ a = none) (h5 : a ≠ env.locals) : CellW K₀ Kp env x
structure FrameW (Z : Stat) (K₀ Kp : Addr → Option Obj) (c : Cn) (env : Env) (loc : Loc) : Prop where
  in_ : FrameIn Z Kp c env loc
  le : ∀ b o, K₀ b = some o → Kp b = some o
  freeL : K₀ env.locals = none
  cells : ∀ x, env.kindOf x = some .cell → CellW K₀ Kp env x
  apart : ∀ x y a, env.kindOf x = some .cell → env.kindOf y = some .cell → env.cells.lookup x = some a → env.cells.lookup y = some a → x = y
  nofree : ∀ x, env.kindOf x ≠ some .free
theorem FrameW.mono {Z : Stat} {K₀ Kp : Addr → Option Obj} {c c' : Cn} {env : Env} {loc : Loc} (l : c.le c') (h : FrameW Z K₀ Kp c env loc) : FrameW Z K₀ Kp c' env loc := ⟨h.in_.mono l, h.le, h.freeL, h.cells, h.apart, h.nofree⟩

theorem sLook_cons {β : Type} {x y : Str} {u : β} {r : List (Str × β)} : sLook y ((x, u) :: r) = if y = x then some u else sLook y r := by
  show (if sEq y x = true then some u else sLook y r) = _
  by_cases q : y = x
  · rw [if_pos q, if_pos (sEq_iff.mpr q)]
  · rw [if_neg q, if_neg fun h => q (sEq_iff.mp h)]
theorem putL_cons {x z : Str} {U u : V} {r : Loc} : putL x U ((z, u) :: r) = if x = z then (x, U) :: r else (z, u) :: putL x U r := by
  show (if sEq x z = true then (x, U) :: r else (z, u) :: putL x U r) = _
  by_cases q : x = z
  · rw [if_pos q, if_pos (sEq_iff.mpr q)]
  · rw [if_neg q, if_neg fun h => q (sEq_iff.mp h)]
theorem putL_look (x y : Str) (V : V) : ∀ loc : Loc, sLook y (putL x V loc) = if y = x then some V else sLook y loc
  | [] => sLook_cons
  | (z, u) :: r => by
    rw [putL_cons, sLook_cons]
    by_cases h : x = z
    · rw [if_pos h, sLook_cons]
      by_cases q : y = x
      · rw [if_pos q, if_pos q]
      · rw [if_neg q, if_neg q, if_neg (h ▸ q)]
    · rw [if_neg h, sLook_cons, putL_look x y V r]
      by_cases q : y = z
      · rw [if_pos q, if_pos q, if_neg fun e => h (e.symm.trans q)]
      · rw [if_neg q, if_neg q]
theorem putL_cases {P : Prop} {x y : Str} {u U : V} {loc : Loc} (e : sLook y (putL x u loc) = some U) (h1 : y = x → u = U → P) (h2 : y ≠ x → sLook y loc = some U → P) : P := by
  rw [putL_look] at e
  by_cases q : y = x
  · rw [if_pos q] at e; exact h1 q (some_eq e)
  · rw [if_neg q] at e; exact h2 q e

section
variable {Z : Stat} {K₀ Kp Kq : Addr → Option Obj} {c : Cn} {hs : Hs} {s : Shared} {A : Around} {E : Value → Shared → Prop} {tk : Nat} {ia : List Addr} {g : Option (Nat × D)} {Fg : Frag} {env : Env} {sc : Names} {loc : Loc} {d : Nat} {rec : RecE}

theorem storable_iff {k : Option NameKind} (h : storable k = true) : k = some .local ∨ k = some .cell := by
  cases k with
  | none => exact ff h
  | some k => cases k <;> first | exact .inl rfl | exact .inr rfl | exact ff h
theorem cell_kind (W : FrameW Z K₀ Kp c env loc) {y : Str} (hy : env.kindOf y = some .cell ∨ env.kindOf y = some .free) : env.kindOf y = some .cell := hy.resolve_right (W.nofree y)
theorem kinds {x y : Str} (h : env.kindOf x = some .local) (h' : env.kindOf y = some .cell) : y ≠ x := fun q => by rw [q, h] at h'; exact nomatch some_eq h'
theorem not_mem1 {a b : Addr} (h : b ≠ a) : b ∉ [a] := fun q => h (List.mem_singleton.mp q)
theorem ups_upd {a : Addr} {o : Obj} : Ups [a] Kp (updK Kp a o) := ⟨fun b hb => upd_ne (not_one hb), some_one (if_pos rfl)⟩
/-- a name of the frame's own is bound -/
theorem storeN_ok (O : EnvOK env sc) (F : FrameIn Z Kp c env loc) (C : Core Z Kp c hs s) {x : Str} {V : V} {v : Value} (hk : env.kindOf x = some .local) (R : RepV Z c V v) {Q : Unit → Shared → Prop}
    (k : ∀ Kq s', FrameIn Z Kq c env (putL x V loc) → Core Z Kq c hs s' → Ups [env.locals] Kp Kq → Q () s') : wpAny (model Z.P Z.w) A (storeName env x v) Q E s := by
  have hp : (env.scope.kind == .class || (env.scope.kind == .module && env.locals != env.globals)) = false := by rw [O.kind]; rfl
  obtain ⟨o, es, ep, h1, h2, h3, h4⟩ := F.ns
  refine wpAny_storeName_local hk ⟨o, es, ep, C.kp _ _ h1, h2, h3, fun n => rfl⟩ (fun h' hn hsb => ?_) hp
  obtain ⟨o', es', ep', e1, e2, e3, e4⟩ := hn
  refine k _ _ ⟨⟨o', es', ep', if_pos rfl, e2, e3, fun y U e hy => ?_⟩, fun y U e hy => ?_⟩ (C.setK (tk := s.toks + 1) h1 (fun b o hb e => hsb.extBut b o hb e) e1) ups_upd
  · rw [show _ = if y = x then some v else _ from e4 y]
    refine putL_cases e (fun q r => ?_) fun q e => ?_
    · rw [if_pos q]; exact ⟨v, rfl, r ▸ R⟩
    · rw [if_neg q]; exact h4 y U e hy
  · refine putL_cases e (fun q _ => ?_) fun q e => ?_
    · rw [q, hk] at hy; exact hy.elim (fun q => nomatch some_eq q) fun q => nomatch some_eq q
    obtain ⟨a, u, ob, f1, f2, f3, f4⟩ := F.cell y U e hy
    exact ⟨a, u, ob, f1, (upd_ne fun (r : a = env.locals) => by rw [r, h1] at f2; rw [← some_eq f2, h2] at f3; exact nomatch f3).trans f2, f3, f4⟩
theorem store_local (O : EnvOK env sc) (W : FrameW Z K₀ Kp c env loc) (C : Core Z Kp c hs s) {x : Str} {V : V} {v : Value} (hk : env.kindOf x = some .local) (R : RepV Z c V v) {Q : Unit → Shared → Prop}
    (k : ∀ Kq s', FrameW Z K₀ Kq c env (putL x V loc) → Core Z Kq c hs s' → Q () s') : wpAny (model Z.P Z.w) A (storeName env x v) Q E s :=
  storeN_ok O W.in_ C hk R fun Kq s' F' C' U => k Kq s' ⟨F', fun b o e => (U.same b (not_mem1 (ne_of W.freeL e))).trans (W.le b o e), W.freeL, fun y hy =>
    let ⟨a', o', v', g1, g2, g3, g4, g5⟩ := W.cells y hy; ⟨a', o', v', g1, (U.same a' (not_mem1 g5)).trans g2, g3, g4, g5⟩, W.apart, W.nofree⟩ C'
theorem store_cell (O : EnvOK env sc) (W : FrameW Z K₀ Kp c env loc) (C : Core Z Kp c hs s) {x : Str} {V : V} {v : Value} (hk : env.kindOf x = some .cell) (R : RepV Z c V v) {Q : Unit → Shared → Prop}
    (k : ∀ Kq s', FrameW Z K₀ Kq c env (putL x V loc) → Core Z Kq c hs s' → Q () s') : wpAny (model Z.P Z.w) A (storeName env x v) Q E s := by
  obtain ⟨o, es, ep, h1, h2, h3, h4⟩ := W.in_.ns
  obtain ⟨a, oc, vc, g1, g2, g3, g4, g5⟩ := W.cells x hk
  refine wpAny_storeName_cell O.kind hk g1 ⟨oc, C.kp _ _ g2, g3⟩ fun h' hv hsb => ?_
  obtain ⟨o', e1, e2⟩ := hv
  refine k _ _ ⟨⟨⟨o, es, ep, (upd_ne (Ne.symm g5)).trans h1, h2, h3, fun y U e hy => putL_cases e (fun q _ => absurd q.symm (kinds hy hk)) fun _ e => h4 y U e hy⟩, fun y U e hy => ?_⟩, fun b ob e => (upd_ne (ne_of g4 e)).trans (W.le b ob e), W.freeL, fun y hy => ?_, W.apart, W.nofree⟩ (C.setK (tk := s.toks) g2 (fun b o hb e => hsb.extBut b o hb e) e1)
  · refine putL_cases e (fun q r => q ▸ r ▸ ⟨a, v, o', g1, if_pos rfl, e2, R⟩) fun q e => ?_
    obtain ⟨a2, u, ob, f1, f2, f3, f4⟩ := W.in_.cell y U e hy
    exact ⟨a2, u, ob, f1, (upd_ne fun (r : a2 = a) => q (W.apart y x a2 (cell_kind W hy) hk f1 (by rw [r]; exact g1))).trans f2, f3, f4⟩
  · obtain ⟨a2, o2, v2, f1, f2, f3, f4, f5⟩ := W.cells y hy
    by_cases q : a2 = a
    · exact ⟨a2, o', some v, f1, if_pos q, e2, f4, f5⟩
    · exact ⟨a2, o2, v2, f1, (upd_ne q).trans f2, f3, f4, f5⟩
theorem store_ok (O : EnvOK env sc) (W : FrameW Z K₀ Kp c env loc) (C : Core Z Kp c hs s) {x : Str} {V : V} {v : Value} (hk : storable (sLook x sc) = true) (R : RepV Z c V v) {Q : Unit → Shared → Prop}
    (k : ∀ Kq s', FrameW Z K₀ Kq c env (putL x V loc) → Core Z Kq c hs s' → Q () s') : wpAny (model Z.P Z.w) A (storeName env x v) Q E s := by
  have hko : sLook x sc = env.kindOf x := by
    rw [sLook_eq, ← O.names]; rfl
  rw [hko] at hk
  exact (storable_iff hk).elim (fun hk => store_local O W C hk R k) fun hk => store_cell O W C hk R k
theorem bind_ok (O : EnvOK env sc) (W : FrameW Z K₀ Kp c env loc) (C : Core Z Kp c hs s) {x : Str} {V : V} {v : Value} (hk : storable (sLook x sc) = true) (R : RepV Z c V v) {Q : Unit → Shared → Prop}
    (k : ∀ Kq s', FrameW Z K₀ Kq c env (putL x V loc) → Core Z Kq c hs s' → Q () s') : wpAny (model Z.P Z.w) A (bindName env x v) Q E s := by
  unfold bindName
  exact wpAny_bind (wpAny_holding (wpAny_point (wpAny_bind (wpAny_mono (store_ok (Q := Q) O W C hk R k) (fun _ _ h => wpAny_point h) fun _ _ h => h))))

/-- behind an expression the frame still stands -/
theorem FrameW.ev (S : SE Z d rec) (O : EnvOK env sc) (a : AOK d A) (W : FrameW Z K₀ Kp c env loc) (C : Core Z Kp c hs s) {m : Bool} {e : Expr} {K : KE} {Q : Value → Shared → Prop} (h : rec sc m e loc hs K)
    (k : ∀ c' V v hs' s', c.le c' → Core Z Kp c' hs' s' → FrameW Z K₀ Kp c' env loc → RepV Z c' V v → K V hs' → Q v s') : wpAny (model Z.P Z.w) A (eval e env) Q E s :=
  S.ev O a W.in_ C h fun c' V v hs' s' l C' _ R kk => k c' V v hs' s' l C' (W.mono l) R kk
theorem sliceP_eq {i : Expr} {q : Option Expr × Option Expr × Option Expr} (h : sliceP i = some q) (hn : q.2.2.isNone = true) : ∃ p, i = .Slice q.1 q.2.1 none p := by
  cases i with
  | Slice lo hi st p =>
    cases some_eq h
    cases st with
    | none => exact ⟨p, rfl⟩
    | some _ => exact ff hn
  | _ => exact none_some h
theorem asg1_ok (B : BaseOK Z Fg) (S : SE Z d rec) (O : EnvOK env sc) (a : AOK d A) (W : FrameW Z K₀ Kp c env loc) (C : Core Z Kp c hs s) {t : Expr} {V : V} {v : Value} {K : Loc → Hs → Prop} {Q : Unit → Shared → Prop}
    (R : RepV Z c V v) (h : asg1 sc (rec sc false) t V loc hs K)
    (k : ∀ c' Kq loc' hs' s', c.le c' → FrameW Z K₀ Kq c' env loc' → Core Z Kq c' hs' s' → K loc' hs' → Q () s') : wpAny (model Z.P Z.w) A (assign t env v) Q E s := by
  cases t with
  | Name x p =>
    obtain ⟨hk, h⟩ := need_iff h
    rw [arm_assign_Name]
    exact wpAny_bind (wpAny_standAt (bind_ok O W C hk R fun Kq s' W' C' => k c Kq _ _ s' (.refl c) W' C' h))
  | Attribute o x p =>
    rw [arm_assign_Attribute]
    refine wpAny_bind (wpAny_holding (W.ev S O a C h fun c₁ V₁ v₁ hs₁ s₁ l₁ C₁ W₁ R₁ h₁ => wpAny_bind (wpAny_standAt (wpAny_bind (wpAny_holding ?_)))))
    exact setAttrV_ok B.cls (fun c₂ hs₂ s₂ l₂ C₂ hk => PyProof.Rows.wpAny_release' (k c₂ Kp loc hs₂ s₂ (l₁.trans l₂) (W₁.mono l₂) C₂ hk)) C₁ R₁ (R.mono l₁) h₁
  | Subscript o i p =>
    rw [arm_assign_Subscript]
    rcases orP_iff h with ⟨q, eq, h⟩ | h
    · obtain ⟨hst, h⟩ := need_iff h
      obtain ⟨sp, rfl⟩ := sliceP_eq eq hst
      refine wpAny_bind (wpAny_holding (W.ev S O a C h fun c₁ V₁ v₁ hs₁ s₁ l₁ C₁ W₁ R₁ h₁ => wpAny_bind (wpAny_holding ?_)))
      rw [arm_eval_Slice]
      refine wpAny_bind (part_ok S O a W₁.in_ C₁ h₁ fun c₂ V₂ v₂ hs₂ s₂ l₂ C₂ F₂ R₂ h₂ => wpAny_bind (wpAny_holding (part_ok S O a F₂ C₂ h₂ fun c₃ V₃ v₃ hs₃ s₃ l₃ C₃ F₃ R₃ h₃ => ?_)))
      refine wpAny_bind (wpAny_holding (wpAny_pure (wpAny_newObj_type ?_ (by size_fits))))
      have hsl := Heap.IsSliceOf.new s₃.heap v₂ v₃ .none
      have C₄ := C₃.keepTo (tk := s₃.toks) (h' := s₃.heap.push { cls := .type "slice", data := .fields #[v₂, v₃, .none] }) fun b o e => Heap.get?_push_of_some _ e
      refine wpAny_bind (wpAny_standAt (wpAny_bind (wpAny_holding ?_)))
      exact setSliceV_ok (fun c₄ hs₄ s₄ l₄ C₅ hk => PyProof.Rows.wpAny_release' (k c₄ Kp loc hs₄ s₄ (((l₁.trans l₂).trans l₃).trans l₄) (((W₁.mono l₂).mono l₃).mono l₄) C₅ hk)) C₄ ((R₁.mono l₂).mono l₃) (R₂.mono l₃) R₃ (((R.mono l₁).mono l₂).mono l₃) hsl h₃
    · refine wpAny_bind (wpAny_holding (W.ev S O a C h fun c₁ V₁ v₁ hs₁ s₁ l₁ C₁ W₁ R₁ h₁ => wpAny_bind (wpAny_holding (W₁.ev S O a C₁ h₁ fun c₂ V₂ v₂ hs₂ s₂ l₂ C₂ W₂ R₂ h₂ => wpAny_bind (wpAny_standAt (wpAny_bind (wpAny_holding ?_)))))))
      exact setItemV_ok (fun c₃ hs₃ s₃ l₃ C₃ hk => PyProof.Rows.wpAny_release' (k c₃ Kp loc hs₃ s₃ ((l₁.trans l₂).trans l₃) (W₂.mono l₃) C₃ hk)) C₂ (R₁.mono l₂) R₂ ((R.mono l₁).mono l₂) h₂
  | _ => exact False.elim h
theorem assign_one {t : Expr} {ts : List Expr} (h : noStar (t :: ts) = true) : assignEach (t :: ts) env = (false, assign t env) :: assignEach ts env := by
  cases t <;> first | rfl | exact ff (and_t h).1
theorem assignEach_is : ∀ {ts : List Expr}, noStar ts = true → (assignEach ts env).length = ts.length ∧ (assignEach ts env).findIdx? (·.1) = none ∧ (assignEach ts env).map (·.2) = ts.map fun t => assign t env
  | [], _ => ⟨rfl, rfl, rfl⟩
  | t :: ts, h => by
    obtain ⟨i1, i2, i3⟩ := assignEach_is (and_t h).2
    rw [assign_one h]
    exact ⟨congrArg Nat.succ i1, by rw [List.findIdx?_cons, i2]; rfl, congrArg (_ :: ·) i3⟩
theorem asgs_ok (B : BaseOK Z Fg) (S : SE Z d rec) (O : EnvOK env sc) (a : AOK d A) {Q : Unit → Shared → Prop} {K : Loc → Hs → Prop} : ∀ {ts : List Expr} {ds : List D} {vs : List Value} {c : Cn} {Kp : Addr → Option Obj} {loc : Loc} {hs : Hs} {s : Shared}, FrameW Z K₀ Kp c env loc → Core Z Kp c hs s →
    RepDs Z c ds vs → asgs sc (rec sc false) ts ds loc hs K →
    (∀ c' Kq loc' hs' s', c.le c' → FrameW Z K₀ Kq c' env loc' → Core Z Kq c' hs' s' → K loc' hs' → Q () s') →
    wpAny (model Z.P Z.w) A (assignInOrder (ts.map fun t => assign t env) vs) Q E s
  | [], [], vs, c, Kp, loc, hs, s, W, C, R, h, k => by
    exact (show vs = [] from R) ▸ wpAny_pure (k c Kp loc hs s (.refl c) W C h)
  | t :: ts, x :: ds, vs, c, Kp, loc, hs, s, W, C, R, h, k => by
    obtain ⟨v, r, rfl, R1, R2⟩ := R
    refine wpAny_assignInOrder_more (asg1_ok (V := .d x) B S O a W C R1 h fun c₁ K₁ loc₁ hs₁ s₁ l₁ W₁ C₁ h₁ => ?_)
    exact asgs_ok B S O a W₁ C₁ (RepDs.mono l₁ _ _ R2) h₁ fun c₂ K₂ loc₂ hs₂ s₂ l₂ W₂ C₂ h₂ => k c₂ K₂ loc₂ hs₂ s₂ (l₁.trans l₂) W₂ C₂ h₂
  | [], _ :: _, _, _, _, _, _, _, _, _, _, h, _ => False.elim h
  | _ :: _, [], _, _, _, _, _, _, _, _, _, h, _ => False.elim h
theorem drop_get {items : Array Value} {i : Nat} (h : i < items.size) : items[i]? = some items[i] ∧ items.toList.drop i = items[i] :: items.toList.drop (i + 1) :=
  ⟨Array.getElem?_eq_getElem h, List.drop_eq_getElem_cons (l := items.toList) h⟩
theorem draw_list {it l : Addr} {items : Array Value} (hne : l ≠ it) (n : Nat) : ∀ (i : Nat) (s : Shared) (Q : List Value → Shared → Prop), s.heap.IsListIter it l i → s.heap.IsList l items → i + n ≤ items.size →
    (∀ h', h'.IsListIter it l (i + n) → Heap.SameBut it s.heap h' → Q ((items.toList.drop i).take n) { s with heap := h' }) → wpAny (model Z.P Z.w) A (draw (.ref it) n) Q E s := by
  induction n with
  | zero => exact fun i s Q hit _ _ hQ => wpAny_pure (hQ s.heap hit (Heap.SameBut.refl ..))
  | succ n ih =>
    intro i s Q hit ht hle hQ
    have hlt : i < items.size := by lia
    obtain ⟨g1, g2⟩ := drop_get hlt
    show wpAny _ _ (pyNext (.ref it) >>= _) Q E s
    refine wpAny_bind (wpAny_pyNext_list_item hit ht g1 fun h₁ hit₁ hs₁ => ?_)
    have ht₁ : h₁.IsList l items := let ⟨o, e, r⟩ := ht; ⟨o, (hs₁.2 l hne).trans e, r⟩
    refine wpAny_bind (wpAny_holding (ih (i + 1) _ _ hit₁ ht₁ (by lia) fun h₂ hit₂ hs₂ => wpAny_pure ?_))
    have := hQ h₂ (by rw [show i + (n + 1) = i + 1 + n by lia]; exact hit₂) (hs₁.trans hs₂)
    rwa [g2] at this
theorem unpack_list {l : Addr} {vs : List Value} {n : Nat} {targets : List (Bool × (Value → Sem Unit))} {Q : Unit → Shared → Prop} (hh : A.handled = none) (hl : s.heap.get? l = some (listO vs n))
    (hn : targets.length = vs.length) (hstar : targets.findIdx? (·.1) = none)
    (h : ∀ h', (∀ b o, s.heap.get? b = some o → h'.get? b = some o) → wpAny (model Z.P Z.w) A (assignInOrder (targets.map (·.2)) vs) Q E { s with heap := h' }) :
    wpAny (model Z.P Z.w) A (unpack (.ref l) targets) Q E s := by
  have ht : s.heap.IsList l vs.toArray := ⟨_, hl, rfl, n, rfl⟩
  have hlt : l ≠ s.heap.objs.size := Nat.ne_of_lt (Heap.lt_size hl)
  unfold unpack
  rw [hn, hstar]
  refine wpAny_bind (wpAny_holding ?_)
  unfold unpackItems
  refine wpAny_bind ?_
  unfold notIterableAtAll
  refine wpAny_bind (wpAny_specialOf ht.typeIs slot_list_iter.lookup (wpAny_pure (wpAny_bind (wpAny_holding (wpAny_pyIter_list ht ?_)))))
  have ht0 : (s.heap.push { cls := .type "list_iterator", data := .fields #[.ref l, .int 0 0] }).IsList l vs.toArray := ⟨_, Heap.get?_push_of_some _ hl, rfl, n, rfl⟩
  refine wpAny_bind (wpAny_holding (draw_list hlt vs.length 0 _ _ ⟨_, Heap.get?_push_size _ rfl, rfl, rfl⟩ ht0 (Nat.le_of_eq (Nat.zero_add _)) fun h₁ hit₁ hs₁ => ?_))
  rw [show List.take vs.length (List.drop 0 vs.toArray.toList) = vs from List.take_length]
  refine wpN (Nat.lt_irrefl _) ?_
  have ht₁ : h₁.IsList l vs.toArray := let ⟨o, e, r⟩ := ht0; ⟨o, (hs₁.2 l hlt).trans e, r⟩
  refine wpAny_bind (wpAny_holding (wpAny_pyNext_list_end hh hit₁ ht₁ (Array.getElem?_eq_none (Nat.le_of_eq (Nat.zero_add _).symm)) fun h₂ he₂ => ?_))
  have old : ∀ b o, s.heap.get? b = some o → b ≠ s.heap.objs.size := fun b o e => Nat.ne_of_lt (Heap.lt_size e)
  exact wpAny_pure (h h₂ fun b o e => he₂ b o (old b o e) (hs₁.extBut b o (old b o e) (Heap.get?_push_of_some _ e)))
theorem tupP_eq {e : Expr} {ts : List Expr} (h : tupP e = some ts) : ∃ x p, e = .Tuple ts x p := by
  cases e with
  | Tuple ts x p => exact ⟨x, p, some_eq h ▸ rfl⟩
  | _ => exact none_some h
theorem asg_ok (B : BaseOK Z Fg) (S : SE Z d rec) (O : EnvOK env sc) (a : AOK d A) (W : FrameW Z K₀ Kp c env loc) (C : Core Z Kp c hs s) {t : Expr} {V : V} {v : Value} {K : Loc → Hs → Prop} {Q : Unit → Shared → Prop}
    (R : RepV Z c V v) (h : asg sc (rec sc false) t V loc hs K)
    (k : ∀ c' Kq loc' hs' s', c.le c' → FrameW Z K₀ Kq c' env loc' → Core Z Kq c' hs' s' → K loc' hs' → Q () s') : wpAny (model Z.P Z.w) A (assign t env v) Q E s := by
  rcases orP_iff h with ⟨ts, et, h'⟩ | h
  · obtain ⟨x, p, rfl⟩ := tupP_eq et
    obtain ⟨d, ed, h'⟩ := optP_iff h'
    rw [V.d_eq ed] at R
    rcases orP_iff h' with ⟨ds, e, h'⟩ | h'
    · obtain ⟨hn, h'⟩ := need_iff h'
      obtain ⟨hn, hn2⟩ := and_t hn
      obtain ⟨e1, e2, e3⟩ := assignEach_is (env := env) hn2
      rw [D.tup_eq e] at R
      obtain ⟨ad, vs, n, rfl, g, R⟩ := R
      refine wpAny_assign_Tuple (items := vs.toArray) a.handled ⟨_, C.sub _ _ g, rfl, n, rfl⟩ (e1.trans ((Nat.eq_of_beq_eq_true hn).trans R.length)) e2 fun h₂ he => ?_
      rw [e3]
      exact asgs_ok B S O a W (C.keepTo fun b o e => he b o (Nat.ne_of_lt (Heap.lt_size e)) e) R h' k
    · obtain ⟨is, e, h'⟩ := optP_iff h'
      obtain ⟨hn, h'⟩ := need_iff h'
      obtain ⟨hn, _⟩ := and_t hn
      obtain ⟨hn, hn2⟩ := and_t hn
      obtain ⟨e1, e2, e3⟩ := assignEach_is (env := env) hn2
      rw [D.ints_eq e] at R
      obtain ⟨ad, vs, n, rfl, g, R⟩ := R
      rw [arm_assign_Tuple]
      refine wpAny_bind (wpAny_standAt (unpack_list a.handled (C.sub _ _ g) (e1.trans ((Nat.eq_of_beq_eq_true hn).trans (IntsAre.length' R))) e2 fun h₂ he => ?_))
      rw [e3]
      exact asgs_ok B S O a W (C.keepTo he) (ints_iff.mp R) h' k
  · exact asg1_ok B S O a W C R h k
end
end Mine
set_option genSizeOf false
set_option genInjectivity false
set_option maxRecDepth 100000
namespace Mine
open PySem PySem.W PySem.Calls PyProof.Rows

/-! ### the block of a comprehension -/
noncomputable def clsF (env : Env) : Names → List (Str × Addr) → List (Str × Addr)
  | [], cs => cs
  | p :: r, cs => clsF env r (match isFr p.2 with
    | true => (p.1, (env.cells.lookup p.1).getD 0) :: cs
    | false => cs)
theorem isCF_iff {o : Option NameKind} (h : isCF o = true) : o = some .cell ∨ o = some .free := by
  cases o with
  | none => exact ff h
  | some k => cases k <;> first | exact .inl rfl | exact .inr rfl | exact ff h
theorem kind_look {env : Env} {sc : Names} (hn : env.scope.names = sc) (x : Str) : env.kindOf x = sLook x sc := by
  rw [sLook_eq, ← hn]; rfl
theorem closure_is {env : Env} {sc : Names} (hn : env.scope.names = sc) (hc : ∀ x, (env.kindOf x = some .cell ∨ env.kindOf x = some .free) → (env.cells.lookup x).isSome = true) (scope : Scope) (hf : freeOK sc scope.names = true) :
    closureFor scope env = pure (clsF env scope.names []) := by
  have key : ∀ (ns : Names) (cs : List (Str × Addr)), freeOK sc ns = true → (forIn ns cs fun (x : Str × NameKind) (r : List (Str × Addr)) => match x with
      | (name, kind) => if (kind == NameKind.free) = true then do let a ← cellOf env name; pure (ForInStep.yield ((name, a) :: r)) else pure (ForInStep.yield r) : Sem (List (Str × Addr))) = pure (clsF env ns cs) := by
    intro ns
    induction ns with
    | nil => exact fun cs _ => rfl
    | cons p r ih =>
      intro cs h
      obtain ⟨x, k⟩ := p
      obtain ⟨h1, h2⟩ := and_t h
      rw [List.forIn_cons]
      cases k with
      | free =>
        obtain ⟨a, ha⟩ := Option.isSome_iff_exists.mp (hc x (by rw [kind_look hn]; exact isCF_iff h1))
        have hcell : cellOf env x = pure a := by unfold cellOf; rw [ha]
        show (cellOf env x >>= _) >>= _ = pure (clsF env r ((x, (env.cells.lookup x).getD 0) :: cs))
        rw [hcell, ha]
        exact ih _ h2
      | _ => exact ih cs h2
  exact (congrArg (fun m => m >>= fun r => pure r) (key scope.names [] hf)).trans rfl
theorem lookS_cons {β : Type} {x y : Str} {u : β} {r : List (Str × β)} : ((y, u) :: r).lookup x = if x = y then some u else r.lookup x := by
  rw [← sLook_eq, ← sLook_eq]; exact sLook_cons
theorem clsF_look {env : Env} {x : Str} {a : Addr} : ∀ {ns : Names} {cs : List (Str × Addr)}, (clsF env ns cs).lookup x = some a → (cs.lookup x = some a) ∨ a = (env.cells.lookup x).getD 0
  | [], cs, h => .inl h
  | (y, k) :: r, cs, h => by
    rcases clsF_look (ns := r) h with h | h
    · cases q : isFr k with
      | false => rw [q] at h; exact .inl h
      | true =>
        rw [q] at h
        have h := (lookS_cons (y := y) (r := cs)).symm.trans h
        by_cases e : x = y
        · rw [if_pos e] at h; exact .inr (e ▸ (some_eq h).symm)
        · rw [if_neg e] at h; exact .inl h
    · exact .inr h
theorem clsF_some {env : Env} {x : Str} : ∀ {ns : Names} {cs : List (Str × Addr)}, ((cs.lookup x).isSome = true ∨ (x, NameKind.free) ∈ ns) → ((clsF env ns cs).lookup x).isSome = true
  | [], cs, h => h.elim id fun h => nomatch h
  | (y, k) :: r, cs, h => by
    refine clsF_some (ns := r) ?_
    rcases h with h | h
    · left
      cases q : isFr k with
      | false => exact h
      | true =>
        show (((y, (env.cells.lookup y).getD 0) :: cs).lookup x).isSome = true
        rw [lookS_cons]
        by_cases e : x = y
        · rw [if_pos e]; rfl
        · rw [if_neg e]; exact h
    · rcases List.mem_cons.mp h with q | h
      · cases q
        left
        show (((x, (env.cells.lookup x).getD 0) :: cs).lookup x).isSome = true
        rw [lookS_cons, if_pos rfl]; rfl
      · exact .inr h
theorem look_mem {α : Type} {x : Str} {v : α} : ∀ {l : List (Str × α)}, sLook x l = some v → (x, v) ∈ l
  | [], h => none_some h
  | (y, u) :: r, h => by
    rw [sLook_cons] at h
    by_cases q : x = y
    · rw [if_pos q] at h; rw [q, some_eq h]; exact .head _
    · rw [if_neg q] at h; exact .tail _ (look_mem h)
theorem compSc_look {sc : Names} {x : Str} : ∀ {own : Names}, sLook x (compSc sc own) = (sLook x own).map (compKind sc x)
  | [] => rfl
  | (y, k) :: r => by
    show sLook x ((y, compKind sc y k) :: compSc sc r) = _
    rw [sLook_cons, sLook_cons]
    by_cases q : x = y
    · rw [if_pos q, if_pos q, q]; rfl
    · rw [if_neg q, if_neg q]; exact compSc_look
theorem freeOK_look {sc : Names} {x : Str} : ∀ {own : Names}, freeOK sc own = true → sLook x own = some .free → sLook x sc = some .cell ∨ sLook x sc = some .free
  | [], _, e => none_some e
  | (y, k) :: r, h, e => by
    obtain ⟨h1, h2⟩ := and_t h
    rw [sLook_cons] at e
    by_cases q : x = y
    · rw [if_pos q] at e
      cases some_eq e
      exact isCF_iff (q ▸ h1)
    · rw [if_neg q] at e; exact freeOK_look h2 e
theorem okCK_iff {k : NameKind} (h : okCK k = true) : k = .local ∨ k = .free ∨ k = .globalImplicit := by
  cases k <;> first | exact .inl rfl | exact .inr (.inl rfl) | exact .inr (.inr rfl) | exact ff h
theorem okNames_mem : ∀ {ns : Names}, okCompNames ns = true → ∀ p ∈ ns, p.2 = .local ∨ p.2 = .free ∨ p.2 = .globalImplicit
  | [], _, p, hp => nomatch hp
  | q :: r, h, p, hp => (List.mem_cons.mp hp).elim (fun e => e ▸ okCK_iff (and_t h).1) fun hp => okNames_mem (and_t h).2 p hp
theorem nodupN_mem : ∀ {ns : Names}, nodupN ns = true → ∀ p ∈ ns, sLook p.1 ns = some p.2
  | [], _, p, hp => nomatch hp
  | (y, k) :: r, h, p, hp => by
    obtain ⟨h1, h2⟩ := and_t h
    rw [sLook_cons]
    rcases List.mem_cons.mp hp with q | hp
    · rw [q, if_pos rfl]
    · have ih := nodupN_mem h2 p hp
      rw [if_neg fun (e : p.1 = y) => no2 (Option.isNone_iff_eq_none.mp h1) (e ▸ ih)]
      exact ih
theorem cell_beq (o : Option NameKind) : (o == some NameKind.cell) = isCell o := by
  cases o with
  | none => rfl
  | some k => cases k <;> rfl
theorem relabel_names {scope : Scope} {env : Env} {sc : Names} (O : EnvOK env sc) : (relabel scope env).names = compSc sc scope.names := by
  apply List.map_congr_left
  rintro ⟨x, k⟩ _
  show (if (k == .free && env.scope.kind == .function && env.kindOf x == some .cell) then (x, NameKind.cell) else (x, k)) = (x, compKind sc x k)
  rw [kind_look O.names, cell_beq, O.kind]
  unfold compKind
  cases k with
  | free => cases isCell (sLook x sc) <;> rfl
  | _ => rfl
/-- what is asked of a comprehension's block -/
structure OkC (sc : Names) (scope : Scope) : Prop where
  free : freeOK sc scope.names = true
  kind : scope.kind = .function
  names : okCompNames scope.names = true
  nodup : nodupN scope.names = true
  dbg : sLook "__debug__" scope.names = none
theorem isFn_eq {k : ScopeKind} (h : isFn? k = true) : k = .function := by cases k <;> first | rfl | exact ff h
theorem okComp_iff {sc : Names} {scope : Scope} (h : okComp sc scope = true) : OkC sc scope := by
  obtain ⟨h, _⟩ := and_t h
  obtain ⟨h, _⟩ := and_t h
  obtain ⟨h, h5⟩ := and_t h
  obtain ⟨h, h4⟩ := and_t h
  obtain ⟨h, h3⟩ := and_t h
  obtain ⟨h1, h2⟩ := and_t h
  exact ⟨h1, isFn_eq h2, h3, h4, Option.isNone_iff_eq_none.mp h5⟩
theorem comp_free {sc : Names} {scope : Scope} (h : OkC sc scope) {x : Str} (hx : (sLook x scope.names).map (compKind sc x) = some .cell ∨ (sLook x scope.names).map (compKind sc x) = some .free) : sLook x scope.names = some .free := by
  cases q : sLook x scope.names with
  | none => rw [q] at hx; exact hx.elim (fun e => none_some e) fun e => none_some e
  | some k =>
    rw [q] at hx
    rcases okNames_mem h.names _ (look_mem q) with e | e | e
    · rw [show k = _ from e] at hx; exact hx.elim (fun e => nomatch some_eq e) fun e => nomatch some_eq e
    · rw [show k = _ from e]
    · rw [show k = _ from e] at hx; exact hx.elim (fun e => nomatch some_eq e) fun e => nomatch some_eq e
theorem compEnv_kind {scope : Scope} {env : Env} {sc : Names} {C : Addr} (O : EnvOK env sc) (x : Str) : (compEnvC scope (clsF env scope.names []) C env).kindOf x = (sLook x scope.names).map (compKind sc x) := by
  rw [← compSc_look, sLook_eq, ← relabel_names O]; rfl
theorem compEnv_ok {scope : Scope} {env : Env} {sc : Names} {C : Addr} (O : EnvOK env sc) (h : OkC sc scope) : EnvOK (compEnvC scope (clsF env scope.names []) C env) (compSc sc scope.names) :=
  ⟨relabel_names O, h.kind, O.glob, O.blt, by rw [compSc_look, h.dbg]; rfl, fun x hx => clsF_some (.inr (look_mem (comp_free h (by rw [compEnv_kind O] at hx; exact hx))))⟩
theorem drop_look {own : Names} {x : Str} {V : V} : ∀ {loc : Loc}, sLook x (dropNames own loc) = some V → sLook x loc = some V ∧ isLoc0 (sLook x own) = false
  | [], h => none_some h
  | (y, u) :: r, h => by
    have e : dropNames own ((y, u) :: r) = match isLoc0 (sLook y own) with
      | true => dropNames own r
      | false => (y, u) :: dropNames own r := rfl
    rw [e] at h
    rw [sLook_cons]
    cases q : isLoc0 (sLook y own) with
    | true =>
      rw [q] at h
      obtain ⟨h1, h2⟩ := drop_look (loc := r) h
      rw [if_neg fun (e : x = y) => by rw [e, q] at h2; exact nomatch h2]
      exact ⟨h1, h2⟩
    | false =>
      rw [q] at h
      have h := (sLook_cons (r := dropNames own r)).symm.trans h
      by_cases e : x = y
      · rw [if_pos e] at h ⊢; exact ⟨h, e ▸ q⟩
      · rw [if_neg e] at h ⊢; exact drop_look h

section
variable {Z : Stat} {K₀ Kp Kq : Addr → Option Obj} {c : Cn} {hs : Hs} {s : Shared} {A : Around} {E : Value → Shared → Prop} {tk : Nat} {ia : List Addr} {g : Option (Nat × D)} {Fg : Frag} {env : Env} {sc : Names} {loc : Loc} {d : Nat} {rec : RecE} {K : KE}

noncomputable def isFrameData : Data → Bool
  | .dict .. => true
  | .cell .. => true
  | _ => false
theorem FrameIn.to (F : FrameIn Z Kp c env loc) (h : ∀ a o, Kp a = some o → isFrameData o.data = true → Kq a = some o) : FrameIn Z Kq c env loc := by
  obtain ⟨⟨o, es, ep, h1, h2, h3, h4⟩, h5⟩ := F
  refine ⟨⟨o, es, ep, h _ _ h1 (by rw [h2]; rfl), h2, h3, h4⟩, fun x V e k => ?_⟩
  obtain ⟨a, v, o, f1, f2, f3, f4⟩ := h5 x V e k
  exact ⟨a, v, o, f1, h _ _ f2 (by rw [f3]; rfl), f3, f4⟩
theorem fld_one {K : Addr → Option Obj} {a : Addr} {o : Obj} (e : K a = some o) (f : isFrameData o.data = false) : ∀ b ∈ [a], ∀ o', K b = some o' → isFrameData o'.data = false := fun b hb o' e' => by
  rw [List.mem_singleton.mp hb, e] at e'
  exact some_eq e' ▸ f
theorem ItSt.fields {b : Bool} {v : Value} {xs : List D} (h : ItSt Z Kp c g ia b v xs) : ∀ a ∈ ia, ∀ o, Kp a = Option.some o → isFrameData o.data = false := by
  cases h with
  | lst a b c d => exact fld_one a (by rw [c]; rfl)
  | rng a => exact fld_one a rfl
  | enm n a b c d e => exact fun x hx => (List.mem_cons.mp hx).elim (fun q => fld_one a rfl x (q ▸ .head _)) (fld_one b (by rw [d]; rfl) x)
theorem FrameIn.ups (F : FrameIn Z Kp c env loc) (U : Ups ia Kp Kq) (h : ∀ a ∈ ia, ∀ o, Kp a = some o → isFrameData o.data = false) : FrameIn Z Kq c env loc := F.to fun a o e f => by
  rw [U.same a fun q => by rw [h a q o e] at f; exact nomatch f]; exact e
theorem locK_eq {k : Option NameKind} (h : locK k = true) : k = some .local := by
  cases k with
  | none => exact ff h
  | some k => cases k <;> first | rfl | exact ff h
/-- a name of the block's own is bound -/
theorem storeL_ok (O : EnvOK env sc) (F : FrameIn Z Kp c env loc) (C : Core Z Kp c hs s) {x : Str} {V : V} {v : Value} (hk : locK (sLook x sc) = true) (R : RepV Z c V v) {Q : Unit → Shared → Prop}
    (k : ∀ Kq s', FrameIn Z Kq c env (putL x V loc) → Core Z Kq c hs s' → Ups [env.locals] Kp Kq → Q () s') : wpAny (model Z.P Z.w) A (bindName env x v) Q E s := by
  refine wpAny_bind (wpAny_holding (wpAny_point (wpAny_bind ?_)))
  exact wpAny_mono (storeN_ok (Q := Q) O F C ((kind_look O.names x).trans (locK_eq hk)) R k) (fun _ _ h => wpAny_point h) fun _ _ h => h
theorem bindNs_inv {t : Expr} {ts : List Expr} {ds : List D} {loc loc' : Loc} (h : bindNs sc (t :: ts) ds loc = some loc') : ∃ x p d r, t = .Name x p ∧ ds = d :: r ∧ locK (sLook x sc) = true ∧ bindNs sc ts r (putL x (.d d) loc) = some loc' := by
  cases ds with
  | nil => exact none_some h
  | cons d r =>
    obtain ⟨q, e, h⟩ := optB_iff h
    obtain ⟨h1, h2⟩ := noB_iff h
    exact ⟨q.1, q.2, d, r, nameQ_eq e, rfl, not_t' h1, h2⟩
theorem bindNs_nil {ds : List D} {loc loc' : Loc} (h : bindNs sc [] ds loc = some loc') : ds = [] ∧ loc = loc' := by
  cases ds with
  | nil => exact ⟨rfl, some_eq h⟩
  | cons _ _ => exact none_some h
theorem bindNs_static {loc' : Loc} : ∀ {ts : List Expr} {ds : List D} {loc : Loc}, bindNs sc ts ds loc = some loc' → noStar ts = true ∧ ts.length = ds.length
  | [], ds, loc, h => by obtain ⟨rfl, _⟩ := bindNs_nil h; exact ⟨rfl, rfl⟩
  | t :: ts, ds, loc, h => by
    obtain ⟨x, p, d, r, rfl, rfl, _, h⟩ := bindNs_inv h
    obtain ⟨a, b⟩ := bindNs_static h
    exact ⟨a, congrArg (· + 1) b⟩
theorem bindNs_run (O : EnvOK env sc) {Q : Unit → Shared → Prop} {loc' : Loc} : ∀ {ts : List Expr} {ds : List D} {vs : List Value} {Kp : Addr → Option Obj} {loc : Loc} {s : Shared}, FrameIn Z Kp c env loc → Core Z Kp c hs s →
    RepDs Z c ds vs → bindNs sc ts ds loc = some loc' → (∀ Kq s', FrameIn Z Kq c env loc' → Core Z Kq c hs s' → Ups [env.locals] Kp Kq → Q () s') → wpAny (model Z.P Z.w) A (assignInOrder (ts.map fun t => assign t env) vs) Q E s
  | [], ds, vs, Kp, loc, s, W, C, R, h, k => by
    obtain ⟨rfl, rfl⟩ := bindNs_nil h
    obtain ⟨o, es, ep, h1, _⟩ := W.ns
    exact (show vs = [] from R) ▸ wpAny_pure (k Kp s W C ⟨fun _ _ => rfl, some_one h1⟩)
  | t :: ts, ds, vs, Kp, loc, s, W, C, R, h, k => by
    obtain ⟨x', p, x, ds, rfl, rfl, hl, h⟩ := bindNs_inv h
    obtain ⟨v, r, rfl, R1, R2⟩ := R
    rw [List.map_cons]
    refine wpAny_assignInOrder_more ?_
    rw [arm_assign_Name]
    exact wpAny_bind (wpAny_standAt (storeL_ok (V := .d x) O W C hl R1 fun Kq s' W' C' U => bindNs_run O W' C' R2 h fun Kr s'' W'' C'' U'' => k Kr s'' W'' C'' (U.trans U'')))
theorem bindT_ok (hh : A.handled = none) (O : EnvOK env sc) (W : FrameIn Z Kp c env loc) (C : Core Z Kp c hs s) {t : Expr} {x : D} {v : Value} {loc' : Loc} (R : RepD Z c x v) (h : bindT sc t x loc = some loc') {Q : Unit → Shared → Prop}
    (k : ∀ Kq s', FrameIn Z Kq c env loc' → Core Z Kq c hs s' → Ups [env.locals] Kp Kq → Q () s') : wpAny (model Z.P Z.w) A (assign t env v) Q E s := by
  cases t with
  | Name y p =>
    obtain ⟨hl, h⟩ := if_some rfl h
    cases some_eq h
    rw [arm_assign_Name]
    exact wpAny_bind (wpAny_standAt (storeL_ok (V := .d x) O W C hl R k))
  | Tuple ts y p =>
    obtain ⟨ds, e, h⟩ := optB_iff h
    rw [D.tup_eq e] at R
    obtain ⟨ad, vs, n, rfl, gg, R⟩ := R
    obtain ⟨b1, b2⟩ := bindNs_static h
    obtain ⟨e1, e2, e3⟩ := assignEach_is (env := env) b1
    refine wpAny_assign_Tuple (items := vs.toArray) hh ⟨_, C.sub _ _ gg, rfl, n, rfl⟩ (e1.trans (b2.trans R.length)) e2 fun h' he => ?_
    rw [e3]
    exact bindNs_run O W (C.keepTo fun b o e => he b o (Nat.ne_of_lt (Heap.lt_size e)) e) R h k
  | _ => exact none_some h
end
end Mine
set_option genSizeOf false
set_option genInjectivity false
set_option maxRecDepth 100000
namespace Mine
open PySem PySem.W PySem.Calls PyProof.Rows

section
variable {Z : Stat} {K₀ Kp Kq : Addr → Option Obj} {c : Cn} {hs : Hs} {s : Shared} {A : Around} {E : Value → Shared → Prop} {tk : Nat} {ia : List Addr} {g : Option (Nat × D)} {Fg : Frag} {env : Env} {sc : Names} {loc : Loc} {d : Nat} {rec : RecE} {K : KE} {R : Result → Shared → Prop}

theorem compLoop_own {elt target iter : Expr} {ifs : List Expr} {scope : Scope} {pos : Pos} {it acc : Value} {env : Env} (I : Nat → Shared → Prop)
    (turn : ∀ n s, I n s → wpAny (model Z.P Z.w) A (pyNext it) (fun r s₁ => match r with
      | none => R (.ok .next) s₁
      | some v => wpAny (model Z.P Z.w) A (letOwnedTupleGo target it v) (fun _ s₂' => wpAny (model Z.P Z.w) A (assign target env v) (fun _ s₂ =>
          wpAny (model Z.P Z.w) A (forIn ifs true fun c r => if r = true then do let ok ← isTrue c env (eval c env); pure (ForInStep.yield ok) else pure (ForInStep.yield r)) (fun ok s₃ =>
            if ok = true then wpAny (model Z.P Z.w) A (eval elt env) (fun x s₄ =>
              wpAny (model Z.P Z.w) A (call (.builtin "list.append") [acc, x]) (fun _ s₅ => ∃ m, m < n ∧ I m s₅) (notedBy (model Z.P Z.w) A env fun e s' => R (.error e) s') s₄) (notedBy (model Z.P Z.w) A env fun e s' => R (.error e) s') s₃
            else ∃ m, m < n ∧ I m s₃) (notedBy (model Z.P Z.w) A env fun e s' => R (.error e) s') s₂) (notedBy (model Z.P Z.w) A env fun e s' => R (.error e) s') s₂') (notedBy (model Z.P Z.w) A env fun e s' => R (.error e) s') s₁) (notedBy (model Z.P Z.w) A env fun e s' => R (.error e) s') s)
    (n : Nat) (h : I n s) :
    codeAny (model Z.P Z.w) A (.compLoop (.ListComp elt [⟨target, iter, ifs, 0⟩] scope pos) 0 it acc env) R s := by
  refine codeAny_loop rfl I (fun n s hI => ?_) n h
  show wpAny _ A ((compTurn (.ListComp elt [⟨target, iter, ifs, 0⟩] scope pos) 0 it acc env).onRaise (fun x => do noteFrame x env; theTreesLotGoes x)) _ _ s
  refine wpAny_noted ?_
  rw [compTurn_list]
  refine wpAny_bind (wpAny_standAt (wpAny_bind (wpAny_mono (turn n s hI) (fun r s₁ h₁ => ?_) fun _ _ h' => h')))
  cases r with
  | none => exact wpAny_pure h₁
  | some v =>
    refine wpAny_bind (wpAny_mono h₁ (fun _ s₂' h₂' => wpAny_bind (wpAny_mono h₂' (fun _ s₂ h₂ => wpAny_bind (wpAny_mono h₂ (fun ok s₃ h₃ => ?_) fun _ _ h' => h')) fun _ _ h' => h')) fun _ _ h' => h')
    cases ok with
    | false => exact wpAny_pure ⟨rfl, h₃⟩
    | true =>
      exact wpAny_bind (wpAny_bind (wpAny_mono h₃ (fun x s₄ h₄ => wpAny_bind (wpAny_mono h₄ (fun _ s₅ h₅ => wpAny_pure (wpAny_pure ⟨rfl, h₅⟩)) fun _ _ h' => h')) fun _ _ h' => h'))

theorem tests_no {env : Env} {Q : Bool → Shared → Prop} (h : Q false s) : ∀ ifs : List Expr,
    wpAny (model Z.P Z.w) A (forIn ifs false fun c r => if r = true then do let ok ← isTrue c env (eval c env); pure (ForInStep.yield ok) else pure (ForInStep.yield r)) Q E s
  | [] => wpAny_pure h
  | e :: r => by
    rw [List.forIn_cons]
    exact wpAny_bind (wpAny_pure (tests_no h r))
theorem tests_ok (T : ST Z d rec) (O : EnvOK env sc) (a : AOK d A) {Q : Bool → Shared → Prop} {KB : Bool → Hs → Prop} : ∀ {ifs : List Expr} {hs : Hs} {c : Cn} {s : Shared}, FrameIn Z Kp c env loc → Core Z Kp c hs s →
    ifsE (rec sc false · loc) ifs hs KB → PostB Z Kp c KB Q →
    wpAny (model Z.P Z.w) A (forIn ifs true fun c r => if r = true then do let ok ← isTrue c env (eval c env); pure (ForInStep.yield ok) else pure (ForInStep.yield r)) Q E s
  | [], hs, c, s, F, C, h, P => wpAny_pure (P c true hs s (.refl c) C h)
  | e :: r, hs, c, s, F, C, h, P => by
    rw [List.forIn_cons]
    refine wpAny_bind ?_
    refine wpT rfl ?_
    refine wpAny_bind (T env sc e loc hs _ (fun b hs => br b (ifsE (rec sc false · loc) r hs KB) (KB false hs)) Kp c s A _ E O a F C h (fun v hs hv => hv) fun c₁ b hs₁ s₁ l₁ C₁ hb => ?_)
    refine wpAny_pure ?_
    cases b with
    | true => exact tests_ok T O a (F.mono l₁) C₁ hb fun c₂ b hs₂ s₂ l₂ C₂ k => P c₂ b hs₂ s₂ (l₁.trans l₂) C₂ k
    | false => exact tests_no (P c₁ false hs₁ s₁ l₁ C₁ hb) r

inductive NsO (o : Obj) : Prop
  | mk (es : Array DictEntry) (ep : Nat) (h1 : o.data = .dict es ep) (h2 : StrKeys es) : NsO o
theorem NsO.ns {o : Obj} (h : NsO o) {hp : Heap} {a : Addr} (e : hp.get? a = some o) : ∃ m, hp.Ns a m := let ⟨es, ep, e1, e2⟩ := h; ⟨_, o, es, ep, e, e1, e2, fun _ => rfl⟩
/-- where a comprehension stands between two turns -/
inductive AccAt (Z : Stat) (c : Cn) (Ke : Addr → Option Obj) (D : Addr) (acc : List Mine.D) : Prop
  | mk (vs : List Value) (n : Nat) (h1 : Ke D = some (listO vs n)) (h2 : RepDs Z c acc.reverse vs) : AccAt Z c Ke D acc
structure CompSt (Z : Stat) (Kp : Addr → Option Obj) (c : Cn) (g : Option (Nat × D)) (ia : List Addr) (b : Bool) (it : Value) (D C : Addr) (cenv : Env) (xs : List Mine.D) (acc : List Mine.D) (loc : Loc) (hs : Hs) (Ke : Addr → Option Obj) (s : Shared) : Prop where
  core : Core Z Ke c hs s
  same : ∀ x, x ≠ D → x ≠ C → x ∉ ia → Ke x = Kp x
  it : ItSt Z Ke c g ia b it xs
  acc : AccAt Z c Ke D acc
  fr : FrameIn Z Ke c cenv loc
structure CompFix (Kp : Addr → Option Obj) (ia : List Addr) (D C : Addr) (cenv : Env) : Prop where
  loc : cenv.locals = C
  dia : D ∉ ia
  cia : C ∉ ia
  dc : D ≠ C
  kd : Kp D = none
  kc : Kp C = none
  ki : ∀ x ∈ ia, Kp x = none
theorem AccAt.mono {c' : Cn} {Ke : Addr → Option Obj} {D : Addr} {acc : List Mine.D} (l : c.le c') (h : AccAt Z c Ke D acc) : AccAt Z c' Ke D acc := let ⟨vs, n, h1, h2⟩ := h; ⟨vs, n, h1, RepDs.mono l _ _ h2⟩
theorem AccAt.to {Ke : Addr → Option Obj} {D : Addr} {acc : List Mine.D} (h : AccAt Z c Ke D acc) (e : Kq D = Ke D) : AccAt Z c Kq D acc := let ⟨vs, n, h1, h2⟩ := h; ⟨vs, n, e.trans h1, h2⟩
inductive CompInv (Z : Stat) (Kp : Addr → Option Obj) (c : Cn) (g : Option (Nat × D)) (ia : List Addr) (b : Bool) (it : Value) (D C : Addr) (env : Env) (H : List Mine.D → Loc → Hs → List Mine.D → Prop) (n : Nat) (s' : Shared) : Prop
  | mk (c' : Cn) (xs acc : List Mine.D) (loc' : Loc) (hs' : Hs) (Ke : Addr → Option Obj) (l : c.le c') (st : CompSt Z Kp c' g ia b it D C env xs acc loc' hs' Ke s') (hlen : acc.length + xs.length ≤ lim) (h : H xs loc' hs' acc) (e : n = xs.length) : CompInv Z Kp c g ia b it D C env H n s'
section
variable {D C : Addr} {b : Bool} {it : Value} {xs acc : List Mine.D} {Ke : Addr → Option Obj}
theorem CompSt.mono {c' : Cn} {hs' : Hs} {s' : Shared} (l : c.le c') (C' : Core Z Ke c' hs' s') (st : CompSt Z Kp c g ia b it D C env xs acc loc hs Ke s) : CompSt Z Kp c' g ia b it D C env xs acc loc hs' Ke s' :=
  ⟨C', st.same, st.it.mono l fun _ _ => rfl, st.acc.mono l, st.fr.mono l⟩
/-- the end of the walk: the iterator goes -/
theorem CompSt.fin (X : CompFix Kp ia D C env) (st : CompSt Z Kp c g ia b it D C env xs acc loc hs Ke s) : AccAt Z c (minus ia Ke) D acc ∧ (∃ o, minus ia Ke C = some o ∧ NsO o) ∧ ∀ x, x ≠ D → x ≠ C → minus ia Ke x = Kp x := by
  obtain ⟨o, es, ep, h1, h2, h3, _⟩ := st.fr.ns
  rw [X.loc] at h1
  refine ⟨st.acc.to (if_neg X.dia), ⟨o, (if_neg X.cia).trans h1, es, ep, h2, h3⟩, fun x h1 h2 => ?_⟩
  by_cases q : x ∈ ia
  · exact (if_pos q).trans (X.ki x q).symm
  · exact (if_neg q).trans (st.same x h1 h2 q)
/-- an item is drawn and bound -/
theorem CompSt.next {c₁ : Cn} {Kr K₃ : Addr → Option Obj} {r : List Mine.D} {loc₂ : Loc} {s₃ : Shared} (X : CompFix Kp ia D C env) (st : CompSt Z Kp c g ia b it D C env xs acc loc hs Ke s) (l : c.le c₁) (U : Ups ia Ke Kr) (I : ItSt Z Kr c₁ g ia b it r)
    (F : FrameIn Z K₃ c₁ env loc₂) (C₃ : Core Z K₃ c₁ hs s₃) (U₃ : Ups [env.locals] Kr K₃) : CompSt Z Kp c₁ g ia b it D C env r acc loc₂ hs K₃ s₃ := by
  have h3 : ∀ x, x ≠ C → K₃ x = Kr x := fun x hx => U₃.same x (not_mem1 (X.loc ▸ hx))
  exact ⟨C₃, fun x h1 h2 q => (h3 x h2).trans ((U.same x q).trans (st.same x h1 h2 q)), I.mono (.refl c₁) fun x hx => h3 x fun e => X.cia (e ▸ hx), (st.acc.mono l).to ((h3 D X.dc).trans (U.same D X.dia)), F⟩
theorem CompSt.push (X : CompFix Kp ia D C env) (st : CompSt Z Kp c g ia b it D C env xs acc loc hs Ke s) {y : Mine.D} {v : Value} (R : RepD Z c y v) (hlen : acc.length < lim) {Q : Value → Shared → Prop}
    (k : ∀ Kq r s', CompSt Z Kp c g ia b it D C env xs (y :: acc) loc hs Kq s' → Q r s') : wpAny (model Z.P Z.w) A (call (.builtin "list.append") [.ref D, v]) Q E s := by
  obtain ⟨vs, n, hD, hR⟩ := st.acc
  have hl := st.core.kp _ _ hD
  have hvs : vs.length < lim := by rw [← hR.length, List.length_reverse]; exact hlen
  refine wpAny_list_append_plain ⟨n, hl⟩ (fun h' hp hsb => ?_) (Nat.le_trans (Nat.le_of_lt hvs) (show lim ≤ sizeLine by decide))
  obtain ⟨n', e'⟩ := hp
  rw [show vs.toArray.push v = (vs ++ [v]).toArray from List.push_toArray ..] at e'
  refine k _ _ _ ⟨st.core.setK (tk := s.toks) hD (fun b o hb e => hsb.extBut b o hb e) e', fun x h1 h2 h3 => (upd_ne h1).trans (st.same x h1 h2 h3), st.it.mono (.refl c) fun x hx => upd_ne fun (e : x = D) => X.dia (e ▸ hx), ⟨vs ++ [v], n', if_pos rfl, ?_⟩, st.fr.to fun a' o e f => ?_⟩
  · rw [List.reverse_cons]
    exact hR.append ⟨v, [], rfl, R, rfl⟩
  · exact (upd_ne fun (q : a' = D) => by rw [q, hD] at e; rw [← some_eq e] at f; exact ff f).trans e
theorem comp_loop (S : SE Z d rec) (T : ST Z d rec) (O : EnvOK env sc) (a : AOK d A) (X : CompFix Kp ia D C env) {elt t iter : Expr} {ifs : List Expr} {scope : Scope} {pos : Pos} {KD : List Mine.D → Hs → Prop} (htup : b = true → isTupE t = true)
    (hend : ∀ (c' : Cn) (acc : List Mine.D) (hs' : Hs) (Ke : Addr → Option Obj) (s' : Shared), c.le c' → (AccAt Z c' Ke D acc ∧ (∃ o, Ke C = some o ∧ NsO o) ∧ ∀ x, x ≠ D → x ≠ C → Ke x = Kp x) → Core Z Ke c' hs' s' → KD acc.reverse hs' → R (.ok .next) s')
    (st : CompSt Z Kp c g ia b it D C env xs acc loc hs Ke s) (hlen : acc.length + xs.length ≤ lim)
    (h : compL (fun loc e => rec sc false e loc) sc t elt ifs g KD xs loc hs acc) :
    codeAny (model Z.P Z.w) A (.compLoop (.ListComp elt [⟨t, iter, ifs, 0⟩] scope pos) 0 it (.ref D) env) R s := by
  refine compLoop_own (CompInv Z Kp c g ia b it D C env (compL (fun loc e => rec sc false e loc) sc t elt ifs g KD)) ?_ xs.length ⟨c, xs, acc, loc, hs, Ke, .refl c, st, hlen, h, rfl⟩
  clear st h hlen
  rintro n s' ⟨c', xs, acc, loc', hs', Ke, l, st, hlen, h, rfl⟩
  have hst : stays g hs' := by
    cases xs with
    | nil => exact h.1
    | cons x r => exact h.1
  refine next_ok a.handled st.core st.it hst (fun hnil s₁ C₁ => ?_) (fun x r hx c₁ Kq u s₁ l₁ U₁ C₁ Ru hgo => ?_)
  · rw [hnil] at h
    exact hend c' acc hs' (minus ia Ke) s₁ l (st.fin X) C₁ h.2
  · cases hx
    obtain ⟨loc₂, hb, h⟩ := optP_iff h.2
    have hlen : (acc.length + 1) + r.length ≤ lim := by rw [Nat.add_right_comm]; exact hlen
    have hlen' : acc.length + r.length ≤ lim := Nat.le_trans (Nat.add_le_add_right (Nat.le_succ _) _) hlen
    refine hgo t _ _ htup fun Kr s₂ U₂ C₂ I₂ => bindT_ok a.handled O ((st.fr.mono l₁).ups (U₁.trans U₂) st.it.fields) C₂ Ru hb fun K₃ s₃ F₃ C₃ U₃ => ?_
    have st₃ := st.next X l₁ (U₁.trans U₂) I₂ F₃ C₃ U₃
    refine tests_ok T O a F₃ C₃ h fun c₄ ok hs₄ s₄ l₄ C₄ h₄ => ?_
    have st₄ := st₃.mono l₄ C₄
    cases ok with
    | true =>
      rw [if_pos rfl]
      refine S.ev O a st₄.fr C₄ h₄ fun c₅ V₅ v₅ hs₅ s₅ l₅ C₅ F₅ R₅ h₅ => ?_
      obtain ⟨y, ey, h₅⟩ := optP_iff h₅
      rw [V.d_eq ey] at R₅
      exact (st₄.mono l₅ C₅).push X R₅ (Nat.lt_of_lt_of_le (Nat.lt_succ_self _) (Nat.le_trans (Nat.le_add_right _ _) hlen)) fun Kq _ s₆ st₆ => ⟨r.length, Nat.lt_succ_self _, c₅, r, y :: acc, loc₂, hs₅, Kq, ((l.trans l₁).trans l₄).trans l₅, st₆, hlen, h₅, rfl⟩
    | false =>
      rw [if_neg Bool.false_ne_true]
      exact ⟨r.length, Nat.lt_succ_self _, c₄, r, acc, loc₂, hs₄, K₃, (l.trans l₁).trans l₄, st₄, hlen', h₄, rfl⟩
end
theorem again_ok {b : Bool} {it : Value} {xs : List Mine.D} {Q : Value → Shared → Prop} (C : Core Z Kp c hs s) (I : ItSt Z Kp c g ia b it xs) (h : Q it s) : wpAny (model Z.P Z.w) A (pyIter it) Q E s := by
  cases I with
  | lst h1 h2 h3 _ => exact wpAny_pyIter_listiter ⟨_, C.kp _ _ h1, h2, h3⟩ h
  | rng h1 => exact wpAny_pyIter_rangeiter (C.kp _ _ h1) h
  | enm _ h1 _ _ _ _ => exact wpAny_pyIter_enum (C.kp _ _ h1) h
theorem comp_local {x : Str} {o : Option NameKind} (h : o.map (compKind sc x) = some .local) : isLoc0 o = true := by
  cases o with
  | none => exact none_some h
  | some k =>
    have h : compKind sc x k = .local := some_eq h
    unfold compKind at h
    cases k with
    | «local» => rfl
    | free => cases q : isCell (sLook x sc) <;> rw [q] at h <;> exact nomatch h
    | _ => exact nomatch h
theorem comp_frame (O : EnvOK env sc) {scope : Scope} (hok : OkC sc scope) (F : FrameIn Z Kq c env loc) {CC : Addr} {oC : Obj} {K' : Addr → Option Obj} (hC : K' CC = some oC) (nC : NsO oC) (hK : ∀ x o, Kq x = some o → K' x = some o) :
    FrameIn Z K' c (compEnvC scope (clsF env scope.names []) CC env) (dropNames scope.names loc) := by
  obtain ⟨es, ep, dC, kC⟩ := nC
  refine ⟨⟨oC, es, ep, hC, dC, kC, fun x V e hx => ?_⟩, fun x V e hx => ?_⟩
  · rw [compEnv_kind O] at hx
    exact nomatch (drop_look e).2.symm.trans (comp_local hx)
  · rw [compEnv_kind O] at hx
    have hfree := comp_free hok hx
    have hout := freeOK_look hok.free hfree
    rw [← kind_look O.names] at hout
    obtain ⟨ad, v, o, f1, f2, f3, f4⟩ := F.cell x V (drop_look e).1 hout
    obtain ⟨ad', had⟩ := Option.isSome_iff_exists.mp (clsF_some (env := env) (cs := []) (.inr (look_mem hfree)))
    have : ad' = ad := (clsF_look had).elim (fun w => none_some w) fun w => w.trans (by rw [f1]; rfl)
    exact ⟨ad, v, o, this ▸ had, hK _ _ f2, f3, f4⟩
theorem comp_end {DD CC : Addr} (X : CompFix Kp ia DD CC env) {m : Bool} {c' : Cn} {acc : List Mine.D} {hs' : Hs} {Ke : Addr → Option Obj} {s' : Shared} {P : Prop} (h : AccAt Z c' Ke DD acc ∧ (∃ o, Ke CC = some o ∧ NsO o) ∧ ∀ x, x ≠ DD → x ≠ CC → Ke x = Kp x) (C' : Core Z Ke c' hs' s') (hk : alloc m (mkList acc.reverse) hs' K)
    (k : ∀ (c'' : Cn) (V : V) (hs'' : Hs) (oC : Obj), c'.le c'' → NsO oC → Core Z (updK Kp CC oC) c'' hs'' s' → RepV Z c'' V (.ref DD) → K V hs'' → P) : P := by
  obtain ⟨⟨vs, n, hD, hR⟩, ⟨o, hC, hN⟩, hsame⟩ := h
  have hq : updK Kp CC o DD = none := (upd_ne X.dc).trans X.kd
  have hsub : ∀ b o', updK Kp CC o b = some o' → Ke b = some o' := fun b o' e => upd_some e (fun q r => by rw [q, ← r]; exact hC) fun q e => (hsame b (ne_of X.kd e) q).trans e
  have as := mkList_as hR
  cases m with
  | false =>
    obtain ⟨C'', le⟩ := C'.toG hD hq hsub
    exact k _ (.d _) hs' o le hN C'' ((as.mono le).rep (Cn.addG_get _ _ _)) hk
  | true =>
    obtain ⟨C'', le, r⟩ := C'.toL hD hq hsub as
    exact k _ _ _ o le hN C'' r hk
theorem comp_ok (B : BaseOK Z Fg) (S : SE Z d rec) (T : ST Z d rec) (O : EnvOK env sc) (a : AOK d A) (FI : FrameIn Z Kp c env loc) (Cr : Core Z Kp c hs s) {m : Bool} {elt t it : Expr} {ifs : List Expr} {scope : Scope} {pos pos' : Pos}
    (hok : okComp sc scope = true) (hset : notSet it = true)
    (h : iterE (fun e => rec sc false e loc) (enumOf Z.X sc) t it hs fun xs g hs => xs.length ≤ lim ∧
      compL (fun loc e => rec (compSc sc scope.names) false e loc) (compSc sc scope.names) t elt ifs g (fun ds hs => alloc m (mkList ds) hs K) xs (dropNames scope.names loc) hs [])
    {use : Option (Value → Sem Unit)} {Q : Value → Shared → Prop}
    (k : ∀ (c' : Cn) (V : V) (v : Value) (hs' : Hs) (s' : Shared) (C : Addr) (oC : Obj), c.le c' → Kp C = none → NsO oC → Core Z (updK Kp C oC) c' hs' s' → RepV Z c' V v → K V hs' → compPost (model Z.P Z.w) A E use Q v C (.ok .next) s') :
    wpAny (model Z.P Z.w) A (comprehension (.ListComp elt [⟨t, it, ifs, 0⟩] scope pos) scope env pos' (newList []) false (eval it env) use) Q E s := by
  have hok := okComp_iff hok
  refine wpAny_comprehension_free (g := ⟨t, it, ifs, 0⟩) (gs := []) rfl (folded_ok hset) (closure_is O.names O.cells scope hok.free) hok.kind (fun x hx hl => ?_) ?_
  · rw [← sLook_eq, nodupN_mem hok.nodup x hx, hl]
  refine iter_ok (t := t) B S O a FI Cr h fun c₁ ia Kq u s₁ b xs g hs₁ l₁ M h₁ => ?_
  obtain ⟨hlen, h₁⟩ := h₁
  have F₁ : FrameIn Z Kq c₁ env loc := (FI.mono l₁).to fun x o e _ => (M.same x fun hx => no2 (M.new x hx) e).trans e
  -- the list to be filled
  have C₂ := M.core.mk1 (tk := s₁.toks) (o := listO [] 0) rfl
  have hCs : (s₁.heap.push (listO [] 0)).objs.size = s₁.heap.objs.size + 1 := Heap.size_push ..
  refine wpAny_newObj_type (wpAny_newFunctionEnv (fun x hx => ?_) (fun y hy => nomatch hy) (fun h' hns hsb => ?_) hok.kind)
  · rcases okNames_mem hok.names x hx with e | e | e <;> rw [e] <;> decide
  have keep : ∀ b o, (s₁.heap.push (listO [] 0)).get? b = some o → h'.get? b = some o := fun b o e => hsb.extBut b o (Nat.ne_of_lt (Heap.lt_size e)) (Heap.get?_push_of_some _ e)
  obtain ⟨oC, es, ep, eC, dC, kC, fC⟩ := hns
  have C₃ := C₂.newK (h' := h') (tk := s₁.toks) keep (fresh_size _) eC
  have hDC : s₁.heap.objs.size ≠ (s₁.heap.push (listO [] 0)).objs.size := by rw [hCs]; exact Nat.ne_of_lt (Nat.lt_succ_self _)
  have Dfresh : Kq s₁.heap.objs.size = none := none_of_fresh M.core.kp (fresh_size _)
  have Cfresh : Kq (s₁.heap.push (listO [] 0)).objs.size = none := none_of_fresh M.core.kp (fresh_ge (by rw [hCs]; exact Nat.le_succ _))
  have nia : ∀ {x}, Kq x = none → x ∉ ia := fun e hx => no_some e (M.it.some _ hx)
  have fix : CompFix Kp ia s₁.heap.objs.size (s₁.heap.push (listO [] 0)).objs.size (compEnvC scope (clsF env scope.names []) (s₁.heap.push (listO [] 0)).objs.size env) :=
    ⟨rfl, nia Dfresh, nia Cfresh, hDC, (M.same _ (nia Dfresh)).symm.trans Dfresh, (M.same _ (nia Cfresh)).symm.trans Cfresh, M.new⟩
  have kk : ∀ x, x ≠ s₁.heap.objs.size → x ≠ (s₁.heap.push (listO [] 0)).objs.size → updK (updK Kq s₁.heap.objs.size (listO [] 0)) (s₁.heap.push (listO [] 0)).objs.size oC x = Kq x := fun x h1 h2 => (upd_ne h2).trans (upd_ne h1)
  have st : CompSt Z Kp c₁ g ia b u s₁.heap.objs.size (s₁.heap.push (listO [] 0)).objs.size (compEnvC scope (clsF env scope.names []) (s₁.heap.push (listO [] 0)).objs.size env) xs [] (dropNames scope.names loc) hs₁ _ { s₁ with heap := h', toks := s₁.toks } :=
    ⟨C₃, fun x h1 h2 h3 => (kk x h1 h2).trans (M.same x h3), M.it.mono (.refl _) fun x hx => kk x (fun e => fix.dia (e ▸ hx)) fun e => fix.cia (e ▸ hx), ⟨[], 0, (upd_ne hDC).trans (if_pos rfl), rfl⟩,
      comp_frame O hok F₁ (if_pos rfl) ⟨es, ep, dC, kC⟩ fun x o e => (kk x (ne_of Dfresh e) (ne_of Cfresh e)).trans e⟩
  refine (fun loop => codeAny_compStart_list loop (again_ok C₃ st.it loop)) (comp_loop S T (compEnv_ok O hok) a fix M.tup (fun c' acc hs' Ke s' l hE C' hk => ?_) st (Nat.le_trans (Nat.le_of_eq (Nat.zero_add _)) hlen) h₁)
  exact comp_end fix hE C' hk fun c'' V hs'' oC le hN C'' R hk => k c'' V _ hs'' s' _ oC ((l₁.trans l).trans le) fix.kc hN C'' R hk
theorem scomp_ok (B : BaseOK Z Fg) (S : SE Z d rec) (T : ST Z d rec) : SComp Z d rec := by
  intro env sc m elt t it ifs scope pos loc hs K Kp c s A Q E O a FI C hok hset h P
  rw [eval_ListComp]
  show wpAny _ _ (comprehension (.ListComp elt [⟨t, it, ifs, 0⟩] scope pos) scope env (firstIterPos [⟨t, it, ifs, 0⟩] pos) (newList []) false (eval it env)) _ _ _
  refine comp_ok B S T O a FI C hok hset h fun c' V v hs' s' CC oC l hC hN C' R hk => ?_
  obtain ⟨mm, hm⟩ := hN.ns (C'.kp CC oC (if_pos rfl))
  exact ⟨mm, hm, fun h' hsb => P c' V v hs' _ l ((C'.dropK (ia := [CC]) (tk := s'.toks) (some_one (if_pos rfl)) fun b o hb e => hsb.extBut b o (not_one hb) e).forget fun b o e =>
    (if_neg (not_mem1 (ne_of hC e))).trans ((upd_ne (ne_of hC e)).trans e)) R hk⟩
end
end Mine
set_option genSizeOf false
set_option genInjectivity false
set_option maxRecDepth 100000
namespace Mine
open PySem PySem.W PySem.Calls PyProof.Rows

/-! ## statements -/
noncomputable def PostS (Z : Stat) (K₀ : Addr → Option Obj) (env : Env) (c : Cn) (K : KS) (Q : Flow → Shared → Prop) : Prop :=
  ∀ (c' : Cn) (f : Fl) (F : Flow) (loc' : Loc) (hs' : Hs) (s' : Shared) (Kq : Addr → Option Obj), c.le c' → FrameW Z K₀ Kq c' env loc' → Core Z Kq c' hs' s' → RepF Z c' f F → K f loc' hs' → Q F s'
theorem PostS.up {Z : Stat} {K₀ : Addr → Option Obj} {env : Env} {c c' : Cn} {K : KS} {Q : Flow → Shared → Prop} (P : PostS Z K₀ env c K Q) (l : c.le c') : PostS Z K₀ env c' K Q := fun d f F loc' hs' s' Kq l' => P d f F loc' hs' s' Kq (l.trans l')
noncomputable def SS (Z : Stat) (A : Around) (env : Env) (rs : RecS) : Prop :=
  ∀ (st : Stmt) (loc : Loc) (hs : Hs) (K : KS) (K₀ Kp : Addr → Option Obj) (c : Cn) (s : Shared) (Q : Flow → Shared → Prop) (E : Value → Shared → Prop),
    FrameW Z K₀ Kp c env loc → Core Z Kp c hs s → rs st loc hs K → PostS Z K₀ env c K Q → wpAny (model Z.P Z.w) A (exec st env) Q E s
/-- a comprehension whose value goes to a name of the block -/
noncomputable def SU (Z : Stat) (d : Nat) (rec : RecE) : Prop :=
  ∀ (env : Env) (sc : Names) (m : Bool) (elt : Expr) (gens : List Comprehension) (scope : Scope) (pos : Pos) (loc : Loc) (hs : Hs) (K : KE) (K₀ Kp : Addr → Option Obj) (c : Cn) (s : Shared) (A : Around) (Q : Unit → Shared → Prop) (E : Value → Shared → Prop) (x : Str) (pos' : Pos),
    EnvOK env sc → AOK d A → FrameW Z K₀ Kp c env loc → Core Z Kp c hs s → rec sc m (.ListComp elt gens scope pos) loc hs K → storable (sLook x sc) = true →
    (∀ (c' : Cn) (V : V) (v : Value) (hs' : Hs) (s' : Shared) (Kq : Addr → Option Obj), c.le c' → FrameW Z K₀ Kq c' env (putL x V loc) → Core Z Kq c' hs' s' → K V hs' → Q () s') →
    wpAny (model Z.P Z.w) A (evalThenUse (.ListComp elt gens scope pos) env (assign (.Name x pos') env)) Q E s

section
variable {Z : Stat} {K₀ Kp Kq Kr Ks : Addr → Option Obj} {c : Cn} {hs : Hs} {s : Shared} {A : Around} {E : Value → Shared → Prop} {tk : Nat} {ia : List Addr} {g : Option (Nat × D)} {Fg : Frag} {env : Env} {sc : Names} {loc : Loc} {d : Nat} {rec : RecE} {call : CallR} {K : KS} {Q : Flow → Shared → Prop}

/-! ### a frame, while something beside it is kept -/
theorem FrameW.turn {K₁ K₂ : Addr → Option Obj} (W : FrameW Z K₁ Kp c env loc) (n : ∀ b, K₁ b = none → (Kp b).isSome = true → Kq b = Kp b ∧ K₂ b = none) (le : ∀ b o, K₂ b = some o → Kq b = some o) : FrameW Z K₂ Kq c env loc := by
  obtain ⟨⟨o, es, ep, h1, h2, h3, h4⟩, h5⟩ := W.in_
  have hL := n _ W.freeL (by rw [h1]; rfl)
  refine ⟨⟨⟨o, es, ep, hL.1.trans h1, h2, h3, h4⟩, fun x V e hx => ?_⟩, le, hL.2, fun x hx => ?_, W.apart, W.nofree⟩
  · obtain ⟨a, v, ob, f1, f2, f3, f4⟩ := h5 x V e hx
    obtain ⟨a', o', v', g1, g2, g3, g4, g5⟩ := W.cells x (cell_kind W hx)
    cases some_eq (f1.symm.trans g1)
    exact ⟨a, v, ob, f1, (n _ g4 (by rw [f2]; rfl)).1.trans f2, f3, f4⟩
  · obtain ⟨a, o, v, f1, f2, f3, f4, f5⟩ := W.cells x hx
    have q := n a f4 (by rw [f2]; rfl)
    exact ⟨a, o, v, f1, q.1.trans f2, f3, q.2, f5⟩
theorem over_out {a : Addr} (h : a ∉ ia) : over ia Ks K₀ a = K₀ a := if_neg h
theorem over_in {a : Addr} (h : a ∈ ia) : over ia Ks K₀ a = Ks a := if_pos h
theorem over_some {a : Addr} {o : Obj} {P : Prop} (e : over ia Ks K₀ a = some o) (h1 : a ∈ ia → Ks a = some o → P) (h2 : a ∉ ia → K₀ a = some o → P) : P := by
  by_cases q : a ∈ ia
  · exact h1 q ((over_in q).symm.trans e)
  · exact h2 q ((over_out q).symm.trans e)
theorem over_none {a : Addr} (h : over ia Ks K₀ a = none) (some' : ∀ x ∈ ia, (Ks x).isSome = true) : a ∉ ia ∧ K₀ a = none := by
  have q : a ∉ ia := fun q => no_some ((over_in q).symm.trans h) (some' a q)
  exact ⟨q, (over_out q).symm.trans h⟩
theorem FrameW.toOver (W : FrameW Z K₀ Kp c env loc) (same : ∀ x, x ∉ ia → Kq x = Kp x) (new : ∀ x ∈ ia, Kp x = none) : FrameW Z (over ia Kq K₀) Kq c env loc := by
  have ni : ∀ b, (Kp b).isSome = true → b ∉ ia := fun b h q => no_some (new b q) h
  exact W.turn (fun b h h' => ⟨same b (ni b h'), (over_out (ni b h')).trans h⟩) fun b o e => over_some e (fun _ e => e) fun q e => (same b q).trans (W.le b o e)
theorem FrameW.unover (W : FrameW Z (over ia Ks K₀) Kr c env loc) (h0 : ∀ x ∈ ia, K₀ x = none) (hs : ∀ x ∈ ia, (Ks x).isSome = true) : FrameW Z K₀ Kr c env loc :=
  W.turn (fun b h _ => ⟨rfl, (over_none h hs).2⟩) fun b o e => W.le b o ((over_out fun q => no2 (h0 b q) e).trans e)
theorem FrameW.ups (W : FrameW Z (over ia Ks K₀) Ks c env loc) (U : Ups ia Ks Kr) (hs : ∀ x ∈ ia, (Ks x).isSome = true) : FrameW Z (over ia Kr K₀) Kr c env loc :=
  W.turn (fun b h _ => have q := over_none h hs; ⟨U.same b q.1, (over_out q.1).trans q.2⟩) fun b o e => over_some e (fun _ e => e) fun q e => (U.same b q).trans (W.le b o ((over_out q).trans e))
theorem FrameW.drop (W : FrameW Z (over ia Ks K₀) Kr c env loc) (h0 : ∀ x ∈ ia, K₀ x = none) (hs : ∀ x ∈ ia, (Ks x).isSome = true) : FrameW Z K₀ (minus ia Kr) c env loc :=
  W.turn (fun b h _ => have q := over_none h hs; ⟨if_neg q.1, q.2⟩) fun b o e => by
    have q : b ∉ ia := fun q => no2 (h0 b q) e
    exact (show minus ia Kr b = Kr b from if_neg q).trans (W.le b o ((over_out q).trans e))
theorem over_eq (h : ∀ x ∈ ia, Kr x = Ks x) : over ia Kr K₀ = over ia Ks K₀ := by
  funext b
  by_cases q : b ∈ ia
  · rw [over_in q, over_in q]; exact h b q
  · rw [over_out q, over_out q]

/-! ### statement by statement -/
theorem sole_list {x : Str} {p : Pos} : (assignEach [.Name x p] env).map (·.2) = [assign (.Name x p) env] := rfl
theorem swaps_no {t e : Expr} {line : Nat} (h : notSC e = true) (h' : ∀ elt gens scope p, e = .ListComp elt gens scope p → ∀ x q, t ≠ .Name x q) : swapsWithSole [t] e line env = pure false := by
  unfold swapsWithSole swapsWith
  cases e with
  | ListComp elt gens scope p =>
    have h' := h' _ _ _ _ rfl
    clear h
    cases t with
    | Name x q => exact absurd rfl (h' x q)
    | _ => rfl
  | _ => first | rfl | exact ff h
theorem or_l {a b : Bool} (h : a = true) : (a || b) = true := by rw [h]; rfl
theorem fm_lt {α β : Type} {f : α → Option β} : ∀ {l : List α} {x : α}, x ∈ l → f x = none → (l.filterMap f).length < l.length
  | y :: r, x, h, e => by
    rw [List.filterMap_cons]
    cases h with
    | head => rw [e]; exact Nat.lt_succ_of_le (List.length_filterMap_le ..)
    | tail _ h =>
      have := fm_lt h e
      cases f y with
      | none => exact Nat.lt_succ_of_lt this
      | some _ => exact Nat.succ_lt_succ this
theorem ite3 {α : Type} {c1 c2 c3 : Bool} {x y : α} (h : c3 = true) : (if c1 = true then x else if c2 = true then x else if c3 = true then x else y) = x := by
  subst h
  cases c1 <;> cases c2 <;> rfl
theorem swapped_no {t e : Expr} (h : okSwap t e = true) : swappedStores [t] e env = pure none := by
  obtain ⟨h1, h⟩ := and_t h
  cases t with
  | Tuple ts k p =>
    cases e with
    | Tuple vs k' p' =>
      obtain ⟨x, hx, hn⟩ := List.any_eq_true.mp h
      unfold swappedStores
      refine ite3 (or_l (bne_iff_ne.mpr (Nat.ne_of_lt (fm_lt hx ?_))))
      clear h h1 hx
      cases x <;> first | rfl | exact absurd hn Bool.false_ne_true
    | _ => first | rfl | exact absurd h1 Bool.false_ne_true
  | _ => first | rfl | exact absurd h Bool.false_ne_true
theorem su_ok (B : BaseOK Z Fg) (S : SE Z d rec) (T : ST Z d rec) : SU Z d (stepE Z.X call rec) := by
  intro env sc m elt gens scope pos loc hs K K₀ Kp c s A Q E x pos' O a W C h hk k
  obtain ⟨⟨t, it, ifs⟩, hq, h1⟩ := optP_iff h
  obtain ⟨hok, h1⟩ := need_iff h1
  obtain ⟨hok1, hok2⟩ := and_t hok
  obtain rfl : gens = [⟨t, it, ifs, 0⟩] := genP_iff hq
  show wpAny _ A (do
    let _ ← comprehension (.ListComp elt [⟨t, it, ifs, 0⟩] scope pos) scope env (firstIterPos [⟨t, it, ifs, 0⟩] pos) (newList []) false (eval it env) (some (assign (.Name x pos') env))) Q E s
  refine wpAny_bind (wpAny_mono (Q := fun _ s' => Q () s') (comp_ok B S T O a W.in_ C hok1 hok2 h1 fun c' V v hs' s' CC oC l hC hN C' R hk' => ?_) (fun _ _ h => wpAny_pure h) fun _ _ e => e)
  have one : updK Kp CC oC CC = some oC := if_pos rfl
  have W' : FrameW Z (over [CC] (updK Kp CC oC) K₀) (updK Kp CC oC) c' env loc := (W.mono l).toOver (fun y hy => upd_ne (not_one hy)) fun y hy => by rw [List.mem_singleton.mp hy]; exact hC
  have h0 : ∀ y ∈ [CC], K₀ y = none := fun y hy => by rw [List.mem_singleton.mp hy]; exact none_of_sub W.le hC
  show wpAny _ A (assign (.Name x pos') env v) _ _ _
  rw [arm_assign_Name]
  refine wpAny_bind (wpAny_standAt (bind_ok O W' C' hk R fun Kq s₂ W₂ C₂ => ?_))
  have hq : Kq CC = some oC := W₂.le CC oC ((over_in (.head _)).trans one)
  obtain ⟨mm, hm⟩ := hN.ns (C₂.kp CC oC hq)
  exact ⟨mm, hm, fun h' hsb => k c' V v hs' _ _ l (W₂.drop h0 (some_one one)) (C₂.dropK (tk := s₂.toks) (some_one hq) fun b o hb e => hsb.extBut b o (not_one hb) e) hk'⟩

/-- a name read, before its change -/
theorem load_ok (O : EnvOK env sc) (FI : FrameIn Z Kp c env loc) {K : KE} {Q : Value → Shared → Prop} (P : Post Z Kp c K Q) (C : Core Z Kp c hs s) {x : Str} (hst : storable (sLook x sc) = true) (h : evName Z.X sc x loc hs K) : wpAny (model Z.P Z.w) A (loadName env x) Q E s := by
  obtain ⟨kk, ek, h⟩ := optP_iff h
  have hko := (kind_look O.names x).trans ek
  rcases storable_iff hst with e | e <;> rw [ek] at e <;> cases some_eq e <;> obtain ⟨V, hV, h⟩ := optP_iff h
  · obtain ⟨o, es, ep, h1, h2, h3, h4⟩ := FI.ns
    obtain ⟨v, e1, R⟩ := h4 x V hV hko
    exact wpAny_loadName_local O.kind hko ⟨o, es, ep, C.kp _ _ h1, h2, h3, fun n => rfl⟩ e1 (P.now C R h)
  · obtain ⟨a, v, o, h1, h2, h3, R⟩ := FI.cell x V hV (.inl hko)
    exact wpAny_loadName_cell O.kind hko h1 ⟨o, C.kp _ _ h2, h3⟩ (P.now C R h)
theorem augV_ok {K : KE} {Q : Value → Shared → Prop} (P : Post Z Kp c K Q) (C : Core Z Kp c hs s) {op : Operator} {V₁ V₂ : V} {v₁ v₂ : Value} (R₁ : RepV Z c V₁ v₁) (R₂ : RepV Z c V₂ v₂) (h : augV op V₁ V₂ hs K) : wpAny (model Z.P Z.w) A (inplaceOp op v₁ v₂) Q E s := by
  rcases orP_iff h with ⟨i, e1, h⟩ | h
  · obtain ⟨j, e2, h⟩ := optP_iff h
    rw [V.int_eq e1] at R₁
    rw [V.int_eq e2] at R₂
    obtain ⟨t, rfl⟩ := R₁
    obtain ⟨u, rfl⟩ := R₂
    exact binInt_ok' P C h
  · obtain ⟨e, h⟩ := need_iff h
    cases add_of e
    obtain ⟨n, e1, h⟩ := optP_iff h
    rw [V.loc_eq e1] at R₁
    exact iadd_ok P C R₁ R₂ h
theorem execs_ok {rs : RecS} (S : SS Z A env rs) : ∀ {b : List Stmt} {loc : Loc} {hs : Hs} {Kp : Addr → Option Obj} {c : Cn} {s : Shared}, FrameW Z K₀ Kp c env loc → Core Z Kp c hs s → exL rs b loc hs K → PostS Z K₀ env c K Q → wpAny (model Z.P Z.w) A (execs b env) Q E s
  | [], loc, hs, Kp, c, s, W, C, h, P => by
    rw [arm_execs_nil]
    exact wpAny_pure (P c .next .next loc hs s Kp (.refl c) W C rfl h)
  | st :: b, loc, hs, Kp, c, s, W, C, h, P => by
    rw [arm_execs_cons]
    refine wpAny_bind (S st loc hs _ K₀ Kp c s _ E W C h fun c₁ f F loc₁ hs₁ s₁ K₁ l₁ W₁ C₁ R₁ h₁ => ?_)
    cases f with
    | next =>
      cases (R₁ : F = .next)
      exact execs_ok S W₁ C₁ h₁ (P.up l₁)
    | brk =>
      cases (R₁ : F = .brk)
      exact wpAny_pure (P c₁ .brk .brk loc₁ hs₁ s₁ K₁ l₁ W₁ C₁ rfl h₁)
    | cont =>
      cases (R₁ : F = .cont)
      exact wpAny_pure (P c₁ .cont .cont loc₁ hs₁ s₁ K₁ l₁ W₁ C₁ rfl h₁)
    | ret V =>
      obtain ⟨v, rfl, R⟩ := R₁
      exact wpAny_pure (P c₁ (.ret V) (.ret v) loc₁ hs₁ s₁ K₁ l₁ W₁ C₁ ⟨v, rfl, R⟩ h₁)
end
end Mine
set_option genSizeOf false
set_option genInjectivity false
set_option maxRecDepth 100000
namespace Mine
open PySem PySem.W PySem.Calls PyProof.Rows

section
variable {Z : Stat} {K₀ Kp Kq Kr Ks : Addr → Option Obj} {c : Cn} {hs : Hs} {s : Shared} {A : Around} {E : Value → Shared → Prop} {tk : Nat} {ia : List Addr} {g : Option (Nat × D)} {Fg : Frag} {env : Env} {sc : Names} {loc : Loc} {d : Nat} {rec : RecE} {call : CallR} {K : KS} {Q : Flow → Shared → Prop} {rs : RecS}

inductive WhileInv (Z : Stat) (K₀ : Addr → Option Obj) (c : Cn) (env : Env) (H : Nat → Loc → Hs → Prop) (n : Nat) (s' : Shared) : Prop
  | mk (c' : Cn) (loc' : Loc) (hs' : Hs) (Kr : Addr → Option Obj) (l : c.le c') (W : FrameW Z K₀ Kr c' env loc') (C : Core Z Kr c' hs' s') (h : H n loc' hs') : WhileInv Z K₀ c env H n s'
inductive ForInv (Z : Stat) (K₀ : Addr → Option Obj) (c : Cn) (env : Env) (g : Option (Nat × D)) (ia : List Addr) (b : Bool) (u : Value) (H : List D → Loc → Hs → Prop) (n : Nat) (s' : Shared) : Prop
  | mk (c' : Cn) (xs : List D) (loc' : Loc) (hs' : Hs) (Kr : Addr → Option Obj) (l : c.le c') (W : FrameW Z (over ia Kr K₀) Kr c' env loc') (C : Core Z Kr c' hs' s') (I : ItSt Z Kr c' g ia b u xs) (h : H xs loc' hs') (e : n = xs.length) : ForInv Z K₀ c env g ia b u H n s'
theorem while_ok (T : ST Z d rec) (O : EnvOK env sc) (a : AOK d A) (S : SS Z A env rs) (W : FrameW Z K₀ Kp c env loc) (C : Core Z Kp c hs s) {t : Expr} {body : List Stmt} {pos : Pos} {n : Nat}
    (h : whileN (fun loc hs k => rec sc false t loc hs fun v hs => truthV v hs fun c => k c hs) (exL rs body) K n loc hs) (P : PostS Z K₀ env c K Q) : wpAny (model Z.P Z.w) A (exec (.While t body [] pos) env) Q E s := by
  refine wpAny_While (codeAny_whileLoop (WhileInv Z K₀ c env (whileN (fun loc hs k => rec sc false t loc hs fun v hs => truthV v hs fun c => k c hs) (exL rs body) K)) ?_ n ⟨c, loc, hs, Kp, .refl c, W, C, h⟩)
  clear h W C
  rintro n s' ⟨c', loc', hs', Kr, l, W, C, h⟩
  cases n with
  | zero => exact False.elim h
  | succ n =>
    refine T env sc t loc' hs' _ (fun b hs => br b (exL rs body loc' hs fun f loc hs => match f with
      | .next => whileN (fun loc hs k => rec sc false t loc hs fun v hs => truthV v hs fun c => k c hs) (exL rs body) K n loc hs
      | .cont => whileN (fun loc hs k => rec sc false t loc hs fun v hs => truthV v hs fun c => k c hs) (exL rs body) K n loc hs
      | .brk => K .next loc hs
      | .ret v => K (.ret v) loc hs) (K .next loc' hs)) Kr c' s' A _ _ O a W.in_ C h (fun v hs hv => hv) fun c₁ b hs₁ s₁ l₁ C₁ h₁ => ?_
    rcases br_iff h₁ with ⟨rfl, h₁⟩ | ⟨rfl, h₁⟩
    · rw [if_pos rfl]
      refine execs_ok S (W.mono l₁) C₁ h₁ fun c₂ f F loc₂ hs₂ s₂ K₂ l₂ W₂ C₂ R₂ h₂ => ?_
      cases f with
      | next =>
        cases (R₂ : F = .next)
        exact ⟨n, Nat.lt_succ_self n, c₂, loc₂, hs₂, K₂, (l.trans l₁).trans l₂, W₂, C₂, h₂⟩
      | brk =>
        cases (R₂ : F = .brk)
        exact P c₂ .next .next loc₂ hs₂ s₂ K₂ ((l.trans l₁).trans l₂) W₂ C₂ rfl h₂
      | cont =>
        cases (R₂ : F = .cont)
        exact ⟨n, Nat.lt_succ_self n, c₂, loc₂, hs₂, K₂, (l.trans l₁).trans l₂, W₂, C₂, h₂⟩
      | ret V =>
        obtain ⟨v, rfl, R⟩ := R₂
        exact P c₂ (.ret V) (.ret v) loc₂ hs₂ s₂ K₂ ((l.trans l₁).trans l₂) W₂ C₂ ⟨v, rfl, R⟩ h₂
    · rw [if_neg Bool.false_ne_true, arm_execs_nil]
      exact wpAny_pure (P c₁ .next .next loc' hs₁ s₁ Kr (l.trans l₁) (W.mono l₁) C₁ rfl h₁)
theorem for_ok (B : BaseOK Z Fg) (SX : SE Z d rec) (O : EnvOK env sc) (a : AOK d A) (S : SS Z A env rs) (W : FrameW Z K₀ Kp c env loc) (C : Core Z Kp c hs s) {t it : Expr} {body : List Stmt} {pos : Pos} (hset : notSet it = true)
    (h : iterE (fun e => rec sc false e loc) (enumOf Z.X sc) t it hs fun xs g hs => forL (fun d loc hs k => asg sc (rec sc false) t (.d d) loc hs k) (exL rs body) g K xs loc hs) (P : PostS Z K₀ env c K Q) :
    wpAny (model Z.P Z.w) A (exec (.For t it body [] pos) env) Q E s := by
  refine wpAny_For ?_ (folded_ok hset)
  refine wpAny_mono (iter_ok (t := t) (Q := fun u s₂ => codeAny (model Z.P Z.w) A (.forLoop t u body [] env) (fun r s' => match r with | .ok f => Q f s' | .error e => cameBackBy (model Z.P Z.w) A env E e s') s₂) B SX O a W.in_ C h fun c₁ ia Kq u s₁ b xs g hs₁ l₁ M h₁ => ?_) (fun _ _ h => h) fun _ _ h => h
  have h0 : ∀ x ∈ ia, K₀ x = none := fun x hx => none_of_sub W.le (M.new x hx)
  have W₁ : FrameW Z (over ia Kq K₀) Kq c₁ env loc := (W.mono l₁).toOver M.same M.new
  refine codeAny_forLoop_any (ForInv Z K₀ c₁ env g ia b u (forL (fun d loc hs k => asg sc (rec sc false) t (.d d) loc hs k) (exL rs body) g K)) ?_ xs.length
    ⟨c₁, xs, loc, hs₁, Kq, .refl _, W₁, M.core, M.it, h₁, rfl⟩
  clear h₁
  rintro n s' ⟨c', xs, loc', hs', Kr, l, W₂, C₂, I₂, h, rfl⟩
  have hst : stays g hs' := by
    cases xs with
    | nil => exact h.1
    | cons x r => exact h.1
  refine next_ok a.handled C₂ I₂ hst (fun hnil s₃ C₃ => ?_) (fun x r hx c₃ Kq₃ v s₃ l₃ U₃ C₃ R₃ hgo => ?_)
  · subst hnil
    show wpAny _ A (execs [] env) _ _ _
    rw [arm_execs_nil]
    exact wpAny_pure (P c' .next .next loc' hs' s₃ _ (l₁.trans l) (W₂.drop h0 I₂.some) C₃ rfl h.2)
  · subst hx
    refine hgo t _ _ M.tup fun K₄ s₄ U₄ C₄ I₄ => ?_
    have W₄ : FrameW Z (over ia K₄ K₀) K₄ c₃ env loc' := (W₂.mono l₃).ups (U₃.trans U₄) I₂.some
    refine asg_ok (V := .d x) B SX O a W₄ C₄ R₃ h.2 fun c₅ K₅ loc₅ hs₅ s₅ l₅ W₅ C₅ h₅ => ?_
    refine execs_ok S W₅ C₅ h₅ fun c₆ f F loc₆ hs₆ s₆ K₆ l₆ W₆ C₆ R₆ h₆ => ?_
    have lall := ((l.trans l₃).trans l₅).trans l₆
    have go : forL (fun d loc hs k => asg sc (rec sc false) t (.d d) loc hs k) (exL rs body) g K r loc₆ hs₆ → ∃ m, m < (x :: r).length ∧ ForInv Z K₀ c₁ env g ia b u (forL (fun d loc hs k => asg sc (rec sc false) t (.d d) loc hs k) (exL rs body) g K) m s₆ := fun h₆ => by
      have hk : ∀ y ∈ ia, K₆ y = K₄ y := fun y hy => by
        obtain ⟨o, ho⟩ := Option.isSome_iff_exists.mp (I₄.some y hy)
        rw [ho]
        exact W₆.le y o ((over_in hy).trans ho)
      refine ⟨r.length, Nat.lt_succ_self _, c₆, r, loc₆, hs₆, K₆, lall, ?_, C₆, I₄.mono (l₅.trans l₆) hk, h₆, rfl⟩
      rw [over_eq hk]
      exact W₆
    have W₇ := W₆.unover h0 I₄.some
    cases f with
    | next =>
      cases (R₆ : F = .next)
      exact go h₆
    | cont =>
      cases (R₆ : F = .cont)
      exact go h₆
    | brk =>
      cases (R₆ : F = .brk)
      exact P c₆ .next .next loc₆ hs₆ s₆ K₆ (l₁.trans lall) W₇ C₆ rfl h₆
    | ret V =>
      obtain ⟨v, rfl, R⟩ := R₆
      exact P c₆ (.ret V) (.ret v) loc₆ hs₆ s₆ K₆ (l₁.trans lall) W₇ C₆ ⟨v, rfl, R⟩ h₆
theorem interactive_no (O : EnvOK env sc) : interactive env = false := by unfold interactive; rw [O.kind]; rfl
theorem assign_star {t e : Expr} (h : okSwap t e = true) : (assignEach [t] env).map (·.2) = [assign t env] := by
  have h := (and_t h).2
  cases t <;> first | rfl | exact ff h
theorem call_drops {e : Expr} {line : Nat} (h : isCall e = true) : swapsWith e none line env = pure false := by cases e <;> first | rfl | exact ff h
theorem aug_store {i : Expr} (h : (!isSliceE i) = true) (ov iv new : Value) : augStore i ov iv new = (do holding [new, ov, iv] (setItem ov iv new); release [new, ov, iv] []; pure .next) := by
  cases i <;> first | rfl | exact ff h
theorem pure_inj {a b : Bool} (h : (pure a : Sem Bool) = pure b) : a = b := by injection h
theorem swaps_local {x : Str} {px q : Pos} {elt : Expr} {gens : List Comprehension} {scope : Scope} {line : Nat} (h : swapsWithSole [.Name x px] (.ListComp elt gens scope q) line env = pure true) : env.kindOf x = some .local := by
  have e1 : swapsWithSole [.Name x px] (.ListComp elt gens scope q) line env = pure (env.blockKind == .function && env.kindOf x == some .local && px.line == q.line
      && !(scope.names.any fun (n, k) => n == x && (k == .local || k == .cell))) := rfl
  exact eq_of_beq (and_t (and_t (and_t (pure_inj (e1.symm.trans h))).1).1).2
theorem assign_ok (B : BaseOK Z Fg) (S : SE Z d rec) (U : SU Z d rec) (O : EnvOK env sc) (a : AOK d A) (W : FrameW Z K₀ Kp c env loc) (C : Core Z Kp c hs s) {t e : Expr} {p : Pos}
    (h : need (okSwap t e) (rec sc (mutT Z.X t) e loc hs fun v hs => asg sc (rec sc false) t v loc hs fun loc hs => K .next loc hs)) (P : PostS Z K₀ env c K Q) : wpAny (model Z.P Z.w) A (exec (.Assign [t] e p) env) Q E s := by
  obtain ⟨hok, h⟩ := need_iff h
  have plain : swapsWithSole [t] e p.line env = pure false → wpAny (model Z.P Z.w) A (exec (.Assign [t] e p) env) Q E s := fun hsw => by
    refine wpAny_Assign_stores ?_ hsw (swapped_no hok)
    refine W.ev S O a C h fun c₁ V v hs₁ s₁ l₁ C₁ W₁ R₁ h₁ => ?_
    rw [assign_star hok]
    exact asg_ok B S O a W₁ C₁ R₁ h₁ fun c₂ K₂ loc₂ hs₂ s₂ l₂ W₂ C₂ h₂ => P c₂ .next .next loc₂ hs₂ s₂ K₂ (l₁.trans l₂) W₂ C₂ rfl h₂
  by_cases hcomp : ∃ elt gens scope q x px, e = .ListComp elt gens scope q ∧ t = .Name x px
  · obtain ⟨elt, gens, scope, q, x, px, rfl, rfl⟩ := hcomp
    obtain ⟨b, hb⟩ : ∃ b, swapsWithSole [.Name x px] (.ListComp elt gens scope q) p.line env = pure b := ⟨_, rfl⟩
    cases b with
    | false => exact plain hb
    | true =>
      have hst : storable (sLook x sc) = true := by rw [← kind_look O.names, swaps_local hb]; rfl
      rw [arm_exec_Assign]
      refine wpAny_bind (wpAny_standAt ?_)
      rw [hb]
      refine wpAny_bind (wpAny_pure (wpT rfl (wpAny_bind (m := evalThenUse _ _ _) ?_)))
      exact U env sc _ elt gens scope q loc hs _ K₀ Kp c s A _ E x px O a W C h hst fun c' V v hs' s' Kq l W' C' hk => wpAny_pure (P c' .next .next _ hs' s' Kq l W' C' rfl (need_iff hk).2)
  · exact plain (swaps_no (and_t hok).1 fun elt gens scope q e1 x px e2 => hcomp ⟨elt, gens, scope, q, x, px, e1, e2⟩)
theorem aug_ok (B : BaseOK Z Fg) (S : SE Z d rec) (O : EnvOK env sc) (a : AOK d A) (W : FrameW Z K₀ Kp c env loc) (C : Core Z Kp c hs s) {t e : Expr} {op : Operator} {p : Pos} (h : augS Z.X sc (rec sc false) t op e loc hs K) (P : PostS Z K₀ env c K Q) :
    wpAny (model Z.P Z.w) A (exec (.AugAssign t op e p) env) Q E s := by
  cases t with
  | Name x q =>
    obtain ⟨hst, h⟩ := need_iff h
    refine wpAny_AugAssign_Name (load_ok O W.in_ (fun c₁ V₁ v₁ hs₁ s₁ l₁ C₁ R₁ h₁ => ?_) C hst h)
    refine (W.mono l₁).ev S O a C₁ h₁ fun c₂ V₂ v₂ hs₂ s₂ l₂ C₂ W₂ R₂ h₂ => ?_
    refine augV_ok (fun c₃ V₃ v₃ hs₃ s₃ l₃ C₃ R₃ h₃ => ?_) C₂ (R₁.mono l₂) R₂ h₂
    refine store_ok O (W₂.mono l₃) C₃ hst R₃ fun K₄ s₄ W₄ C₄ => ?_
    exact P c₃ .next .next _ hs₃ s₄ K₄ ((l₁.trans l₂).trans l₃) W₄ C₄ rfl h₃
  | Attribute o x q =>
    refine wpAny_AugAssign_AttributeAny (W.ev S O a C h fun c₁ V₁ v₁ hs₁ s₁ l₁ C₁ W₁ R₁ h₁ => ?_)
    refine getAttrV_ok B.cls (fun c₂ V₂ v₂ hs₂ s₂ l₂ C₂ R₂ h₂ => ?_) C₁ R₁ h₁
    refine (W₁.mono l₂).ev S O a C₂ h₂ fun c₃ V₃ v₃ hs₃ s₃ l₃ C₃ W₃ R₃ h₃ => ?_
    refine augV_ok (fun c₄ V₄ v₄ hs₄ s₄ l₄ C₄ R₄ h₄ => ?_) C₃ (R₂.mono l₃) R₃ h₃
    refine setAttrV_ok B.cls (fun c₅ hs₅ s₅ l₅ C₅ h₅ => ?_) C₄ (((R₁.mono l₂).mono l₃).mono l₄) R₄ h₄
    exact P c₅ .next .next loc hs₅ s₅ Kp ((((l₁.trans l₂).trans l₃).trans l₄).trans l₅) ((W₃.mono l₄).mono l₅) C₅ rfl h₅
  | Subscript o i q =>
    obtain ⟨hsl, h⟩ := need_iff h
    refine wpAny_AugAssign_SubscriptAny (W.ev S O a C h fun c₁ V₁ v₁ hs₁ s₁ l₁ C₁ W₁ R₁ h₁ => W₁.ev S O a C₁ h₁ fun c₂ V₂ v₂ hs₂ s₂ l₂ C₂ W₂ R₂ h₂ => ?_) (aug_store hsl)
    refine (itemV_ok (fun c₃ V₃ v₃ hs₃ s₃ l₃ C₃ R₃ h₃ => ?_) C₂ (R₁.mono l₂) R₂ h₂).1.1
    refine (W₂.mono l₃).ev S O a C₃ h₃ fun c₄ V₄ v₄ hs₄ s₄ l₄ C₄ W₄ R₄ h₄ => ?_
    refine augV_ok (fun c₅ V₅ v₅ hs₅ s₅ l₅ C₅ R₅ h₅ => ?_) C₄ (R₃.mono l₄) R₄ h₄
    refine setItemV_ok (fun c₆ hs₆ s₆ l₆ C₆ h₆ => ?_) C₅ ((((R₁.mono l₂).mono l₃).mono l₄).mono l₅) (((R₂.mono l₃).mono l₄).mono l₅) R₅ h₅
    exact P c₆ .next .next loc hs₆ s₆ Kp (((((l₁.trans l₂).trans l₃).trans l₄).trans l₅).trans l₆) ((W₄.mono l₅).mono l₆) C₆ rfl h₆
  | _ => exact False.elim h
theorem stepS_ok (B : BaseOK Z Fg) (S : SE Z d rec) (T : ST Z d rec) (U : SU Z d rec) (O : EnvOK env sc) (a : AOK d A) {rm : Bool} (SR : SS Z A env rs) : SS Z A env (stepS Z.X sc rm (fun m e => rec sc m e) rs) := by
  intro st loc hs K K₀ Kp c s Q E W C h P
  cases st with
  | Expr e p =>
    obtain ⟨hc, h⟩ := need_iff h
    exact wpAny_Expr_any (W.ev S O a C h fun c₁ V v hs₁ s₁ l₁ C₁ W₁ R₁ h₁ => P c₁ .next .next loc hs₁ s₁ Kp l₁ W₁ C₁ rfl h₁) (interactive_no O) (call_drops hc)
  | Pass p =>
    rw [arm_exec_Pass]
    exact wpAny_bind (wpAny_standAt (wpAny_pure (P c .next .next loc hs s Kp (.refl c) W C rfl h)))
  | Break p =>
    rw [arm_exec_Break]
    exact wpAny_bind (wpAny_standAt (wpAny_pure (P c .brk .brk loc hs s Kp (.refl c) W C rfl h)))
  | Continue p =>
    rw [arm_exec_Continue]
    exact wpAny_bind (wpAny_standAt (wpAny_pure (P c .cont .cont loc hs s Kp (.refl c) W C rfl h)))
  | Return o p => cases o with
    | none => exact wpAny_Return_none (P c (.ret (.d .none)) (.ret .none) loc hs s Kp (.refl c) W C ⟨.none, rfl, rfl⟩ h)
    | some e => exact wpAny_Return_some (W.ev S O a C h fun c₁ V v hs₁ s₁ l₁ C₁ W₁ R₁ h₁ => P c₁ (.ret V) (.ret v) loc hs₁ s₁ Kp l₁ W₁ C₁ ⟨v, rfl, R₁⟩ h₁)
  | Assign ts e p => rcases ts with _ | ⟨t, _ | ⟨t2, r⟩⟩
                     · exact False.elim h
                     · exact assign_ok B S U O a W C h P
                     · exact False.elim h
  | AugAssign t op e p => exact aug_ok B S O a W C h P
  | If t b1 b2 p =>
    rw [arm_exec_If]
    refine wpAny_bind (wpAny_standAt (wpAny_bind (T env sc t loc hs _ (fun b hs => br b (exL rs b1 loc hs K) (exL rs b2 loc hs K)) Kp c s A _ E O a W.in_ C h (fun v hs hv => hv) fun c₁ b hs₁ s₁ l₁ C₁ h₁ => ?_)))
    cases b with
    | true => exact wpI rfl (execs_ok SR (W.mono l₁) C₁ h₁ (P.up l₁))
    | false => exact wpN Bool.false_ne_true (execs_ok SR (W.mono l₁) C₁ h₁ (P.up l₁))
  | While t body els p =>
    obtain ⟨he, n, h1⟩ := need_iff h
    cases els with
    | cons _ _ => exact absurd he Bool.false_ne_true
    | nil => exact while_ok T O a SR W C h1 P
  | For t it body els p =>
    obtain ⟨he, h1⟩ := need_iff h
    obtain ⟨hset, h1⟩ := need_iff h1
    cases els with
    | cons _ _ => exact absurd he Bool.false_ne_true
    | nil => exact for_ok B S O a SR W C hset h1 P
  | _ => exact False.elim h
theorem evE_ok (B : BaseOK Z Fg) (SCC : SC Z d call) (SNN : SN Z d call) : ∀ n, SE Z d (evE Z.X call n) ∧ ST Z d (evE Z.X call n) ∧ SU Z d (evE Z.X call n)
  | 0 => ⟨fun _ _ _ _ _ _ _ _ _ _ _ _ _ _ _ _ _ h _ => False.elim h, fun _ _ _ _ _ _ _ _ _ _ _ _ _ _ _ _ _ h _ _ => False.elim h, fun _ _ _ _ _ _ _ _ _ _ _ _ _ _ _ _ _ _ _ _ _ _ _ h _ _ => False.elim h⟩
  | n + 1 => by
    obtain ⟨S, T, U⟩ := evE_ok B SCC SNN n
    have S' := stepE_ok B S SCC SNN (scomp_ok B S T) T
    exact ⟨S', stepT_ok S T S', su_ok B S T⟩
theorem evS_ok (B : BaseOK Z Fg) (S : SE Z d rec) (T : ST Z d rec) (U : SU Z d rec) (O : EnvOK env sc) (a : AOK d A) {rm : Bool} : ∀ n, SS Z A env (evS Z.X sc rm (fun m e => rec sc m e) n)
  | 0 => fun _ _ _ _ _ _ _ _ _ _ _ _ h _ => False.elim h
  | n + 1 => stepS_ok B S T U O a (evS_ok B S T U O a n)
end
end Mine
set_option genSizeOf false
set_option genInjectivity false
set_option maxRecDepth 100000
namespace Mine
open PySem PySem.W PySem.Calls PyProof.Rows

/-! ## calls -/
theorem lookS_push {α : Type} {x y : Str} {a : α} {acc : List (Str × α)} (h : (acc.lookup x).isSome = true ∨ x = y) : (((y, a) :: acc).lookup x).isSome = true := by
  rw [lookS_cons]
  by_cases e : x = y
  · rw [if_pos e]; rfl
  · rw [if_neg e]; exact h.resolve_right e
theorem cellsFrom_some {x : Str} : ∀ {ns : Names} {n : Nat} {acc : List (Str × Addr)}, ((acc.lookup x).isSome = true ∨ sLook x ns = some .cell) → ((cellsFrom n ns acc).lookup x).isSome = true
  | [], n, acc, h => h.elim id fun h => none_some h
  | (y, k) :: r, n, acc, h => by
    rw [sLook_cons] at h
    by_cases e : x = y
    · rw [if_pos e] at h
      cases k with
      | cell => exact cellsFrom_some (ns := r) (n := n + 1) (.inl (lookS_push (.inr e)))
      | _ => exact cellsFrom_some (ns := r) (n := n) (.inl (h.resolve_right fun q => nomatch some_eq q))
    · rw [if_neg e] at h
      cases k with
      | cell => exact cellsFrom_some (ns := r) (n := n + 1) (h.imp_left fun h => lookS_push (.inl h))
      | _ => exact cellsFrom_some (ns := r) (n := n) h
theorem bindL_not {kd : Str → Option NameKind} {x : Str} : ∀ {ns : List Str} {ws : List Value} {m : Str → Option Value}, x ∉ ns → bindL kd (ns.zip ws) m x = m x
  | [], _, _, _ => rfl
  | _ :: _, [], _, _ => rfl
  | n :: ns, w :: ws, m, h => by
    refine (bindL_not (ns := ns) (ws := ws) fun q => h (.tail _ q)).trans ?_
    by_cases q : kd n = some .local
    · rw [if_pos q]; exact if_neg fun (e : x = n) => h (e ▸ .head _)
    · rw [if_neg q]
theorem bindC_not {kd : Str → Option NameKind} {x : Str} : ∀ {ns : List Str} {ws : List Value} {m : Str → Option Value}, x ∉ ns → bindC kd (ns.zip ws) m x = m x
  | [], _, _, _ => rfl
  | _ :: _, [], _, _ => rfl
  | n :: ns, w :: ws, m, h => by
    refine (bindC_not (ns := ns) (ws := ws) fun q => h (.tail _ q)).trans ?_
    by_cases q : kd n = some .local
    · rw [if_pos q]
    · rw [if_neg q]; exact if_neg fun (e : x = n) => h (e ▸ .head _)
theorem nodupS_not {n : Str} {ns : List Str} (h : nodupS (n :: ns) = true) : n ∉ ns := fun w => by
  have h := (and_t h).1
  rw [sMem_iff.mpr w] at h
  exact ff h
theorem bindL_is {kd : Str → Option NameKind} {x : Str} {v : Value} (hk : kd x = some .local) : ∀ {ns : List Str} {ws : List Value} {m : Str → Option Value}, nodupS ns = true → (ns.zip ws).lookup x = some v → bindL kd (ns.zip ws) m x = some v
  | [], _, _, _, h => none_some h
  | _ :: _, [], _, _, h => none_some h
  | n :: ns, w :: ws, m, hn, h => by
    have h2 := (lookS_cons (r := ns.zip ws)).symm.trans h
    by_cases q : x = n
    · rw [if_pos q] at h2
      cases q
      refine (bindL_not (nodupS_not hn)).trans ?_
      rw [if_pos hk]
      exact (if_pos rfl).trans h2
    · rw [if_neg q] at h2; exact bindL_is (ns := ns) hk (and_t hn).2 h2
theorem bindC_is {kd : Str → Option NameKind} {x : Str} {v : Value} (hk : kd x ≠ some .local) : ∀ {ns : List Str} {ws : List Value} {m : Str → Option Value}, nodupS ns = true → (ns.zip ws).lookup x = some v → bindC kd (ns.zip ws) m x = some v
  | [], _, _, _, h => none_some h
  | _ :: _, [], _, _, h => none_some h
  | n :: ns, w :: ws, m, hn, h => by
    have h2 := (lookS_cons (r := ns.zip ws)).symm.trans h
    by_cases q : x = n
    · rw [if_pos q] at h2
      cases q
      refine (bindC_not (nodupS_not hn)).trans ?_
      rw [if_neg hk]
      exact (if_pos rfl).trans h2
    · rw [if_neg q] at h2; exact bindC_is (ns := ns) hk (and_t hn).2 h2

structure FnObj (Z : Stat) (F : Fn) (fd : FuncData) (a : Addr) : Prop where
  at_ : ∃ o, Z.G₀ a = some o ∧ o.data = .func fd
  body : fd.body = .stmts F.body
  scope : fd.scope = F.scope
  glob : fd.globals = mainGlobals
  blt : fd.builtins = builtinsNs
  clo : fd.closure = []
  code : ∀ h, Sub Z.G₀ h → h.CodeRec fd.code fd.qualname
structure FnsOK (Z : Stat) : Prop where
  fn : ∀ m x a F, Z.fa m x = some a → fnOf Z.X m x = some F → ∃ fd, FnObj Z F fd a ∧ ∀ ns, argNs F.args = some ns → ∀ (s : Shared) (ws : List Value), Sub Z.G₀ s.heap → ws.length = ns.length → BindsTo s fd ⟨ws, []⟩ (ns.zip ws)

section
variable {Z : Stat} {K₀ Kp Kq Kr Ks : Addr → Option Obj} {c : Cn} {hs : Hs} {s : Shared} {A : Around} {E : Value → Shared → Prop} {tk : Nat} {ia : List Addr} {g : Option (Nat × D)} {Fg : Frag} {env : Env} {sc : Names} {loc : Loc} {d : Nat} {rec : RecE} {call : CallR} {K : KE} {R : Result → Shared → Prop}

theorem zip_loc : ∀ {ns : List Str} {Vs : List V} {ws : List Value} {loc : Loc}, zipA ns Vs = some loc → RepVs Z c Vs ws → ws.length = ns.length ∧ ∀ x V, sLook x loc = some V → ∃ v, (ns.zip ws).lookup x = some v ∧ RepV Z c V v
  | [], [], ws, loc, h, R => by
    cases h
    cases (R : ws = [])
    exact ⟨rfl, fun x V h => none_some h⟩
  | n :: ns, V :: Vs, ws, loc, h, R => by
    obtain ⟨l, e, h⟩ := optB_iff h
    cases some_eq h
    obtain ⟨v, r, rfl, R1, R2⟩ := R
    obtain ⟨i1, i2⟩ := zip_loc e R2
    refine ⟨congrArg Nat.succ i1, fun x U hx => ?_⟩
    rw [sLook_cons] at hx
    rw [show ((n :: ns).zip (v :: r)).lookup x = _ from lookS_cons]
    by_cases q : x = n
    · rw [if_pos q] at hx ⊢; exact ⟨v, rfl, some_eq hx ▸ R1⟩
    · rw [if_neg q] at hx ⊢; exact i2 x U hx
  | [], _ :: _, _, _, h, _ => none_some h
  | _ :: _, [], _, _, h, _ => none_some h
theorem noFree_look {x : Str} : ∀ {ns : Names}, noFree ns = true → sLook x ns ≠ some .free
  | [], _ => fun h => none_some h
  | (y, k) :: r, h => fun e => by
    obtain ⟨h1, h2⟩ := and_t h
    rw [sLook_cons] at e
    by_cases q : x = y
    · rw [if_pos q] at e; cases some_eq e; exact ff h1
    · rw [if_neg q] at e; exact noFree_look h2 e
theorem okParams_mem {ns : Names} : ∀ {ps : List Str}, okParams ns ps = true → ∀ x ∈ ps, storable (sLook x ns) = true
  | [], _, x, hx => nomatch hx
  | p :: ps, h, x, hx => (List.mem_cons.mp hx).elim (fun q => q ▸ (and_t h).1) fun hx => okParams_mem (and_t h).2 x hx
theorem AOK.down (a : AOK (d + 1) A) : AOK d (A.deeper env) := by
  have h1 := a.depth
  have h2 := a.units
  refine ⟨a.handled, ?_, ?_⟩
  · show A.depth + 1 + 4 * d + 4 < recursionLimit
    lia
  · show A.units + 3 + 40 * d + 40 < cLine
    lia
/-- what is asked of a def -/
structure OkF (F : Fn) (ns : List Str) : Prop where
  nodup : nodupS ns = true
  kind : F.scope.kind = .function
  co : F.scope.isCoroutine = false
  gen : F.scope.isGenerator = false
  free : noFree F.scope.names = true
  dbg : sLook "__debug__" F.scope.names = none
  params : okParams F.scope.names ns = true
theorem okFn_iff {F : Fn} {ns : List Str} (h : okFn F ns = true) : OkF F ns := by
  obtain ⟨h, h8⟩ := and_t h
  obtain ⟨h, h7⟩ := and_t h
  obtain ⟨h, _⟩ := and_t h
  obtain ⟨h, h5⟩ := and_t h
  obtain ⟨h, h4⟩ := and_t h
  obtain ⟨h, h3⟩ := and_t h
  obtain ⟨h1, h2⟩ := and_t h
  exact ⟨h1, isFn_eq h2, not_t h3, not_t h4, h5, Option.isNone_iff_eq_none.mp h7, h8⟩
/-- where the frame's own parts stand -/
noncomputable def frameAt (env : Env) : List Addr := env.locals :: env.cells.filterMap fun p => env.cells.lookup p.1
theorem in_frame {x : Str} {ca : Addr} (e : env.cells.lookup x = some ca) : ca ∈ frameAt env := .tail _ (List.mem_filterMap.mpr ⟨(x, ca), mem_of_lookup e, e⟩)
theorem frame_cases {P : Prop} {b : Addr} (h : b ∈ frameAt env) (h1 : b = env.locals → P) (h2 : ∀ x, env.cells.lookup x = some b → P) : P :=
  (List.mem_cons.mp h).elim h1 fun h => let ⟨p, _, e⟩ := List.mem_filterMap.mp h; h2 p.1 e
theorem frame_ok (C : Core Z Kp c hs s) {s₁ : Shared} {ns : List Str} {ws : List Value} {Vs : List V} (RV : RepVs Z c Vs ws) (hloc : zipA ns Vs = some loc) (hnd : nodupS ns = true) (O : EnvOK env sc) (hfr : ∀ x, env.kindOf x ≠ some .free)
    (X : InCallC s env.locals (bindL env.kindOf (ns.zip ws) fun _ => none) env.cells (bindC env.kindOf (ns.zip ws) fun _ => none) s₁) : ∃ Kq, FrameW Z Kp Kq c env loc ∧ Core Z Kq c hs s₁ := by
  obtain ⟨⟨⟨h', tk', rfl⟩, hns, hkeep, hfresh⟩, hcell, hap, habove⟩ := X
  obtain ⟨hlen, hlook⟩ := zip_loc hloc RV
  have hcells : ∀ x, env.kindOf x = some .cell → ∃ ca, env.cells.lookup x = some ca := fun x hx => Option.isSome_iff_exists.mp (O.cells x (.inl hx))
  have fresh0 : ∀ b, s.heap.objs.size ≤ b → Kp b = none := fun b hb => none_of_fresh C.kp (fresh_ge hb)
  have above : ∀ x ca, env.cells.lookup x = some ca → s.heap.objs.size ≤ ca ∧ ca ≠ env.locals := fun x ca e =>
    have hlo := habove x ca (mem_of_lookup e)
    ⟨Nat.le_trans hfresh (Nat.le_of_lt hlo), Nat.ne_of_gt hlo⟩
  obtain ⟨o', es, ep, e1, e2, e3, e4⟩ := hns
  have newAt : ∀ b ∈ frameAt env, s.heap.objs.size ≤ b := fun b hb => frame_cases hb (fun q => q ▸ hfresh) fun x e => (above x b e).1
  have hereAt : ∀ b ∈ frameAt env, (h'.get? b).isSome = true := fun b hb => frame_cases hb (fun q => by rw [q, e1]; rfl) fun x e => let ⟨o, e, _⟩ := hcell x b e; by rw [e]; rfl
  have C₁ : Core Z (heapK (frameAt env) h' Kp) c hs { s with heap := h', toks := tk' } := C.upK (upsK h' hereAt) (fun b hb => .inr (fresh_ge (newAt b hb))) (fun b o _ e => hkeep b o e) fun b hb => (heapK_in hb).symm
  refine ⟨_, ⟨⟨⟨o', es, ep, (heapK_in (.head _)).trans e1, e2, e3, fun x V e hx => ?_⟩, fun x V e hx => ?_⟩, fun b ob e => ?_, fresh0 _ hfresh, fun x hx => ?_, fun x y ca hx hy e1 e2 => name_of_addr hap (mem_of_lookup e1) (mem_of_lookup e2), hfr⟩, C₁⟩
  · obtain ⟨v, j2, j3⟩ := hlook x V e
    exact ⟨v, (e4 x).trans (bindL_is hx hnd j2), j3⟩
  · obtain ⟨v, j2, j3⟩ := hlook x V e
    have hx := hx.resolve_right (hfr x)
    obtain ⟨ca, hca⟩ := hcells x hx
    obtain ⟨o2, f1, f2⟩ := hcell x ca hca
    rw [bindC_is (by rw [hx]; exact fun q => nomatch some_eq q) hnd j2] at f2
    exact ⟨ca, v, o2, hca, (heapK_in (in_frame hca)).trans f1, f2, j3⟩
  · exact (show heapK (frameAt env) h' Kp b = Kp b from if_neg fun q => no2 (fresh0 b (newAt b q)) e).trans e
  · obtain ⟨ca, hca⟩ := hcells x hx
    obtain ⟨o2, f1, f2⟩ := hcell x ca hca
    exact ⟨ca, o2, _, hca, (heapK_in (in_frame hca)).trans f1, f2, fresh0 ca (above x ca hca).1, (above x ca hca).2⟩
theorem call_body (B : BaseOK Z Fg) (a : AOK (d + 1) A) (C : Core Z Kp c hs s) {F : Fn} {fd : FuncData} {ad : Addr} (FO : FnObj Z F fd ad) {args : Args} {ns : List Str} {ws : List Value} {Vs : List V}
    (hbind : BindsTo s fd args (ns.zip ws)) (RV : RepVs Z c Vs ws) (hloc : zipA ns Vs = some loc) (hok : okFn F ns = true) {KS' : KS}
    (H : ∀ env, EnvOK env F.scope.names → env.code = fd.code → env.qual = fd.qualname ++ ".<locals>." → ∀ Kq s₁ Q E, FrameW Z Kp Kq c env loc → Core Z Kq c hs s₁ → PostS Z Kp env c KS' Q → wpAny (model Z.P Z.w) (A.deeper env) (execs F.body env) Q E s₁)
    (k : ∀ c' f F' hs' s' loc', c.le c' → Core Z Kp c' hs' s' → RepF Z c' f F' → KS' f loc' hs' → R (.ok (.ret (match F' with | .ret v => v | _ => .none))) s') :
    codeAny (model Z.P Z.w) A (.call (.ref ad) args) R s := by
  have ok := okFn_iff hok
  obtain ⟨⟨o, hG, hdata⟩, hbody, hscope, hglob, hblt, hclo, hcode⟩ := FO
  have sub : Sub Z.G₀ s.heap := fun b o e => C.sub _ _ (C.base _ _ e)
  have hroom : A.depth < recursionLimit := Nat.lt_of_le_of_lt (Nat.le_add_right _ _) (Nat.lt_of_le_of_lt (Nat.le_add_right _ _) a.depth)
  refine codeAny_call_function hroom (sub _ _ hG) hdata (by rw [hscope]; exact ok.co) (by rw [hscope]; exact ok.gen) hbody (hcode _ sub) (hbind _ _ _ _ ?_)
  rw [hclo, hscope, hglob, hblt]
  refine wpAny_newFunctionEnv_cells ok.kind (fun p hp => ?_) fun env he s₁ X => ?_
  · have e := storable_iff (okParams_mem ok.params p.1 (List.of_mem_zip hp).1)
    rw [← sLook_eq]
    exact e.imp id fun e => ⟨e, cellsFrom_some (.inr e)⟩
  refine ⟨(B.nolim _ sub).keeps X.toInCall.keep, codeAny_func ?_⟩
  have hkk : ∀ x, env.kindOf x = sLook x F.scope.names := fun x => kind_look (by rw [he]; rfl) x
  have O : EnvOK env F.scope.names := by
    refine ⟨by rw [he]; rfl, by rw [he]; exact ok.kind, by rw [he]; rfl, by rw [he]; rfl, ok.dbg, fun x hx => ?_⟩
    rw [hkk] at hx
    rw [he]
    exact cellsFrom_some (.inr (hx.resolve_right (noFree_look ok.free)))
  obtain ⟨Kq, W, C₁⟩ := frame_ok C RV hloc ok.nodup O (fun x => by rw [hkk]; exact noFree_look ok.free) X
  exact H env O (by rw [he]; rfl) (by rw [he]; rfl) _ _ _ _ W C₁ fun c₂ f F₂ loc₂ hs₂ s₂ K₂ l₂ W₂ C₂ R₂ h₂ => k c₂ f F₂ hs₂ s₂ loc₂ l₂ (C₂.forget W₂.le) R₂ h₂
end
end Mine
set_option genSizeOf false
set_option genInjectivity false
set_option maxRecDepth 100000
namespace Mine
open PySem PySem.W PySem.Calls PyProof.Rows

/-! ## the method that makes a lambda -/
/-- what stands in the heap for it -/
structure WrapOK (Z : Stat) (W : WrapP) (w : WrapI) : Prop where
  hd : ∀ h, Sub Z.G₀ h → CodeHd h w.cc w.tb
  gl : ∀ h, Sub Z.G₀ h → ∃ mg, h.Ns mainGlobals mg ∧ h.BuiltinsAt mg w.tb
  ne : mainGlobals ≠ w.tb
  pos : W.lp = w.pos
  bind : ∀ (s : Shared) (q : Str) (cl : List (Str × Addr)) (pm cv ct v : Value), BindsTo s (kla_fn "<lambda>" q W.as W.lb W.lsc cl pm cv ct) ⟨[v], []⟩ [(W.xn, v)]
  dflt : ∀ env, defaultsOf W.as env = ([], [])

section
variable {Z : Stat} {K₀ Kp Kq Kr Ks : Addr → Option Obj} {c : Cn} {hs : Hs} {s : Shared} {A : Around} {E : Value → Shared → Prop} {tk : Nat} {Fg : Frag} {env : Env} {sc : Names} {loc : Loc} {d : Nat} {rec : RecE} {call : CallR} {K : KE} {Q : Value → Shared → Prop}

theorem lam_frame (C : Core Z Kp c hs s) (O : EnvOK env sc) (FI : FrameIn Z Kp c env loc) {scope : Scope} (ok : OkC sc scope) {env' : Env} (hn : env'.scope.names = scope.names) (hcl : env'.cells = clsF env scope.names [])
    {x : Str} {V : V} {v : Value} (R : RepV Z c V v) {o : Obj} {es : Array DictEntry} {ep : Nat} (e2 : o.data = .dict es ep) (e3 : StrKeys es) (e4 : nsFind es x = some v) (fr : Kp env'.locals = none) (hx : sLook x scope.names = some .local) :
    FrameIn Z (updK Kp env'.locals o) c env' ((x, V) :: dropNames scope.names loc) := by
  refine ⟨⟨o, es, ep, if_pos rfl, e2, e3, fun y U e hy => ?_⟩, fun y U e hy => ?_⟩
  · rw [kind_look hn] at hy
    rw [sLook_cons] at e
    by_cases q : y = x
    · rw [if_pos q] at e
      exact ⟨v, q ▸ e4, some_eq e ▸ R⟩
    · rw [if_neg q] at e
      have := (drop_look e).2
      rw [hy] at this
      exact ff this.symm
  · rw [kind_look hn] at hy
    have hf : sLook y scope.names = some .free := by
      rcases hy with hy | hy
      · rcases okNames_mem ok.names _ (look_mem hy) with q | q | q <;> exact nomatch q
      · exact hy
    rw [sLook_cons] at e
    by_cases q : y = x
    · rw [q, hx] at hf; exact nomatch some_eq hf
    · rw [if_neg q] at e
      obtain ⟨a, u, ob, f1, f2, f3, f4⟩ := FI.cell y U (drop_look e).1 (by rw [kind_look O.names]; exact freeOK_look ok.free hf)
      obtain ⟨a', ha'⟩ := Option.isSome_iff_exists.mp (clsF_some (env := env) (cs := []) (.inr (look_mem hf)))
      have ha : a' = a := (clsF_look ha').elim (fun h => none_some h) fun h => by rw [h, f1]; rfl
      exact ⟨a, u, ob, by rw [hcl, ha', ha], (upd_ne (ne_of fr f2)).trans f2, f3, f4⟩
theorem lam_call (S0 : SE Z d rec) (a : AOK (d + 1) A) (nolim : ∀ h, Sub Z.G₀ h → h.NoLimit) (O : EnvOK env sc) (FI : FrameIn Z Kp c env loc) (C : Core Z Kp c hs s) {W : WrapP} {w : WrapI} (WO : WrapOK Z W w) (ok : OkC sc W.lsc) (hco : W.lsc.isCoroutine = false) (hgen : W.lsc.isGenerator = false)
    (hx : locK (sLook W.xn W.lsc.names) = true) {f c' : Addr} {q : Str} {pm ctv : Value} (gf : c.G f = some (kla_obj "<lambda>" q W.as W.lb W.lsc (clsF env W.lsc.names []) pm c' ctv)) (hcd : s.heap.CodeRec (.ref c') q) {V : V} {v : Value} (R : RepV Z c V v)
    (h : rec W.lsc.names false W.lb ((W.xn, V) :: dropNames W.lsc.names loc) hs K) (P : Post Z Kp c K Q) :
    codeAny (model Z.P Z.w) A (.call (.ref f) ⟨[v], []⟩) (fun r s' => match r with | .ok (.ret v) => Q v s' | .ok _ => False | .error e => E e s') s := by
  have hroom : A.depth < recursionLimit := Nat.lt_of_le_of_lt (Nat.le_add_right _ _) (Nat.lt_of_le_of_lt (Nat.le_add_right _ _) a.depth)
  have hl := locK_eq hx
  refine kla_callFunE hroom (C.sub _ _ gf) rfl hco hgen rfl hcd (WO.bind s q _ pm (.ref c') ctv v _ _ _ _ (wpAny_newFunctionEnv (fun p hp e => ?_) (fun p hp => ?_) (fun h₁ hns hsb => ?_) ok.kind))
  · rcases okNames_mem ok.names p hp with q | q | q <;> exact nomatch q.symm.trans e
  · rw [List.mem_singleton.mp hp, ← sLook_eq]; exact hl
  have kk : ∀ b o, s.heap.get? b = some o → h₁.get? b = some o := fun b o e => hsb.extBut b o (fun q => no2 (fresh_size _) (q ▸ e)) (Heap.get?_push_of_some _ e)
  obtain ⟨o, es, ep, e1, e2, e3, e4⟩ := hns
  have fr : Kp s.heap.objs.size = none := none_of_fresh C.kp (fresh_size _)
  have C₁ : Core Z (updK Kp s.heap.objs.size o) c hs { s with heap := h₁, toks := s.toks + 1 } := C.newK kk (fresh_size _) e1
  refine ⟨nolim _ fun b o e => C₁.sub _ _ (C₁.base _ _ e), kla_codeExpr ?_⟩
  have FI' := lam_frame C O FI ok (env' := newEnv W.lsc s.heap.objs.size mainGlobals (clsF env W.lsc.names []) (q ++ ".<locals>.") (some f) (.ref c') none builtinsNs) rfl rfl R e2 e3
    ((e4 W.xn).trans (by show List.lookup W.xn [(W.xn, v)] = _; rw [lookS_cons, if_pos rfl])) fr hl
  have O' : EnvOK (newEnv W.lsc s.heap.objs.size mainGlobals (clsF env W.lsc.names []) (q ++ ".<locals>.") (some f) (.ref c') none builtinsNs) W.lsc.names := by
    refine ⟨rfl, ok.kind, rfl, rfl, ok.dbg, fun x hx => ?_⟩
    rw [kind_look (sc := W.lsc.names) rfl] at hx
    refine clsF_some (.inr (look_mem ?_))
    rcases hx with hx | hx
    · rcases okNames_mem ok.names _ (look_mem hx) with q | q | q <;> exact nomatch q
    · exact hx
  refine S0.ev O' a.down FI' C₁ h fun c₂ V₂ v₂ hs₂ s₂ l₂ C₂ _ R₂ h₂ => ?_
  exact P c₂ V₂ v₂ hs₂ s₂ l₂ (C₂.forget fun b o e => (upd_ne (ne_of fr e)).trans e) R₂ h₂
theorem lam_make (C : Core Z Kp c hs s) (O : EnvOK env sc) {W : WrapP} {w : WrapI} (hcode : env.code = .ref w.cc) (hw : Z.wrap = some w) (WO : WrapOK Z W w) (ok : OkC sc W.lsc) (hq : env.qual ++ "<lambda>" = w.qual)
    (k : ∀ c' f c₁ pm ctv s', c.le c' → Core Z Kp c' hs s' → c'.G f = some (kla_obj "<lambda>" w.qual W.as W.lb W.lsc (clsF env W.lsc.names []) pm c₁ ctv) → (∀ h, Sub c'.G h → h.CodeRec (.ref c₁) w.qual) → Q (.ref f) s') :
    wpAny (model Z.P Z.w) A (eval (.Lambda W.as W.lb W.lsc W.lp) env) Q E s := by
  refine kla_eval (WO.dflt env) ?_
  rw [hq, WO.pos]
  have sub : Sub Z.G₀ s.heap := fun b o e => C.sub _ _ (C.base _ _ e)
  obtain ⟨mg, hg, hb⟩ := WO.gl _ sub
  have hcl := closure_is O.names O.cells W.lsc ok.free
  obtain ⟨o, ho, ht⟩ := C.tabAt hw
  cases ht with
  | nil e =>
    refine kla_makeFunction (ps := #[]) hcl O.glob hg hcode (WO.hd _ sub) (ho.trans (congrArg some e)) trivial rfl WO.ne hb fun c₁ ctv h' tk hx hge hlt hrec htb => ?_
    obtain ⟨c₂, oc, vs, t, e2, hoc, hd, hv⟩ := hrec
    cases e2
    obtain ⟨C₁, l₁⟩ := C.setT (tk := tk) hw (fresh_ge hge) hoc (fun b o hb e => hx b o hb e) htb (.one c₁ oc vs t rfl (Cn.addG_get _ _ _) hd hv)
    have e3 : (h'.push (kla_obj "<lambda>" w.qual W.as W.lb W.lsc (clsF env W.lsc.names []) ((mg "__name__").getD .none) c₁ ctv)).get? h'.objs.size = some _ := Heap.get?_push_size _ rfl
    obtain ⟨C₂, l₂⟩ := C₁.newG (tk := tk) (fun b o e => Heap.get?_push_of_some _ e) (fresh_size _) e3
    exact k _ _ c₁ _ ctv _ (l₁.trans l₂) C₂ (Cn.addG_get _ _ _) fun h hs => ⟨c₁, oc, vs, t, rfl, hs _ _ (l₂.g _ _ (Cn.addG_get _ _ _)), hd, hv⟩
  | one c₁ oc vs t e g hd hv =>
    refine kla_makeFunctionHit (ps := #[rawInt w.pos.line, rawInt w.pos.col, .ref c₁]) hcl O.glob hg hcode (WO.hd _ sub) (ho.trans (congrArg some e)) trivial (if_pos (by rw [beq_self_eq_true, beq_self_eq_true]; rfl)) hb fun ctv h' tk hx hsz => ?_
    have e3 : (h'.push (kla_obj "<lambda>" w.qual W.as W.lb W.lsc (clsF env W.lsc.names []) ((mg "__name__").getD .none) c₁ ctv)).get? h'.objs.size = some _ := Heap.get?_push_size _ rfl
    obtain ⟨C₂, l₂⟩ := C.newG (tk := tk) (fun b o e => Heap.get?_push_of_some _ (hx b o e)) (fresh_ge hsz) e3
    exact k _ _ c₁ _ ctv _ l₂ C₂ (Cn.addG_get _ _ _) fun h hs => ⟨c₁, oc, vs, t, rfl, hs _ _ (l₂.g _ _ g), hd, hv⟩
theorem AOK.le (a : AOK (d + 1) A) : AOK d A := by
  have h1 := a.depth
  have h2 := a.units
  exact ⟨a.handled, by lia, by lia⟩
/-- the block's namespace, with the lambda's name -/
inductive WIn (Kp : Addr → Option Obj) (env : Env) (x : Str) (v : Value) : Prop
  | mk (o : Obj) (es : Array DictEntry) (ep : Nat) (h1 : Kp env.locals = some o) (h2 : o.data = .dict es ep) (h3 : StrKeys es) (h4 : nsFind es x = some v) : WIn Kp env x v
theorem store_raw (O : EnvOK env sc) (W : FrameW Z K₀ Kp c env loc) (C : Core Z Kp c hs s) {x : Str} {v : Value} (hk : env.kindOf x = some .local) (hl : sLook x loc = none) {Q : Unit → Shared → Prop}
    (k : ∀ Kq s', FrameW Z K₀ Kq c env loc → Core Z Kq c hs s' → WIn Kq env x v → Q () s') : wpAny (model Z.P Z.w) A (storeName env x v) Q E s := by
  have hp : (env.scope.kind == .class || (env.scope.kind == .module && env.locals != env.globals)) = false := by rw [O.kind]; rfl
  obtain ⟨o, es, ep, h1, h2, h3, h4⟩ := W.in_.ns
  refine wpAny_storeName_local hk ⟨o, es, ep, C.kp _ _ h1, h2, h3, fun n => rfl⟩ (fun h' hn hsb => ?_) hp
  obtain ⟨o', es', ep', e1, e2, e3, e4⟩ := hn
  have U : Ups [env.locals] Kp (updK Kp env.locals o') := ups_upd
  refine k _ _ ⟨⟨⟨o', es', ep', if_pos rfl, e2, e3, fun y V e hy => ?_⟩, fun y V e hy => ?_⟩, fun b o e => (U.same b (not_mem1 (ne_of W.freeL e))).trans (W.le b o e), W.freeL, fun y hy =>
    let ⟨a', o', v', g1, g2, g3, g4, g5⟩ := W.cells y hy; ⟨a', o', v', g1, (U.same a' (not_mem1 g5)).trans g2, g3, g4, g5⟩, W.apart, W.nofree⟩ (C.setK (tk := s.toks + 1) h1 (fun b o hb e => hsb.extBut b o hb e) e1)
    ⟨o', es', ep', if_pos rfl, e2, e3, (e4 x).trans (if_pos rfl)⟩
  · rw [show _ = if y = x then some v else _ from e4 y, if_neg fun q => no2 hl (q ▸ e)]
    exact h4 y V e hy
  · obtain ⟨a, u, ob, f1, f2, f3, f4⟩ := W.in_.cell y V e hy
    exact ⟨a, u, ob, f1, (upd_ne fun (r : a = env.locals) => by rw [r, h1] at f2; rw [← some_eq f2, h2] at f3; exact nomatch f3).trans f2, f3, f4⟩
/-- the lambda, called -/
theorem inner_ok (S : SE Z d rec) {rec0 : RecE} (S0 : SE Z d rec0) (nolim : ∀ h, Sub Z.G₀ h → h.NoLimit) (O : EnvOK env sc) (a : AOK (d + 1) A) (FI : FrameIn Z Kp c env loc) (C : Core Z Kp c hs s) {W : WrapP} {w : WrapI} (WO : WrapOK Z W w) (ok : OkC sc W.lsc) (hco : W.lsc.isCoroutine = false) (hgen : W.lsc.isGenerator = false)
    (hx : locK (sLook W.xn W.lsc.names) = true) {f c₁ : Addr} {pm ctv : Value} (hk : env.kindOf W.wn = some .local) (hI : WIn Kp env W.wn (.ref f)) (gf : c.G f = some (kla_obj "<lambda>" w.qual W.as W.lb W.lsc (clsF env W.lsc.names []) pm c₁ ctv)) (hcd : ∀ h, Sub c.G h → h.CodeRec (.ref c₁) w.qual) (ha : okArgsE [W.ea] = true)
    (h : rec sc false W.ea loc hs fun v hs => rec0 W.lsc.names false W.lb ((W.xn, v) :: dropNames W.lsc.names loc) hs K) (P : Post Z Kp c K Q) : wpAny (model Z.P Z.w) A (eval W.inner env) Q E s := by
  have he : eval W.inner env = (do callWith W.ip (← eval (.Name W.wn W.np') env) [] (backTo W.ip (starEach [W.ea] env)) (backToKw W.ip (keywordEach [] env))) := rfl
  have hdb : (W.wn == ("__debug__" : Str)) = false := lookup_ne (by have := hk; unfold Env.kindOf at this; rw [O.names] at this; exact this) O.nodebug
  obtain ⟨o, es, ep, h1, h2, h3, h4⟩ := hI
  rw [he]
  refine wpAny_bind (wpAny_Name (wpAny_loadName_local O.kind hk ⟨o, es, ep, C.kp _ _ h1, h2, h3, fun n => rfl⟩ h4 ?_) hdb)
  refine callWith_ok S O a.le FI (C.toks (tk := s.toks)) (K := fun Vs hs => optP (one Vs) fun v => rec0 W.lsc.names false W.lb ((W.xn, v) :: dropNames W.lsc.names loc) hs K) (okArgsE_iff ha).1 h (fun c' Vs hs' s' l C' _ => ?_) fun c' Vs vs hs' s' l C' R h' => ?_
  · refine ⟨.frame, .inl rfl, (Looks.ld (part := none) (C'.sub _ _ (l.g _ _ gf))).andThen ?_⟩
    exact .now
  · obtain ⟨v, e, h'⟩ := optP_iff h'
    rw [one_eq e] at R
    obtain ⟨u, r, rfl, R1, rfl⟩ := R
    exact wpAny_call (lam_call S0 a nolim O (FI.mono l) C' WO ok hco hgen hx (l.g _ _ gf) (hcd _ fun b o e => C'.sub _ _ (l.g _ _ e)) R1 h' (P.up l))
/-- what is asked of such a method -/
structure OkW (W : WrapP) (sc : Names) (loc : Loc) : Prop where
  comp : OkC sc W.lsc
  co : W.lsc.isCoroutine = false
  gen : W.lsc.isGenerator = false
  wn : locK (sLook W.wn sc) = true
  new : sLook W.wn loc = none
  xn : locK (sLook W.xn W.lsc.names) = true
  i : okArgsE [W.inner] = true
  a : okArgsE [W.ea] = true
  b : okBase W.o = true
  l : Nat.beq W.ap.endLine W.cp.line = true
theorem okWrap_iff {W : WrapP} (h : okWrap W sc loc = true) : OkW W sc loc := by
  obtain ⟨h, h8⟩ := and_t h
  obtain ⟨h, h7⟩ := and_t h
  obtain ⟨h, h6⟩ := and_t h
  obtain ⟨h, h5⟩ := and_t h
  obtain ⟨h, h4⟩ := and_t h
  obtain ⟨h, h3⟩ := and_t h
  obtain ⟨h1, h2⟩ := and_t h
  obtain ⟨g, g2⟩ := and_t h1
  obtain ⟨_, g1⟩ := and_t g
  exact ⟨okComp_iff h1, not_t g1, not_t g2, h2, Option.isNone_iff_eq_none.mp h3, h4, h5, h6, h7, h8⟩
theorem wcall_ok (B : BaseOK Z Fg) (S : SE Z d rec) (SCC : SC Z d call) {rec0 : RecE} (S0 : SE Z d rec0) (O : EnvOK env sc) (a : AOK (d + 1) A) (FI : FrameIn Z Kp c env loc) (C : Core Z Kp c hs s) {W : WrapP} {w : WrapI} (WO : WrapOK Z W w) (ok : OkW W sc loc)
    {f c₁ : Addr} {pm ctv : Value} (hI : WIn Kp env W.wn (.ref f)) (gf : c.G f = some (kla_obj "<lambda>" w.qual W.as W.lb W.lsc (clsF env W.lsc.names []) pm c₁ ctv)) (hcd : ∀ h, Sub c.G h → h.CodeRec (.ref c₁) w.qual)
    (h : rec sc false W.o loc hs fun ov hs => optP (tgOf Z.X ov W.x hs) fun t => rec sc false W.ea loc hs fun v hs => rec0 W.lsc.names false W.lb ((W.xn, v) :: dropNames W.lsc.names loc) hs fun u hs => callTg call false t [u] hs K) (P : Post Z Kp c K Q) :
    wpAny (model Z.P Z.w) A (eval (.Call (.Attribute W.o W.x W.ap) [W.inner] [] W.cp) env) Q E s := by
  rw [arm_eval_Call, okBase_base ok.b]
  refine wpAny_bind (S.ev O a.le FI C h fun c₁ V₁ v₁ hs₁ s₁ l₁ C₁ F₁ R₁ h₁ => wpAny_bind (wpAny_standAt ?_))
  obtain ⟨t, ht, h₁⟩ := optP_iff h₁
  refine methodCall_ok (m := false) B SCC a.le (P.up l₁) C₁ ok.i ok.l R₁ ht fun Q' hq => ?_
  refine wpAny_items_cons (e := W.inner) (inner_ok S S0 B.nolim O a F₁ C₁ WO ok.comp ok.co ok.gen ok.xn ((kind_look O.names _).trans (locK_eq ok.wn)) hI (l₁.g _ _ gf) (fun h hs => hcd h fun b o e => hs b o (l₁.g b o e)) ok.a h₁
    fun c₂ V₂ v₂ hs₂ s₂ l₂ C₂ R₂ h₂ => wpAny_items_nil (hq c₂ [V₂] [v₂] hs₂ s₂ l₂ C₂ ⟨v₂, [], rfl, R₂, rfl⟩ h₂)) rfl
theorem wrap_exec (B : BaseOK Z Fg) (SCC : SC Z d call) (S : SE Z d (evE Z.X call depthE)) (S0 : SE Z d (evE Z.X noCall depthE)) (O : EnvOK env sc) (a : AOK (d + 1) A) (W₀ : FrameW Z K₀ Kp c env loc) (C : Core Z Kp c hs s) {W : WrapP} {w : WrapI} (WO : WrapOK Z W w)
    (hw : Z.wrap = some w) (hcode : env.code = .ref w.cc) (hq : env.qual ++ "<lambda>" = w.qual) {rm : Bool} {K : KS} {Q : Flow → Shared → Prop} (h : wrapB Z.X call rm W sc loc hs K) (P : PostS Z K₀ env c K Q) : wpAny (model Z.P Z.w) A (execs W.stmts env) Q E s := by
  obtain ⟨hok, h⟩ := need_iff h
  have ok := okWrap_iff hok
  refine wpAny_execs_cons (wpAny_Assign_Name (lam_make C O hcode hw WO ok.comp hq fun c₁ f cc pm ctv s₁ l₁ C₁ gf hcd => ?_))
  refine store_raw O (W₀.mono l₁) C₁ ((kind_look O.names _).trans (locK_eq ok.wn)) ok.new fun Kq s₂ W₂ C₂ hI => ?_
  refine wpAny_execs_cons (wpAny_Return_some ?_)
  rw [arm_eval_BinOp]
  refine wpAny_bind (W₂.ev S O a.le C₂ h fun c₃ V₃ v₃ hs₃ s₃ l₃ C₃ W₃ R₃ h₃ => wpAny_bind (wpAny_holding ?_))
  rw [arm_eval_BinOp]
  refine wpAny_bind (wcall_ok B S SCC S0 O a W₃.in_ C₃ WO ok hI (l₃.g _ _ gf) (fun h hs => hcd h fun b o e => hs b o (l₃.g b o e)) h₃ fun c₄ V₄ v₄ hs₄ s₄ l₄ C₄ R₄ h₄ => wpAny_bind (wpAny_holding ?_))
  refine (W₃.mono l₄).ev S O a.le C₄ h₄ fun c₅ V₅ v₅ hs₅ s₅ l₅ C₅ W₅ R₅ h₅ => wpAny_bind (wpAny_standAt (PyProof.Rows.wpAny_operate' ?_))
  refine binOpV_ok (fun c₆ V₆ v₆ hs₆ s₆ l₆ C₆ R₆ h₆ => wpAny_bind (wpAny_standAt (PyProof.Rows.wpAny_operate' ?_))) C₅ (R₄.mono l₅) R₅ h₅
  refine binOpV_ok (fun c₇ V₇ v₇ hs₇ s₇ l₇ C₇ R₇ h₇ => ?_) C₆ (((R₃.mono l₄).mono l₅).mono l₆) R₆ h₆
  exact P c₇ (.ret V₇) (.ret v₇) loc hs₇ s₇ Kq ((((l₁.trans l₃).trans l₄).trans l₅).trans (l₆.trans l₇)) (((W₅.mono l₆).mono l₇)) C₇ ⟨v₇, rfl, R₇⟩ h₇
structure WrapAt (Z : Stat) (W : WrapP) (w : WrapI) : Prop where
  wr : Z.wrap = some w
  ok : WrapOK Z W w
  fn : sEq "__init__" W.fn = false
  at_ : ∀ F fd a, fnOf Z.X true W.fn = some F → Z.fa true W.fn = some a → FnObj Z F fd a → F.body = W.stmts ∧ fd.code = .ref w.cc ∧ fd.qualname ++ ".<locals>." ++ "<lambda>" = w.qual
noncomputable def WrapsOK (Z : Stat) : Prop := ∀ W, Z.X.wrap = some W → ∃ w, WrapAt Z W w
theorem wrapOf_iff {b : Bool} {x : Str} {W : WrapP} (h : wrapOf Z.X b x = some W) : Z.X.wrap = some W ∧ b = true ∧ x = W.fn := by
  obtain ⟨W', e, h⟩ := optB_iff h
  obtain ⟨h1, h⟩ := noB_iff h
  cases some_eq h
  obtain ⟨h2, h3⟩ := and_t (not_t' h1)
  exact ⟨e, h2, sEq_iff.mp h3⟩
theorem noCall_ok : SC Z d noCall ∧ SN Z d noCall :=
  ⟨fun m isM name vs hs K Kp c s A Q E ws ad _ _ _ _ h _ => False.elim h, fun f ns vs hs K Kp c s A Q E ws v _ _ _ _ h _ => by
    obtain ⟨_, h⟩ := need_iff h
    obtain ⟨F, _, h⟩ := optP_iff h
    obtain ⟨as, _, h⟩ := optP_iff h
    obtain ⟨ns', _, h⟩ := optP_iff h
    exact False.elim (need_iff h).2⟩
theorem body_ok (B : BaseOK Z Fg) (WS : WrapsOK Z) (SCC : SC Z d call) (SNN : SN Z d call) {isM : Bool} {name : Str} {F : Fn} {fd : FuncData} {ad : Addr} (hfa : Z.fa isM name = some ad) (hF : fnOf Z.X isM name = some F) (FOb : FnObj Z F fd ad)
    (a : AOK (d + 1) A) (aw : ∀ W, wrapOf Z.X isM name = some W → AOK (d + 2) A) {rm : Bool} {K : KS} (h : bodyW Z.X call rm (wrapOf Z.X isM name) F loc hs K) :
    ∀ env, EnvOK env F.scope.names → env.code = fd.code → env.qual = fd.qualname ++ ".<locals>." → ∀ Kq s₁ Q E, FrameW Z Kp Kq c env loc → Core Z Kq c hs s₁ → PostS Z Kp env c K Q → wpAny (model Z.P Z.w) (A.deeper env) (execs F.body env) Q E s₁ := by
  intro env O hc hq Kq s₁ Q E W C P
  obtain ⟨S, T, U⟩ := evE_ok B SCC SNN depthE
  cases e : wrapOf Z.X isM name with
  | none =>
    rw [e] at h
    exact execs_ok (evS_ok B S T U O a.down depthS) W C h P
  | some V =>
    rw [e] at h
    obtain ⟨e1, rfl, rfl⟩ := wrapOf_iff e
    obtain ⟨w, WA⟩ := WS V e1
    obtain ⟨f1, f2, f3⟩ := WA.at_ F fd ad hF hfa FOb
    rw [f1]
    exact wrap_exec B SCC S (evE_ok B noCall_ok.1 noCall_ok.2 depthE).1 O (aw V e).down W C WA.ok WA.wr (hc.trans f2) (by rw [hq]; exact f3) h P
end
end Mine
set_option genSizeOf false
set_option genInjectivity false
set_option maxRecDepth 100000
namespace Mine
open PySem PySem.W PySem.Calls PyProof.Rows

section
variable {Z : Stat} {K₀ Kp Kq Kr Ks : Addr → Option Obj} {c : Cn} {hs : Hs} {s : Shared} {A : Around} {E : Value → Shared → Prop} {tk : Nat} {ia : List Addr} {g : Option (Nat × D)} {Fg : Frag} {env : Env} {sc : Names} {loc : Loc} {d : Nat} {rec : RecE} {call : CallR} {K : KE} {R : Result → Shared → Prop}

noncomputable def Cn.cut (c : Cn) (n : Nat) : Cn := ⟨c.G, c.ρ.take n, c.mx⟩
theorem take_get {α : Type} {l : List α} {n m : Nat} {a : α} (h : (l.take n)[m]? = some a) : l[m]? = some a := by
  rw [List.getElem?_take] at h
  by_cases q : m < n
  · rw [if_pos q] at h; exact h
  · rw [if_neg q] at h; exact none_some h
theorem isObj.monoG {c c' : Cn} (l : c.leG c') {x : D} {o : Obj} (h : isObj Z c x o) : isObj Z c' x o := by
  obtain ⟨vs, n, e, r⟩ := h
  refine ⟨vs, n, e, ?_⟩
  cases x <;> first | exact r | exact RepDs.monoG l _ _ r
theorem Core.mxNone (C : Core Z Kp c hs s) (hm : hs.mp = none) : c.mx = none := by
  cases q : c.mx with
  | none => rfl
  | some p =>
    obtain ⟨o, _, h⟩ := C.atM (0, fun _ => False) (List.mem_append_right _ (by rw [q, hm]; exact .head _))
    exact h.elim
theorem Core.cutL (C : Core Z Kp c hs s) (n : Nat) (hm : hs.mp = none) : Core Z Kp (c.cut n) ⟨hs.hp.take n, none⟩ s := by
  have lg : c.leG (c.cut n) := ⟨fun _ _ h => h, fun _ h => h⟩
  have len : (c.ρ.take n).length = (hs.hp.take n).length := by rw [List.length_take, List.length_take, C.len]
  have hmx := C.mxNone hm
  have e1 : mpLed Z (c.cut n) (c.cut n).mx none = tabLed Z.wrap (c.cut n) := by
    show tabLed Z.wrap (c.cut n) ++ mpLed0 Z (c.cut n) c.mx none = _
    rw [hmx]; exact List.append_nil _
  have e0 : mpLed Z c c.mx hs.mp = tabLed Z.wrap c := by
    rw [hmx, hm]; exact List.append_nil _
  have ap := C.apart
  rw [C.addr, e0, tabLed_addr (c' := c.cut n)] at ap
  obtain ⟨ap1, ap2, ap3⟩ := List.nodup_append.mp ap
  have old : ∀ p ∈ objLed Z (c.cut n) (c.ρ.take n) (hs.hp.take n), (∃ o, s.heap.get? p.1 = some o ∧ p.2 o) ∧ p.1 ∈ c.ρ := fun p hp => by
    obtain ⟨m, x, e1, e2, e3⟩ := objLed_mem hp
    obtain ⟨o, f1, f2⟩ := C.atL _ (objLed_of (take_get e1) (take_get e2))
    exact ⟨⟨o, f1, by rw [e3]; exact isObj.monoG lg f2⟩, List.mem_of_getElem? (take_get e1)⟩
  have aT : Led.At (tabLed Z.wrap (c.cut n)) s.heap := tabLed_at lg (fun _ _ o e => e) (by have := C.atM; rw [e0] at this; exact this)
  refine ⟨C.base, C.sub, C.kp, C.dis, len, ?_, ?_, fun p hp => ?_, C.inst, C.gens, C.os⟩
  · unfold ledOf
    rw [e1]
    exact Led.at_append aT fun p hp => (old p hp).1
  · unfold ledOf
    rw [e1, List.map_append]
    show (_ ++ (objLed Z (c.cut n) (c.ρ.take n) (hs.hp.take n)).map (·.1)).Nodup
    rw [objLed_addr len]
    exact List.nodup_append.mpr ⟨ap1, List.Sublist.nodup (List.take_sublist ..) C.nodupR, fun a ha b hb => ap3 a ha b (List.mem_of_mem_take hb)⟩
  · unfold ledOf at hp
    rw [e1] at hp
    rcases List.mem_append.mp hp with hp | hp
    · have hq : p.1 ∈ (tabLed Z.wrap c).map (·.1) := by rw [tabLed_addr (c' := c.cut n)]; exact List.mem_map_of_mem hp
      obtain ⟨q, hq, e⟩ := List.mem_map.mp hq
      exact e ▸ C.free q (List.mem_append_left _ (by rw [e0]; exact hq))
    · exact C.freeR (old p hp).2
theorem Core.newM (C : Core Z Kp c hs s) (hm : hs.mp = none) {x dx : Addr} {o : Obj} {h' : Heap} (ho : ∃ sl, o = ⟨.ref Z.ca, some dx, .plain, sl⟩) (k : ∀ b o, s.heap.get? b = some o → h'.get? b = some o) (fx : s.heap.get? x = none) (fd : s.heap.get? dx = none) (hne : dx ≠ x)
    (ex : h'.get? x = some o) (ed : h'.get? dx = some (dictOf [] 0)) : ∃ c', c.le c' ∧ c'.mx = some (x, dx) ∧ Core Z Kp c' ⟨hs.hp, some []⟩ { s with heap := h', toks := tk } := by
  have l : c.le ⟨(c.addG x o).G, c.ρ, some (x, dx)⟩ := ⟨(Cn.addG_le (none_of_fresh C.sub fx)).g, fun _ _ h => h, fun p h => no2 (C.mxNone hm) h⟩
  have e0 : mpLed Z c c.mx hs.mp = tabLed Z.wrap c := by
    rw [C.mxNone hm, hm]; exact List.append_nil _
  have ap := C.apart
  rw [C.addr, e0, tabLed_addr (c' := ⟨(c.addG x o).G, c.ρ, some (x, dx)⟩)] at ap
  obtain ⟨ap1, ap2, ap3⟩ := List.nodup_append.mp ap
  have aT : Led.At (tabLed Z.wrap c) s.heap := by have := C.atM; rw [e0] at this; exact this
  have inT : ∀ p ∈ tabLed Z.wrap (⟨(c.addG x o).G, c.ρ, some (x, dx)⟩ : Cn), ∃ q ∈ ledOf Z c hs, q.1 = p.1 := fun p hp => by
    have hq : p.1 ∈ (tabLed Z.wrap c).map (·.1) := by rw [tabLed_addr (c' := ⟨(c.addG x o).G, c.ρ, some (x, dx)⟩)]; exact List.mem_map_of_mem hp
    obtain ⟨q, hq, e⟩ := List.mem_map.mp hq
    exact ⟨q, List.mem_append_left _ (by rw [e0]; exact hq), e⟩
  have inR : ∀ a ∈ c.ρ, ∃ q ∈ ledOf Z c hs, q.1 = a := fun a ha => by
    have hq : a ∈ (ledOf Z c hs).map (·.1) := by rw [C.addr]; exact List.mem_append_right _ ha
    obtain ⟨q, hq, e⟩ := List.mem_map.mp hq
    exact ⟨q, hq, e⟩
  refine ⟨_, l, rfl, fun b o' e => l.g b o' (C.base b o' e), fun b o' e => upd_some e (fun q r => q ▸ r ▸ ex) fun _ e => k b o' (C.sub b o' e), fun b o' e => k b o' (C.kp b o' e), fun b o' e => (upd_ne (ne_of fx (C.kp b o' e))).trans (C.dis b o' e), C.len, ?_, ?_, fun p hp => ?_, fun q dd e => ?_, C.gens, C.os⟩
  · refine Led.at_append (Led.at_append (tabLed_at l.toG (fun _ _ o e => k _ o e) aT) fun p hp => ?_) (objLed_at l (fun a _ o e => k a o e) C.atL)
    rw [List.mem_singleton.mp hp]
    exact ⟨_, ed, [], 0, rfl, .nil⟩
  · show (List.map (fun p : Addr × (Obj → Prop) => p.1) ((tabLed Z.wrap ⟨(c.addG x o).G, c.ρ, some (x, dx)⟩ ++ [(dx, isFld Z ⟨(c.addG x o).G, c.ρ, some (x, dx)⟩ [])]) ++ objLed Z ⟨(c.addG x o).G, c.ρ, some (x, dx)⟩ c.ρ hs.hp)).Nodup
    rw [List.map_append, List.map_append, objLed_addr C.len]
    refine List.nodup_append.mpr ⟨nodup_snoc ap1 fun hb => ?_, ap2, fun a ha b hb q => ?_⟩
    · obtain ⟨p, hp, e⟩ := List.mem_map.mp hb
      obtain ⟨q, hq, e'⟩ := inT p hp
      exact C.notIn fd hq (e'.trans e)
    · rcases List.mem_append.mp ha with ha | ha
      · exact ap3 a ha b hb q
      · obtain ⟨z, hz, e'⟩ := inR b hb
        exact C.notIn fd hz (e'.trans (q.symm.trans (List.mem_singleton.mp ha)))
  · rcases List.mem_append.mp hp with hp | hp
    · rcases List.mem_append.mp hp with hp | hp
      · obtain ⟨q, hq, e⟩ := inT p hp
        exact e ▸ ⟨(upd_ne (C.notIn fx hq)).trans (C.free q hq).1, (C.free q hq).2⟩
      · rw [List.mem_singleton.mp hp]
        exact ⟨(upd_ne hne).trans (none_of_fresh C.sub fd), none_of_fresh C.kp fd⟩
    · obtain ⟨m, y, e1, e2, e3⟩ := objLed_mem hp
      have q := C.freeR (List.mem_of_getElem? e1)
      obtain ⟨_, _, _, e, _⟩ := C.locAt e1
      exact ⟨(upd_ne (ne_of fx e)).trans q.1, q.2⟩
  · cases some_eq e
    obtain ⟨sl, rfl⟩ := ho
    exact ⟨sl, if_pos rfl⟩

structure InitOK (Z : Stat) (Fg : Frag) : Prop where
  init : ∃ fI, Z.fa true "__init__" = some fI ∧ findIn Fg (.ref Z.ca) "__init__" = some (some (.ref fI)) ∧ typeIn Fg (.ref fI) = some (.type "function") ∧
    ∀ F, fnOf Z.X true "__init__" = some F → ∃ fd, FnObj Z F fd fI ∧ ∀ self as, argNs F.args = some (self :: as) → ∀ (s : Shared) (x : Value) (ws : List Value), Sub Z.G₀ s.heap → ws.length = as.length → BindsTo s fd ⟨[x], as.zip ws⟩ ((self :: as).zip (x :: ws))
theorem sameNs_eq : ∀ {a b : List Str}, sameNs a b = true → a = b
  | [], [], _ => rfl
  | x :: r, y :: t, h => by
    obtain ⟨h1, h2⟩ := and_t (show (sEq x y && sameNs r t) = true from h)
    rw [sEq_iff.mp h1, sameNs_eq h2]
  | [], _ :: _, h => ff h
  | _ :: _, [], h => ff h
theorem AOK.under (a : AOK (d + 1) A) (C : Addr) (vals : List Value) (kw : List (Str × Value)) : AOK d (A.under (.builtin "type.__call__" ⟨.ref C :: vals, kw⟩)) := by
  have h1 := a.depth
  have h2 := a.units
  have w : (A.under (.builtin "type.__call__" ⟨.ref C :: vals, kw⟩)).depth = A.depth + 1 := rfl
  have u : (A.under (.builtin "type.__call__" ⟨.ref C :: vals, kw⟩)).units = A.units + 1 := rfl
  exact ⟨a.handled, by lia, by lia⟩
noncomputable def outV (F : Flow) : Value := match F with
  | .ret v => v
  | _ => .none
theorem retOf {c : Cn} {f : Fl} {F : Flow} (h : RepF Z c f F) : RepV Z c (retV f) (outV F) := by
  cases f with
  | ret V => exact let ⟨v, e, r⟩ := h; e ▸ r
  | next => cases (h : F = .next); exact rfl
  | brk => cases (h : F = .brk); exact rfl
  | cont => cases (h : F = .cont); exact rfl
theorem retC_ok {cu : Bool} {c' : Cn} {V : V} {v : Value} {hs' : Hs} {s' : Shared} {Q : Value → Shared → Prop} (P : Post Z Kp c K Q) (l : c.le c') (C₀ : c.ρ.length = hs.hp.length) (C : Core Z Kp c' hs' s') (r : RepV Z c' V v) (h : retC cu hs.hp.length V hs' K) : Q v s' := by
  cases cu with
  | false => exact P c' V v hs' s' l C r h
  | true =>
    obtain ⟨x, ex, h⟩ := optP_iff h
    obtain ⟨hm, h⟩ := need_iff h
    rw [V.d_eq ex] at r
    refine P (c'.cut hs.hp.length) (.d x) v _ s' ⟨l.g, fun n a e => ?_, l.mx⟩ (C.cutL _ (Option.isNone_iff_eq_none.mp hm)) (RepD.monoG (c := c') (c' := c'.cut hs.hp.length) ⟨fun _ _ h => h, fun _ h => h⟩ x v r) h
    exact (List.getElem?_take_of_lt (C₀ ▸ (List.getElem?_eq_some_iff.mp e).1)).trans (l.ρ n a e)
inductive NewIs (X : PX) (call : CallR) (f : V) (ns : Option (List Str)) (vs : List V) (hs : Hs) (K : KE) : Prop
  | mk (F : Fn) (self : Str) (as : List Str) (e : f = .d .cls) (hm : hs.mp = none) (hF : fnOf X true "__init__" = some F) (hA : argNs F.args = some (self :: as)) (hn : ns = some as)
      (h : call false true "__init__" (.d .mpu :: vs) ⟨hs.hp, some []⟩ fun r hs => need r.isNone (K (.d .mpu) hs)) : NewIs X call f ns vs hs K
theorem newV_iff {X : PX} {f : V} {ns : Option (List Str)} {vs : List V} (h : newV X call f ns vs hs K) : NewIs X call f ns vs hs K := by
  obtain ⟨e, h⟩ := need_iff h
  obtain ⟨F, hF, h⟩ := optP_iff h
  obtain ⟨as, hA, h⟩ := optP_iff h
  obtain ⟨ns', hn, h⟩ := optP_iff h
  obtain ⟨hi, hc⟩ := need_iff h
  clear h
  cases as with
  | nil => exact ff hi
  | cons self as => exact ⟨F, self, as, V.isCls_eq (and_t e).1, Option.isNone_iff_eq_none.mp (and_t e).2, hF, hA, by rw [hn, sameNs_eq (show sameNs as ns' = true from hi)], hc⟩
theorem callN_body (B : BaseOK Z Fg) (WS : WrapsOK Z) {n : Nat} (SCC : SC Z (2 * n) (callN Z.X n)) (SNN : SN Z (2 * n) (callN Z.X n)) {m isM : Bool} {name : Str} {vs : List V} {Q : Value → Shared → Prop} {ws : List Value} {ad : Addr} {F : Fn} {fd : FuncData} {args : Args}
    (a : AOK (2 * n + 1) A) (C : Core Z Kp c hs s) (RV : RepVs Z c vs ws) (hF : fnOf Z.X isM name = some F) (hfa : Z.fa isM name = some ad) (aw : ∀ W, wrapOf Z.X isM name = some W → AOK (2 * n + 2) A) (FOb : FnObj Z F fd ad) (hb : ∀ ns, argNs F.args = some ns → ws.length = ns.length → BindsTo s fd args (ns.zip ws)) (h : callN Z.X (n + 1) m isM name vs hs K) (P : Post Z Kp c K Q)
    (hR : ∀ v s', Q v s' → R (.ok (.ret v)) s') : codeAny (model Z.P Z.w) A (.call (.ref ad) args) R s := by
  obtain ⟨F', hF', h⟩ := optP_iff h
  cases some_eq (hF.symm.trans hF')
  obtain ⟨ns, hns, h⟩ := optP_iff h
  obtain ⟨loc, hloc, h⟩ := optP_iff h
  obtain ⟨hok, h⟩ := need_iff h
  exact call_body B a C FOb (hb ns hns (zip_loc hloc RV).1) RV hloc hok (body_ok B WS SCC SNN hfa hF FOb a aw h) fun c' f F' hs' s' loc' l C' RF hk => hR _ _ (retC_ok P l C.len C' (retOf RF) hk)
theorem callN_ok (B : BaseOK Z Fg) (WS : WrapsOK Z) (FO : FnsOK Z) (IO : InitOK Z Fg) : ∀ n, SC Z (2 * n) (callN Z.X n) ∧ SN Z (2 * n) (callN Z.X n)
  | 0 => ⟨fun m isM name vs hs K Kp c s A Q E ws ad _ _ _ _ h _ => False.elim h, fun f ns vs hs K Kp c s A Q E ws v _ _ _ _ h _ => let ⟨_, _, _, _, _, _, _, _, h⟩ := newV_iff h; False.elim h⟩
  | n + 1 => by
    obtain ⟨SCC, SNN⟩ := callN_ok B WS FO IO n
    refine ⟨fun m isM name vs hs K Kp c s A Q E ws ad a C RV hfa h P => ?_, fun f ns vs hs K Kp c s A Q E ws v a C Rf RV h P => ?_⟩
    · obtain ⟨F, hF, _⟩ := optP_iff h
      obtain ⟨fd, FOb, hb⟩ := FO.fn isM name ad F hfa hF
      exact callN_body B WS SCC SNN (a.le) C RV hF hfa (fun _ _ => a) FOb (fun ns hns hl => hb ns hns s ws (fun b o e => C.sub _ _ (C.base _ _ e)) hl) h P fun v s' q => q
    · obtain ⟨F, self, as, ef, hm, hF, hA, hn, h2⟩ := newV_iff h
      cases some_eq hn
      have a : AOK (2 * n + 1 + 1) A := a
      rw [ef] at Rf
      cases (Rf : v = .ref Z.ca)
      obtain ⟨fI, hfa, hfind, htype, hI⟩ := IO.init
      obtain ⟨fd, FOb, hb⟩ := hI F hF
      refine wpAny_call ?_
      have X := B.cls.here C
      obtain ⟨hp, gg, dd, tt, oo⟩ := s
      refine make_core (makes_of X B.cls.makes) (looks_findIn X hfind) (fun self => bind_fn X self htype) (.inl rfl) ?_
      have k : ∀ b o, hp.get? b = some o → ((hp.push emptyDict).push (instObj Z.ca hp.objs.size)).get? b = some o := fun b o e => Heap.get?_push_of_some _ (Heap.get?_push_of_some _ e)
      have hx : ((hp.push emptyDict).push (instObj Z.ca hp.objs.size)).get? (hp.objs.size + 1) = some (instObj Z.ca hp.objs.size) := by heap_get
      have hd : ((hp.push emptyDict).push (instObj Z.ca hp.objs.size)).get? hp.objs.size = some (dictOf [] 0) := by heap_get
      obtain ⟨c', l, hmx, C'⟩ := C.newM (tk := tt) hm (x := hp.objs.size + 1) (dx := hp.objs.size) ⟨_, rfl⟩ k (fresh_ge (Nat.le_succ _)) (fresh_ge (Nat.le_refl _)) (Nat.ne_of_lt (Nat.lt_succ_self _)) hx hd
      have RV' : RepVs Z c' (.d .mpu :: vs) (.ref (hp.objs.size + 1) :: ws) := ⟨_, _, rfl, ⟨_, _, rfl, hmx⟩, RV.mono l⟩
      refine callN_body B WS SCC SNN (Q := fun v s' => v = .none ∧ Q (.ref (hp.objs.size + 1)) s') (a.under _ _ _) C' RV' hF hfa (fun W e => ?_) FOb (fun ns hns hl => ?_) h2 (fun c'' V v hs'' s'' l'' C'' RV'' hk => ?_) fun v s' q => q
      · obtain ⟨e1, _, e2⟩ := wrapOf_iff e
        obtain ⟨w, WA⟩ := WS W e1
        have := WA.fn
        rw [sEq_iff.mpr e2] at this
        exact ff this.symm
      · rw [hA] at hns
        cases some_eq hns
        exact hb self _ hA _ _ ws (fun b o e => C'.sub _ _ (C'.base _ _ e)) (Nat.succ.inj hl)
      · obtain ⟨hv, hk⟩ := need_iff hk
        rw [V.isNone_eq hv] at RV''
        exact ⟨RV'', P c'' (.d .mpu) _ hs'' s'' (l.trans l'') C'' ⟨_, _, rfl, l''.mx _ hmx⟩ hk⟩
end
end Mine
set_option genSizeOf false
set_option genInjectivity false
set_option maxRecDepth 100000
namespace Mine
open PySem PySem.W PySem.Calls PyProof.Rows

/-! ## the ground: what stands when the law is called -/
/-- what never changes: all of it but the table of the one method that makes a lambda -/
noncomputable def hid : Option WrapI → Heap → Addr → Option Obj
  | some w, h, b => if b = w.tb then none else h.get? b
  | none, h, b => h.get? b
noncomputable def notTab (o : Obj) : Bool := match o.data with
  | .fields vs => decide (0 < vs.size)
  | _ => true
noncomputable def TabIn (wi : Option WrapI) (h : Heap) : Prop := ∀ w, wi = some w → h.get? w.tb = some (tabObj #[])
theorem hid_of {wi : Option WrapI} {h : Heap} (T : TabIn wi h) {a : Addr} {o : Obj} (e : h.get? a = some o) (n : notTab o = true) : hid wi h a = some o := by
  cases wi with
  | none => exact e
  | some w => exact (if_neg fun q => by rw [q, T w rfl] at e; rw [← some_eq e] at n; exact ff n).trans e
theorem hid_le {wi : Option WrapI} {h : Heap} {a : Addr} {o : Obj} (e : hid wi h a = some o) : h.get? a = some o := by
  cases wi with
  | none => exact e
  | some w =>
    by_cases q : a = w.tb
    · exact none_some ((if_pos q).symm.trans e)
    · exact (if_neg q).symm.trans e
noncomputable def hidF (wi : Option WrapI) (h : Heap) : Frag := (List.range h.objs.size).filterMap fun a => (hid wi h a).map fun o => (a, o)
theorem look_fm (g : Addr → Option Obj) (a : Addr) : ∀ l : List Nat, a ∈ l ∨ g a = none → (l.filterMap fun a => (g a).map fun o => (a, o)).lookup a = g a
  | [], hh => (hh.resolve_left (nomatch ·)).symm
  | b :: r, hh => by
    rw [List.filterMap_cons]
    cases q : g b with
    | none => exact look_fm g a r (hh.elim (fun m => (List.mem_cons.mp m).elim (fun e => .inr (e ▸ q)) .inl) .inr)
    | some o =>
      show ((b, o) :: _).lookup a = _
      rw [List.lookup_cons]
      by_cases e : a = b
      · rw [e, beq_self_eq_true, q]
      · rw [beq_false_of_ne e]; exact look_fm g a r (hh.imp_left fun m => (List.mem_cons.mp m).resolve_left e)
theorem hidF_look (wi : Option WrapI) (h : Heap) (a : Addr) : (hidF wi h).lookup a = hid wi h a := look_fm (hid wi h) a _ (by
  by_cases q : a < h.objs.size
  · exact .inl (List.mem_range.mpr q)
  · refine .inr ?_
    cases e : hid wi h a with
    | none => rfl
    | some o => exact no2 (fresh_ge (Nat.not_lt.mp q)) (hid_le e))

noncomputable def isFnSt : Option Stmt → Bool
  | some (.FunctionDef ..) => true
  | _ => false
noncomputable def PX.part (X : PX) (isM : Bool) : List Stmt := match isM with
  | true => X.cbody
  | false => X.rest
noncomputable def faOf (X : PX) (l m : List (Str × Value)) (isM : Bool) (x : Str) : Option Addr :=
  if isFnSt (findSt x (X.part isM)) then (match (match isM with | true => l | false => m).lookup x with
    | some (.ref a) => some a
    | _ => none) else none

/-- what the texts must be like, looked at once -/
noncomputable def okEltL (cbody : List Stmt) : Expr → Bool
  | .Constant (.int _) _ _ => true
  | .Name x _ => isFnSt (findSt x cbody)
  | _ => false
noncomputable def okClsSt (cbody : List Stmt) : Stmt → Bool
  | .FunctionDef _ args _ _ _ _ _ _ _ _ => nodupS (args.args.map (·.arg))
  | .Assign _ (.List es _) _ => es.all (okEltL cbody)
  | _ => true
noncomputable def okModSt : Stmt → Bool
  | .FunctionDef _ args _ _ _ _ _ _ _ _ => nodupS (args.args.map (·.arg))
  | _ => true
noncomputable def metaNames : List Str := ["__getattribute__", "__getattr__", "__setattr__"]
noncomputable def xNames : List Str := ["__dict__", "__weakref__", "__doc__"]
noncomputable def nmNames : List Str := Str.ofString "__qualname__" :: copiedNames
noncomputable def okX (p : Program) (X : PX) (names : List Str) : Bool :=
  (fldNames ++ metaNames).all (fun x => !sMem x (names ++ xNames)) && nmNames.all (fun x => (findSt x X.cbody).isNone) && X.cbody.all (okClsSt X.cbody) && X.rest.all okModSt &&
    biNames.all (fun b => !p.boundNames.contains (Str.ofString b.id))

structure Ground (wi : Option WrapI) (p : Program) (P : Params) (X : PX) (N : Addr) (h : Heap) (l m : List (Str × Value)) (names : List Str) (pm : Value) : Prop where
  cls : ∃ t q, h.get? (N + 1) = some (clsObj X.cname X.cname N t q)
  ns : DictIs h N (l.filter (fun p => !sEq p.1 "__qualname__") ++ extraP N)
  names : names = l.map (·.1)
  st : ∀ st ∈ X.cbody, StOK 29 h pm (X.cname ++ ".") l st
  md : ∀ st ∈ X.rest, MOK h m st
  g : h.Ns mainGlobals (fun x => match m.lookup x with | some v => some v | none => m0 P x)
  b : h.Ns builtinsNs ((boot_heap P).nsMap builtinsNs)
  cst : h.get? cStatics = some ⟨.none, none, .dict #[] 0, #[]⟩
  look : m.lookup X.cname = some (.ref (N + 1))
  bound : ∀ x ∈ m.map (·.1), p.boundNames.contains x = true
  tab : TabIn wi h
  nob : m.lookup (Str.ofString "__builtins__") = none
  bm : h.get? 4 = some { cls := .type "module", dict := some 0 }

inductive FnSt (x : Str) (st : Stmt) : Prop
  | mk (args : Arguments) (body : List Stmt) (deco : List Expr) (ret : Option Expr) (tp : List TypeParam) (scope : Scope) (ts : Option Scope) (bind : Str) (pos : Pos) (e : st = .FunctionDef x args body deco ret tp scope ts bind pos) : FnSt x st
inductive AsSt (x : Str) (st : Stmt) : Prop
  | mk (p : Pos) (v : Expr) (q : Pos) (e : st = .Assign [.Name x p] v q) : AsSt x st
theorem stName_iff {x : Str} {s : Stmt} (h : stName s = some x) : FnSt x s ∨ AsSt x s := by
  cases s with
  | FunctionDef => exact .inl (some_eq h ▸ ⟨_, _, _, _, _, _, _, _, _, rfl⟩)
  | Assign ts v q =>
    obtain ⟨t, e, h⟩ := optB_iff h
    obtain ⟨p, e'⟩ := nameP1_eq h
    exact .inr (one_eq e ▸ e' ▸ ⟨p, v, q, rfl⟩)
  | _ => exact none_some h
theorem isAt_eq {x : Str} {o : Option Str} (h : isAt x o = true) : o = some x := by
  cases o with
  | none => exact ff h
  | some y => rw [sEq_iff.mp h]
theorem findSt_spec {x : Str} {st : Stmt} : ∀ {b : List Stmt}, findSt x b = some st → st ∈ b ∧ (FnSt x st ∨ AsSt x st)
  | [], h => none_some h
  | s :: r, h => by
    have e : findSt x (s :: r) = match isAt x (stName s) with
      | true => some s
      | false => findSt x r := rfl
    rw [e] at h
    cases q : isAt x (stName s) with
    | true => rw [q] at h; exact some_eq h ▸ ⟨.head _, stName_iff (isAt_eq q)⟩
    | false => rw [q] at h; exact ⟨.tail _ (findSt_spec (b := r) h).1, (findSt_spec (b := r) h).2⟩

theorem isFnSt_iff {x : Str} {b : List Stmt} (h : isFnSt (findSt x b) = true) : ∃ st, findSt x b = some st ∧ FnSt x st := by
  cases q : findSt x b with
  | none => rw [q] at h; exact ff h
  | some st =>
    rcases (findSt_spec q).2 with f | ⟨_, _, _, e⟩
    · exact ⟨st, rfl, f⟩
    · rw [q, e] at h; exact ff h
section
variable {wi : Option WrapI} {p : Program} {w : World} {X : PX} {N : Addr} {s : Shared} {l m : List (Str × Value)} {names : List Str} {pm : Value}

noncomputable def statOf (wi : Option WrapI) (p : Program) (w : World) (X : PX) (N : Addr) (s : Shared) (l m : List (Str × Value)) : Stat := ⟨wi, p, w, X, hid wi s.heap, faOf X l m, N + 1, s.os⟩

theorem lookF {a : Addr} {o : Obj} (T : TabIn wi s.heap) (e : s.heap.get? a = some o) (n : notTab o = true) : (hidF wi s.heap).lookup a = some o := (hidF_look _ _ _).trans (hid_of T e n)
theorem Ground.own (G : Ground wi p w.params X N s.heap l m names pm) (x : Str) : ownIn (hidF wi s.heap) x (.ref (N + 1)) = some ((l.filter (fun p => !sEq p.1 "__qualname__") ++ extraP N).lookup x) := by
  obtain ⟨t, q, e⟩ := G.cls
  obtain ⟨es, n, e2, he⟩ := G.ns
  have h1 : ownIn (hidF wi s.heap) x (.ref (N + 1)) = nsIn (hidF wi s.heap) N x := by
    unfold ownIn
    dsimp only
    rw [lookF G.tab e rfl]
    rfl
  rw [h1]
  unfold nsIn
  rw [lookF G.tab e2 rfl]
  dsimp only
  have hf := he.find (x := x)
  have hr : es.toList.any (·.refKey) = false := by
    have : ∀ (es : List DictEntry) (L : List (Str × Value)), Ents es L → es.any (·.refKey) = false := by
      intro es L h
      induction h with
      | nil => rfl
      | cons a b r ih => rw [List.any_cons, ih, Bool.or_false]; unfold DictEntry.refKey; rw [a]
    exact this _ _ he
  rw [hr]
  rw [← hf]
  cases es.toList.find? (fun e => e.key.isStr x) <;> rfl
theorem Ground.find (G : Ground wi p w.params X N s.heap l m names pm) (x : Str) : findIn (hidF wi s.heap) (.ref (N + 1)) x = match (l.filter (fun p => !sEq p.1 "__qualname__") ++ extraP N).lookup x with
    | some v => some (some v)
    | none => alongIn (hidF wi s.heap) x [.type "object"] := by
  obtain ⟨t, q, e⟩ := G.cls
  unfold findIn
  dsimp only
  rw [lookF G.tab e rfl]
  show alongIn (hidF wi s.heap) x [.ref (N + 1), .type "object"] = _
  rw [alongIn, G.own x]
  cases (l.filter (fun p => !sEq p.1 "__qualname__") ++ extraP N).lookup x <;> rfl
theorem look_filter {x : Str} (hx : x ≠ ("__qualname__" : Str)) : ∀ l : List (Str × Value), (l.filter (fun p => !sEq p.1 "__qualname__")).lookup x = l.lookup x
  | [] => rfl
  | (y, v) :: r => by
    rw [List.filter_cons, lookS_cons]
    cases q : sEq y "__qualname__" with
    | true => exact (look_filter hx r).trans (if_neg fun e => hx (e.trans (sEq_iff.mp q))).symm
    | false =>
      show ((y, v) :: _).lookup x = _
      rw [lookS_cons, look_filter hx r]
theorem Ground.has (G : Ground wi p w.params X N s.heap l m names pm) {x : Str} {v : Value} (hx : x ≠ ("__qualname__" : Str)) (h : l.lookup x = some v) : findIn (hidF wi s.heap) (.ref (N + 1)) x = some (some v) := by
  rw [G.find, List.lookup_append, look_filter hx, h]
  rfl
theorem Ground.hasnt (G : Ground wi p w.params X N s.heap l m names pm) {x : Str} (h : sMem x (names ++ xNames) = false) : findIn (hidF wi s.heap) (.ref (N + 1)) x = alongIn (hidF wi s.heap) x [.type "object"] := by
  have hn := sMem_false.mp h
  rw [List.mem_append, not_or] at hn
  have h1 : (l.filter (fun p => !sEq p.1 "__qualname__")).lookup x = none := by
    refine lookup_none_of fun hm => hn.1 ?_
    rw [G.names]
    obtain ⟨q, hq, e⟩ := List.mem_map.mp hm
    exact List.mem_map.mpr ⟨q, (List.mem_filter.mp hq).1, e⟩
  have h2 : (extraP N).lookup x = none := by
    refine lookup_none_of fun hm => hn.2 ?_
    exact hm
  rw [G.find, List.lookup_append, h1, h2]
  rfl
theorem okX_split (h : okX p X names = true) : (∀ x ∈ fldNames ++ metaNames, sMem x (names ++ xNames) = false) ∧ (∀ x ∈ nmNames, findSt x X.cbody = none) ∧ (∀ st ∈ X.cbody, okClsSt X.cbody st = true) ∧ (∀ st ∈ X.rest, okModSt st = true) ∧
    (∀ b ∈ biNames, p.boundNames.contains (Str.ofString b.id) = false) := by
  obtain ⟨h, h5⟩ := and_t h
  obtain ⟨h, h4⟩ := and_t h
  obtain ⟨h, h3⟩ := and_t h
  obtain ⟨h1, h2⟩ := and_t h
  exact ⟨fun x hx => not_t (List.all_eq_true.mp h1 x hx), fun x hx => Option.isNone_iff_eq_none.mp (List.all_eq_true.mp h2 x hx), List.all_eq_true.mp h3, List.all_eq_true.mp h4, fun b hb => not_t (List.all_eq_true.mp h5 b hb)⟩
theorem FnAt.obj {n₀ : Nat} {h : Heap} {a name qual params body scope pm dv dV c'} (F : FnAt n₀ h a name qual params body scope pm dv dV c') : ∃ fd, h.get? a = some { cls := .type "function", data := .func fd } := ⟨_, F.fn⟩
/-- a method's object -/
inductive FnIs (X : PX) (l m : List (Str × Value)) (h : Heap) (x : Str) (args : Arguments) (body : List Stmt) (scope : Scope) : Prop
  | mk (a : Addr) (dv : List Value) (dV : Value) (c' : Addr) (e1 : l.lookup x = some (.ref a)) (e2 : faOf X l m true x = some a) (F : FnAt 29 h a x (X.cname ++ "." ++ x) args body scope pm dv dV c') : FnIs X l m h x args body scope
inductive FnIsM (X : PX) (l m : List (Str × Value)) (h : Heap) (x : Str) (args : Arguments) (body : List Stmt) (scope : Scope) : Prop
  | mk (a : Addr) (dv : List Value) (dV : Value) (c' : Addr) (pm' : Value) (e1 : m.lookup x = some (.ref a)) (e2 : faOf X l m false x = some a) (F : FnAt 15 h a x x args body scope pm' dv dV c') : FnIsM X l m h x args body scope
theorem Ground.fn (G : Ground wi p w.params X N s.heap l m names pm) {x : Str} {args body deco ret tp scope ts bind pos} (hf : findSt x X.cbody = some (.FunctionDef x args body deco ret tp scope ts bind pos)) :
    FnIs (pm := pm) X l m s.heap x args body scope := by
  have hm := (findSt_spec hf).1
  have hst := G.st _ hm
  cases hst with
  | def_ hl F =>
    refine ⟨_, _, _, _, hl, ?_, F⟩
    unfold faOf PX.part
    rw [hf, hl]
    rfl
theorem Ground.fnM (G : Ground wi p w.params X N s.heap l m names pm) {x : Str} {args body deco ret tp scope ts bind pos} (hf : findSt x X.rest = some (.FunctionDef x args body deco ret tp scope ts bind pos)) :
    FnIsM X l m s.heap x args body scope := by
  have hm := (findSt_spec hf).1
  have hst := G.md _ hm
  cases hst with
  | def_ hn hl F =>
    refine ⟨_, _, _, _, _, hl, ?_, F⟩
    unfold faOf PX.part
    rw [hf, hl]
    rfl
theorem fn_special (T : TabIn wi s.heap) {f : Addr} {fd : FuncData} (e : s.heap.get? f = some { cls := .type "function", data := .func fd }) : typeIn (hidF wi s.heap) (.ref f) = some (.type "function") ∧
    specialIn (hidF wi s.heap) (.ref f) "__get__" = some (some (.builtin "function.__get__")) ∧ takesIn (hidF wi s.heap) (.ref f) = some false := by
  have ht : typeIn (hidF wi s.heap) (.ref f) = some (.type "function") := by
    unfold typeIn
    dsimp only
    rw [lookF T e rfl]; rfl
  refine ⟨ht, ?_, ?_⟩
  · unfold specialIn
    rw [ht]
    show fastLookup "function" "__get__" = _
    kernel_rfl
  · have h1 : specialIn (hidF wi s.heap) (.ref f) "__set__" = some none := by
      unfold specialIn
      rw [ht]
      show fastLookup "function" "__set__" = _
      kernel_rfl
    have h2 : specialIn (hidF wi s.heap) (.ref f) "__delete__" = some none := by
      unfold specialIn
      rw [ht]
      show fastLookup "function" "__delete__" = _
      kernel_rfl
    unfold takesIn
    rw [h1]
    dsimp only
    rw [h2]
    rfl
theorem val_special {T : String} {v : Value} (h : typeIn (hidF wi s.heap) v = some (.type T)) (h' : fastLookup T "__get__" = some none) : specialIn (hidF wi s.heap) v "__get__" = some none := by
  unfold specialIn
  rw [h]
  exact h'
end
end Mine
set_option genSizeOf false
set_option genInjectivity false
set_option maxRecDepth 100000
namespace Mine
open PySem PySem.W PySem.Calls PyProof.Rows

section
variable {wi : Option WrapI} {p : Program} {w : World} {X : PX} {N : Addr} {s : Shared} {l m : List (Str × Value)} {names : List Str} {pm : Value}

theorem object_names : (fldNames.all fun x => (fastBuiltinOwn "object" x).isNone) = true := by kernel_rfl
theorem const_rep {Z : Stat} {c : Cn} {k : Const} {d : D} {v : Value} (h : constD k = some d) (hv : k.Val v) : RepD Z c d v := by
  cases k <;> first | exact none_some h | (cases some_eq h; exact hv)
theorem constD_notfn {k : Const} {d : D} (h : constD k = some d) : ∀ m y, d ≠ .fn m y := by
  cases k <;> first | exact none_some h | (cases some_eq h; exact fun _ _ => nofun)
theorem mkList_notfn (ds : List D) (m : Bool) (y : Str) : mkList ds ≠ .fn m y := by
  unfold mkList
  cases toInts ds <;> exact nofun
theorem intD_rep {Z : Stat} {c : Cn} {k : Const} {d : D} {v : Value} (h : intD k = some d) (hv : k.Val v) : RepD Z c d v := by
  cases k with
  | int i => exact some_eq h ▸ hv
  | _ => exact none_some h
theorem elt_rep {Z : Stat} {c : Cn} (hfa : ∀ x v, isFnSt (findSt x X.cbody) = true → l.lookup x = some v → ∃ a, v = .ref a ∧ Z.fa true x = some a) {e : Expr} {v : Value} {d : D} (ok : okEltL X.cbody e = true) (h1 : EltIs l e v) (h : eltD e = some d) : RepD Z c d v := by
  cases e with
  | Constant k a b => exact intD_rep h h1
  | Name x p => exact some_eq h ▸ hfa x v ok h1
  | _ => exact none_some h
theorem elts_rep {Z : Stat} {c : Cn} (hfa : ∀ x v, isFnSt (findSt x X.cbody) = true → l.lookup x = some v → ∃ a, v = .ref a ∧ Z.fa true x = some a) : ∀ {es : List Expr} {vs : List Value} {ds : List D}, es.all (okEltL X.cbody) = true → EltsAre l es vs → allSome (es.map eltD) = some ds → RepDs Z c ds vs
  | [], [], ds, _, _, h => some_eq h ▸ rfl
  | e :: es, v :: vs, ds, ok, ⟨h1, h2⟩, h => by
    obtain ⟨o1, o2⟩ := and_t (show (okEltL X.cbody e && es.all (okEltL X.cbody)) = true from ok)
    obtain ⟨d, e1, h⟩ := optB_iff (show (optB (eltD e) fun d => optB (allSome (es.map eltD)) fun l => some (d :: l)) = some ds from h)
    obtain ⟨l', e2, h⟩ := optB_iff h
    exact some_eq h ▸ ⟨v, vs, rfl, elt_rep hfa o1 h1 e1, elts_rep hfa o2 h2 e2⟩
  | [], _ :: _, _, _, h, _ => h.elim
  | _ :: _, [], _, _, h, _ => h.elim
theorem Ground.faM (G : Ground wi p w.params X N s.heap l m names pm) {x : Str} {v : Value} (h : isFnSt (findSt x X.cbody) = true) (hl : l.lookup x = some v) : ∃ a, v = .ref a ∧ faOf X l m true x = some a := by
  obtain ⟨st, q, args, body, deco, ret, tp, scope, ts, bind, pos, rfl⟩ := isFnSt_iff h
  obtain ⟨a, dv, dV, c', e1, e2, _⟩ := G.fn q
  exact ⟨a, some_eq (hl.symm.trans e1), e2⟩
inductive ClsV (X : PX) (x : Str) : D → Prop
  | fn {args : Arguments} {body : List Stmt} {deco : List Expr} {ret : Option Expr} {tp : List TypeParam} {scope : Scope} {ts : Option Scope} {bind : Str} {pos : Pos} (q : findSt x X.cbody = some (.FunctionDef x args body deco ret tp scope ts bind pos)) : ClsV X x (.fn true x)
  | const {p p₃ p₂ : Pos} {k : Const} {kk : Nat} {d : D} (q : findSt x X.cbody = some (.Assign [.Name x p] (.Constant k kk p₃) p₂)) (h : constD k = some d) : ClsV X x d
  | list {p p₃ p₂ : Pos} {es : List Expr} {ds : List D} (q : findSt x X.cbody = some (.Assign [.Name x p] (.List es p₃) p₂)) (h : allSome (es.map eltD) = some ds) : ClsV X x (mkList ds)
theorem valD_view {x : Str} {p q : Pos} {e : Expr} {d : D} (f : findSt x X.cbody = some (.Assign [.Name x p] e q)) (h : valD e = some d) : ClsV X x d := by
  cases e with
  | Constant c kk p₃ => exact .const f h
  | List es p₃ =>
    obtain ⟨l, h1, h2⟩ := optB_iff h
    exact some_eq h2 ▸ .list f h1
  | _ => exact none_some h
theorem clsD_view {x : Str} {d : D} (h : clsD X x = some d) : ClsV X x d := by
  obtain ⟨st, qq, h⟩ := optB_iff h
  rcases (findSt_spec qq).2 with ⟨args, body, deco, ret, tp, scope, ts, bind, pos, e⟩ | ⟨p1, e, p2, q⟩
  · rw [e] at qq h
    exact some_eq h ▸ .fn qq
  · rw [q] at qq h
    exact valD_view qq h
theorem const_con {k : Const} {d : D} {v : Value} (h : constD k = some d) (hv : k.Val v) : specialIn (hidF wi s.heap) v "__get__" = some none ∧ handedIn v = true := by
  cases k with
  | none => have hv : v = .none := hv
            subst hv
            exact ⟨val_special (s := s) (T := "NoneType") (by rfl) (by kernel_rfl), rfl⟩
  | bool b => have hv : v = .bool b := hv
              subst hv
              exact ⟨val_special (s := s) (T := "bool") (by rfl) (by kernel_rfl), rfl⟩
  | int i => obtain ⟨t, rfl⟩ : ∃ t, v = .int i t := hv
             exact ⟨val_special (s := s) (T := "int") (by rfl) (by kernel_rfl), rfl⟩
  | str x => obtain ⟨t, rfl⟩ : ∃ t, v = .str x t := hv
             exact ⟨val_special (s := s) (T := "str") (by rfl) (by kernel_rfl), rfl⟩
  | _ => exact none_some h
theorem assign_inj {x y : Str} {p q : Pos} {e e' : Expr} {r r' : Pos} (h : Stmt.Assign [.Name x p] e r = .Assign [.Name y q] e' r') : x = y ∧ e = e' := by cases h; exact ⟨rfl, rfl⟩
theorem ground_cls (G : Ground wi p w.params X N s.heap l m names pm) (ok : okX p X names = true) : ClsOK (statOf wi p w X N s l m) (hidF wi s.heap) := by
  obtain ⟨o1, o2, o3, o4, o5⟩ := okX_split ok
  obtain ⟨t, q, ec⟩ := G.cls
  have hcl := lookF G.tab ec rfl
  have hn : ∀ x ∈ metaNames, findIn (hidF wi s.heap) (.ref (N + 1)) x = alongIn (hidF wi s.heap) x [.type "object"] := fun x hx => G.hasnt (o1 x (List.mem_append_right _ hx))
  have ht : typeIn (hidF wi s.heap) (.ref (N + 1)) = some (.type "type") := by
    unfold typeIn
    dsimp only
    rw [hcl]; rfl
  have hne : ∀ {x : Str} {st : Stmt}, findSt x X.cbody = some st → x ≠ ("__qualname__" : Str) ∧ copiedNames.contains x = false := fun {x st} h => by
    have hx : x ∉ nmNames := fun hm => by rw [o2 x hm] at h; cases h
    refine ⟨fun e => hx (by rw [e]; exact List.mem_cons_self ..), ?_⟩
    cases qq : copiedNames.contains x with
    | false => rfl
    | true => exact absurd (show x ∈ nmNames from List.mem_cons_of_mem _ (List.contains_iff_mem.mp qq)) hx
  refine ⟨fun a o e => ?_, ?_, ?_, ?_, ?_, ?_, ?_, ?_, fun x hx => ?_, fun x mm y h => ?_, fun x d h hd => ?_⟩
  · rw [hidF_look] at e; exact e
  · exact (hn _ (by decide)).trans (by kernel_rfl)
  · exact (hn _ (by decide)).trans (by kernel_rfl)
  · exact (hn _ (by decide)).trans (by kernel_rfl)
  · unfold plainOver clsIn
    show Option.any _ _ = true
    rw [show (statOf wi p w X N s l m).ca = N + 1 from rfl, hcl]
    rfl
  · unfold hasDictIn clsIn
    rw [show (statOf wi p w X N s l m).ca = N + 1 from rfl, hcl]
    rfl
  · unfold makesIn instIn specialIn
    rw [show (statOf wi p w X N s l m).ca = N + 1 from rfl, hcl, ht]
    show (_ && _) = true
    have h1 : (findIn (hidF wi s.heap) (.type "type") "__call__" == some (some (.builtin "type.__call__"))) = true := by kernel_rfl
    have h2 : (subIn (hidF wi s.heap) (.type "type") (.type "type") == some true) = true := by kernel_rfl
    simp only [Option.bind_some, h1, h2, Bool.and_true]
    simp [clsObj]
  · unfold keepIn specialIn
    dsimp only
    rw [show (statOf wi p w X N s l m).ca = N + 1 from rfl, hcl, ht]
    show ((some (Value.type "type")).bind _ == _) = true
    kernel_rfl
  · refine (G.hasnt (o1 x (List.mem_append_left _ (sMem_iff.mp hx)))).trans ?_
    have := List.all_eq_true.mp object_names x (sMem_iff.mp hx)
    unfold alongIn ownIn
    dsimp only
    rw [Option.isNone_iff_eq_none.mp this]
    rfl
  · generalize hd0 : D.fn mm y = d0 at h
    cases clsD_view h with
    | fn qq =>
      cases hd0
      obtain ⟨a, dv, dV, c', e1, e2, F⟩ := G.fn qq
      obtain ⟨fd, hfd⟩ := F.obj
      obtain ⟨s1, s2, s3⟩ := fn_special G.tab hfd
      exact ⟨a, e2, G.has (hne qq).1 e1, s1, s2, s3, (hne qq).2⟩
    | const qq hk => exact absurd hd0.symm (constD_notfn hk mm y)
    | list qq hds => exact absurd hd0.symm (mkList_notfn _ mm y)
  · cases clsD_view h with
    | fn qq => exact absurd rfl (hd true x)
    | const qq hk =>
      cases G.st _ (findSt_spec qq).1 with
      | const hl hv =>
        obtain ⟨c1, c2⟩ := const_con (s := s) hk hv
        exact ⟨_, G.has (hne qq).1 hl, const_rep (Z := statOf wi p w X N s l m) (c := ⟨(statOf wi p w X N s l m).G₀, [], none⟩) hk hv, c1, c2, (hne qq).2⟩
    | list qq hds =>
      cases G.st _ (findSt_spec qq).1 with
      | list hl ha hg hE =>
        have RR : RepDs (statOf wi p w X N s l m) ⟨(statOf wi p w X N s l m).G₀, [], none⟩ _ _ := elts_rep (X := X) (l := l) (fun x v h1 h2 => G.faM h1 h2) (o3 _ (findSt_spec qq).1) hE hds
        refine ⟨_, G.has (hne qq).1 hl, (mkList_as RR).rep (n := 0) (hid_of G.tab hg rfl), val_special (T := "list") ?_ (by kernel_rfl), rfl, (hne qq).2⟩
        unfold typeIn
        dsimp only
        rw [lookF G.tab hg rfl]; rfl
end
end Mine
set_option genSizeOf false
set_option genInjectivity false
set_option maxRecDepth 100000
namespace Mine
open PySem PySem.W PySem.Calls PyProof.Rows
theorem look_app {α : Type} {n : Str} {w : α} {pre r : List (Str × α)} (h : pre.lookup n = none) : (pre ++ (n, w) :: r).lookup n = some w := by
  rw [List.lookup_append, h, lookS_cons, if_pos rfl]; rfl
theorem look_snoc {α : Type} {x n : Str} {w : α} {pre : List (Str × α)} (h : pre.lookup x = none) (q : x ≠ n) : (pre ++ [(n, w)]).lookup x = none := by
  rw [List.lookup_append, h, lookS_cons, if_neg q]; rfl
theorem filterMap_zip {α : Type} : ∀ {ns : List Str} {ws : List α} (pre : List (Str × α)), nodupS ns = true → ns.length = ws.length → (∀ x ∈ ns, pre.lookup x = none) → ns.filterMap (fun n => ((pre ++ ns.zip ws).lookup n).map (n, ·)) = ns.zip ws
  | [], [], _, _, _, _ => rfl
  | n :: ns, w :: ws, pre, hn, hl, hp => by
    have ih := filterMap_zip (ns := ns) (ws := ws) (pre ++ [(n, w)]) (and_t hn).2 (Nat.succ.inj hl) fun x hx => look_snoc (hp x (.tail _ hx)) fun q => nodupS_not hn (q ▸ hx)
    rw [List.append_assoc] at ih
    show (n :: ns).filterMap (fun k => ((pre ++ (n, w) :: ns.zip ws).lookup k).map (k, ·)) = (n, w) :: ns.zip ws
    rw [List.filterMap_cons, look_app (hp n (.head _))]
    exact congrArg ((n, w) :: ·) ih
theorem forIn_stay {α β : Type} {l : List α} {f : α → β → Sem (ForInStep β)} {c : β} (h : ∀ x ∈ l, f x c = pure (.yield c)) : forIn l c f = pure c := by
  induction l with
  | nil => rfl
  | cons x r ih =>
    rw [List.forIn_cons, h x (List.mem_cons_self ..)]
    exact ih fun y hy => h y (List.mem_cons_of_mem _ hy)
theorem zip_has {α : Type} {x : Str} : ∀ {ns : List Str} {ws : List α}, ns.length = ws.length → x ∈ ns → ((ns.zip ws).lookup x).isSome = true
  | n :: ns, w :: ws, hl, h => lookS_push ((Classical.em (x = n)).symm.imp_left fun e => zip_has (Nat.succ.inj hl) ((List.mem_cons.mp h).resolve_left e))
  | n :: ns, [], hl, h => nomatch hl
theorem has_not {ns : List Str} {ws : List Value} (hl : ns.length = ws.length) {x : Str} (hx : x ∈ ns) : ¬ ((ns.zip ws).lookup x).isNone = true := fun hn => no_some (Option.isNone_iff_eq_none.mp hn) (zip_has hl hx)
theorem missing_no {ns : List Str} {ws : List Value} (hl : ns.length = ws.length) (k : Nat) : (!(List.filter (fun n => ((ns.zip ws).lookup n).isNone) (List.take k ns)).isEmpty) = false := by
  rw [List.filter_eq_nil_iff.mpr fun x hx => has_not hl (List.mem_of_mem_take hx)]; rfl
theorem seqs_of {s : Shared} {M : Model} {A : Around} {E : Value → Shared → Prop} {df : Value} (hd : df = .none ∨ ∃ T o items n, df = .ref T ∧ s.heap.get? T = some o ∧ o.data = .seq items n) {Q' : Option (Array Value) → Shared → Prop} (h : ∀ dv, Q' dv s) : wpAny M A (seqItems? df) Q' E s := by
  rcases hd with rfl | ⟨T, o, items, n, rfl, h1, h2⟩
  · exact wpAny_pure (h none)
  · exact wpAny_seqItems h1 h2 (h _)
theorem binds_of {s : Shared} {fd : FuncData} {as : List Arg} {ds : List Expr} {args : Args} {ws : List Value} (hp : fd.params = ⟨[], as, none, [], [], none, ds⟩) (hd : fd.defaults = .none ∨ ∃ T o items n, fd.defaults = .ref T ∧ s.heap.get? T = some o ∧ o.data = .seq items n)
    (hn : nodupS (as.map (·.arg)) = true) (hl : ws.length = (as.map (·.arg)).length) (hpos : args.pos.length ≤ (as.map (·.arg)).length)
    (hkw : ∀ f : (Str × Value) → (List (Str × Value) × List (Str × Value)) → Sem (ForInStep (List (Str × Value) × List (Str × Value))), (∀ y sl, y.1 ∈ as.map (·.arg) → sl.lookup y.1 = none → f y (sl, []) = pure (.yield (sl ++ [y], []))) →
      forIn args.kw ((as.map (·.arg)).zip args.pos, []) f = pure ((as.map (·.arg)).zip ws, [])) : BindsTo s fd args ((as.map (·.arg)).zip ws) := by
  intro M A E Q q
  obtain ⟨nm, qn, pr, bd, sc, gl, cl, df, kd, dc, pm, an⟩ := fd
  obtain rfl : pr = ⟨[], as, none, [], [], none, ds⟩ := hp
  have fz := filterMap_zip (ns := as.map (·.arg)) (ws := ws) [] hn hl.symm (fun _ _ => rfl)
  unfold bindArgs
  refine wpAny_bind (wpEq (hkw _ fun y sl hy hs => ?_) (wpAny_pure ?_))
  · refine (if_pos ?_).trans (if_neg ?_)
    · rw [List.contains_iff_mem.mpr hy]; rfl
    · rw [hs]; exact Bool.false_ne_true
  refine wpAny_bind (seqs_of hd fun dv => ?_)
  refine wpF ?_ ?_
  · exact (congrArg (· && true) (decide_eq_false (Nat.not_lt.mpr hpos))).trans rfl
  refine wpF (missing_no hl.symm _) ?_
  refine wpAny_bind (wpEq (forIn_stay fun x hx => if_neg (has_not hl.symm (List.mem_of_mem_drop (List.of_mem_zip hx).1))) (wpAny_pure ?_))
  refine wpAny_bind (wpAny_pure ?_)
  refine wpF rfl ?_
  refine wpAny_pure ?_
  have e := (congrArg (List.filterMap fun n => ((([] : List (Str × Value)) ++ (as.map (·.arg)).zip ws).lookup n).map (n, ·)) (List.append_nil (as.map (·.arg)))).trans fz
  exact (congrArg (fun l => Q l s) e).mpr q
theorem binds_pos {s : Shared} {fd : FuncData} {as : List Arg} {ds : List Expr} {ws : List Value} (hp : fd.params = ⟨[], as, none, [], [], none, ds⟩) (hd : fd.defaults = .none ∨ ∃ T o items n, fd.defaults = .ref T ∧ s.heap.get? T = some o ∧ o.data = .seq items n)
    (hn : nodupS (as.map (·.arg)) = true) (hl : ws.length = (as.map (·.arg)).length) : BindsTo s fd ⟨ws, []⟩ ((as.map (·.arg)).zip ws) :=
  binds_of hp hd hn hl (Nat.le_of_eq hl) fun f _ => rfl
end Mine
set_option genSizeOf false
set_option genInjectivity false
set_option maxRecDepth 100000
namespace Mine
open PySem PySem.W PySem.Calls PyProof.Rows
theorem forIn_grow {ns : List Str} {f : (Str × Value) → (List (Str × Value) × List (Str × Value)) → Sem (ForInStep (List (Str × Value) × List (Str × Value)))} (hf : ∀ y sl, y.1 ∈ ns → sl.lookup y.1 = none → f y (sl, []) = pure (.yield (sl ++ [y], []))) :
    ∀ (ns₂ : List Str) (ws₂ : List Value) (sl : List (Str × Value)), (∀ z ∈ ns₂, z ∈ ns) → nodupS ns₂ = true → (∀ z ∈ ns₂, sl.lookup z = none) → forIn (ns₂.zip ws₂) (sl, []) f = pure (sl ++ ns₂.zip ws₂, [])
  | [], _, sl, _, _, _ => by
    rw [List.zip_nil_left, List.append_nil]
    rfl
  | n :: ns₂, [], sl, _, _, _ => by
    rw [List.zip_nil_right, List.append_nil]
    rfl
  | n :: ns₂, w :: ws₂, sl, hi, hn, hl => by
    have ih := forIn_grow hf ns₂ ws₂ (sl ++ [(n, w)]) (fun z hz => hi z (.tail _ hz)) (and_t hn).2 fun z hz => look_snoc (hl z (.tail _ hz)) fun q => nodupS_not hn (q ▸ hz)
    rw [List.append_assoc] at ih
    rw [List.zip_cons_cons, List.forIn_cons, hf (n, w) sl (hi n (.head _)) (hl n (.head _))]
    exact ih
theorem binds_init {s : Shared} {fd : FuncData} {as : List Arg} {ds : List Expr} {self : Str} {ns : List Str} {x : Value} {ws : List Value} (hp : fd.params = ⟨[], as, none, [], [], none, ds⟩) (has : as.map (·.arg) = self :: ns) (hd : fd.defaults = .none ∨ ∃ T o items n, fd.defaults = .ref T ∧ s.heap.get? T = some o ∧ o.data = .seq items n)
    (hn : nodupS (self :: ns) = true) (hl : ws.length = ns.length) : BindsTo s fd ⟨[x], ns.zip ws⟩ ((self :: ns).zip (x :: ws)) := by
  have := binds_of (s := s) (fd := fd) (as := as) (args := ⟨[x], ns.zip ws⟩) (ws := x :: ws) hp hd (has ▸ hn) (by rw [has, List.length_cons, List.length_cons, hl]) (by rw [has]; exact Nat.succ_le_succ (Nat.zero_le _)) (by
    rw [has]
    intro f hf
    show forIn (ns.zip ws) ((self, x) :: ns.zip [], []) f = _
    rw [List.zip_nil_right]
    refine (forIn_grow (ns := self :: ns) hf ns ws [(self, x)] (fun _ h => List.mem_cons_of_mem _ h) (and_t hn).2 fun z hz => lookS_cons.trans (if_neg fun (e : z = self) => nodupS_not hn (e ▸ hz))).trans rfl)
  rw [has] at this
  exact this
end Mine
set_option genSizeOf false
set_option genInjectivity false
set_option maxRecDepth 100000
namespace Mine
open PySem PySem.W PySem.Calls PyProof.Rows

section
variable {wi : Option WrapI} {p : Program} {w : World} {X : PX} {N : Addr} {s : Shared} {l m : List (Str × Value)} {names : List Str} {pm : Value}

theorem reps_of {Z : Stat} {c : Cn} {f : Expr → Option D} : ∀ {es : List Expr} {vs : List Value} {ds : List D}, es.length = vs.length → (∀ (i : Nat) (e : Expr) (v : Value), es[i]? = some e → vs[i]? = some v → ∀ d, f e = some d → RepD Z c d v) → allSome (es.map f) = some ds → RepDs Z c ds vs
  | [], [], ds, _, _, h => some_eq h ▸ rfl
  | e :: es, v :: vs, ds, hl, hh, h => by
    obtain ⟨d, e1, h⟩ := optB_iff (show (optB (f e) fun d => optB (allSome (es.map f)) fun l => some (d :: l)) = some ds from h)
    obtain ⟨l', e2, h⟩ := optB_iff h
    cases some_eq h
    exact ⟨v, vs, rfl, hh 0 e v rfl rfl d e1, reps_of (Nat.succ.inj hl) (fun i e' v' h1 h2 => hh (i + 1) e' v' h1 h2) e2⟩
  | [], _ :: _, _, hl, _, _ => nomatch hl
  | _ :: _, [], _, hl, _, _ => nomatch hl
theorem repks_of {Z : Stat} {c : Cn} {f : Expr → Option D} : ∀ {es : List Expr} {kvs : List (Int × Value)} {ds : List D}, es.length = kvs.length → (∀ (i : Nat) (e : Expr) (kv : Int × Value), es[i]? = some e → kvs[i]? = some kv → ∀ d, f e = some d → RepD Z c d kv.2) → allSome (es.map f) = some ds → RepKs Z c ((kvs.map (·.1)).zip ds) kvs
  | [], [], ds, _, _, h => some_eq h ▸ rfl
  | e :: es, (k, v) :: kvs, ds, hl, hh, h => by
    obtain ⟨d, e1, h⟩ := optB_iff (show (optB (f e) fun d => optB (allSome (es.map f)) fun l => some (d :: l)) = some ds from h)
    obtain ⟨l', e2, h⟩ := optB_iff h
    cases some_eq h
    exact ⟨v, kvs, rfl, hh 0 e (k, v) rfl rfl d e1, repks_of (Nat.succ.inj hl) (fun i e' v' h1 h2 => hh (i + 1) e' v' h1 h2) e2⟩
  | [], _ :: _, _, hl, _, _ => nomatch hl
  | _ :: _, [], _, hl, _, _ => nomatch hl
theorem notTab_dict {p : Program} {w : World} {o : Obj} {kvs : List (Int × Value)} (h : o.IsDictOf (intKind p w) kvs) : notTab o = true := by
  obtain ⟨es, ep, _, hd, _⟩ := h
  unfold notTab
  rw [hd]
theorem data_rep {Z : Stat} {c : Cn} {h : Heap} (hG : ∀ a o, h.get? a = some o → notTab o = true → c.G a = some o) {n₀ : Nat} {e : Expr} {v : Value} (Dt : DataIs n₀ h e v) : ∀ n d, dataD n e = some d → RepD Z c d v := by
  induction Dt with
  | const hv => exact fun n d hd => by cases n <;> exact const_rep hd hv
  | list ha hg hl _ ih =>
    intro n d hd
    cases n with
    | zero => exact none_some hd
    | succ n =>
      obtain ⟨ds, hds, e⟩ := optB_iff hd
      exact some_eq e ▸ (mkList_as (reps_of (Z := Z) (c := c) hl (fun i e v h1 h2 d hd => ih i e v h1 h2 n d hd) hds)).rep (n := 0) (hG _ _ hg rfl)
  | dict ha hg hi hk hm hl _ ih =>
    intro n d hd
    cases n with
    | zero => exact none_some hd
    | succ n =>
      obtain ⟨is, his, e⟩ := optB_iff hd
      obtain ⟨ds, hds, e⟩ := optB_iff e
      have RR := repks_of (Z := Z) (c := c) hl (fun i e v h1 h2 d hd => ih i e v h1 h2 n d hd) hds
      rw [hm, some_eq (hk.symm.trans his)] at RR
      exact some_eq e ▸ ⟨_, _, _, rfl, hG _ _ hg (notTab_dict (hi Z.P Z.w)), hi _ _, RR⟩

theorem boot_bi (P : Params) (b : Bi) : (boot_heap P).nsMap builtinsNs (Str.ofString b.id) = some (biV b) := by cases b <;> kernel_rfl
theorem boot_m0 (P : Params) (b : Bi) : m0 P (Str.ofString b.id) = none := by cases b <;> kernel_rfl
theorem biD_spec {x : Str} {d : D} : ∀ {l : List Bi}, biD x l = some d → ∃ b ∈ l, x = Str.ofString b.id ∧ d = .bi b
  | [], h => none_some h
  | b :: r, h => by
    have e : biD x (b :: r) = if sEq x (Str.ofString b.id) = true then some (.bi b) else biD x r := rfl
    rw [e] at h
    by_cases q : sEq x (Str.ofString b.id) = true
    · rw [if_pos q] at h; exact ⟨b, .head _, sEq_iff.mp q, (some_eq h).symm⟩
    · rw [if_neg q] at h
      obtain ⟨b', h1, h2⟩ := biD_spec h
      exact ⟨b', .tail _ h1, h2⟩
inductive FaIs (b : List Stmt) (x : Str) : Prop
  | mk (args : Arguments) (body : List Stmt) (deco : List Expr) (ret : Option Expr) (tp : List TypeParam) (scope : Scope) (ts : Option Scope) (bind : Str) (pos : Pos) (e : findSt x b = some (.FunctionDef x args body deco ret tp scope ts bind pos)) : FaIs b x
theorem fa_iff {x : Str} {b : List Stmt} (h : isFnSt (findSt x b) = true) : FaIs b x :=
  let ⟨_, q, args, body, deco, ret, tp, scope, ts, bind, pos, e⟩ := isFnSt_iff h
  ⟨args, body, deco, ret, tp, scope, ts, bind, pos, e ▸ q⟩
theorem faOf_spec {isM : Bool} {x : Str} {a : Addr} (h : faOf X l m isM x = some a) : FaIs (X.part isM) x := fa_iff (if_some rfl h).1
theorem ns_hid (T : TabIn wi s.heap) {a : Addr} {f : Str → Option Value} (n : s.heap.Ns a f) {h' : Heap} (hs : ∀ b o, hid wi s.heap b = some o → h'.get? b = some o) : h'.Ns a f := by
  obtain ⟨o, es, ep, e, hd, r⟩ := n
  exact ⟨o, es, ep, hs _ _ (hid_of T e (by unfold notTab; rw [hd])), hd, r⟩
theorem Ground.ns_of (G : Ground wi p w.params X N s.heap l m names pm) {x : Str} {v : Value} (h : m.lookup x = some v) {h' : Heap} (hs : ∀ b o, hid wi s.heap b = some o → h'.get? b = some o) : GlobIs h' x v := by
  refine .inl ⟨_, ns_hid G.tab G.g hs, ?_⟩
  rw [h]
noncomputable def GlobOK (wi : Option WrapI) (p : Program) (w : World) (X : PX) (N : Addr) (s : Shared) (l m : List (Str × Value)) (x : Str) (d : D) : Prop :=
  ∃ v, RepD (statOf wi p w X N s l m) ⟨(statOf wi p w X N s l m).G₀, [], none⟩ d v ∧ ∀ h, Sub (statOf wi p w X N s l m).G₀ h → GlobIs h x v
theorem data_glob (G : Ground wi p w.params X N s.heap l m names pm) {x : Str} {q r : Pos} {e : Expr} {d : D} (hst : MOK s.heap m (.Assign [.Name x q] e r)) (hx : sEq x "__name__" = false) (hd : dataD 6 e = some d) : GlobOK wi p w X N s l m x d := by
  cases hst with
  | data hn hl D => exact ⟨_, data_rep (fun a o e n => hid_of G.tab e n) D 6 _ hd, fun h hs => G.ns_of hl hs⟩
  | name => exact ff (hx.symm.trans (by rfl))
theorem top_glob (G : Ground wi p w.params X N s.heap l m names pm) {x : Str} {d : D} (h : topD X x = some d) : GlobOK wi p w X N s l m x d := by
  obtain ⟨st, q, h⟩ := optB_iff h
  have hst := G.md _ (findSt_spec q).1
  rcases (findSt_spec q).2 with ⟨args, body, deco, ret, tp, scope, ts, bind, pos, e⟩ | ⟨p1, e, p2, e'⟩
  · rw [e] at q h
    obtain ⟨a, dv, dV, c', pm', e1, e2, F⟩ := G.fnM q
    exact some_eq h ▸ ⟨.ref a, ⟨a, rfl, e2⟩, fun h hs => G.ns_of e1 hs⟩
  · rw [e'] at h hst
    obtain ⟨h1, h2⟩ := noB_iff h
    exact data_glob G hst h1 h2
theorem bi_glob (G : Ground wi p w.params X N s.heap l m names pm) {b : Bi} (hb : p.boundNames.contains (Str.ofString b.id) = false) : GlobOK wi p w X N s l m (Str.ofString b.id) (.bi b) := by
  refine ⟨biV b, rfl, fun h hs => .inr ⟨_, _, ns_hid G.tab G.g hs, ?_, ns_hid G.tab G.b hs, boot_bi _ _⟩⟩
  rw [lookup_none_of fun hm => ff (hb.symm.trans (G.bound _ hm))]
  exact boot_m0 _ b
theorem glob_glob (G : Ground wi p w.params X N s.heap l m names pm) (o5 : ∀ b ∈ biNames, p.boundNames.contains (Str.ofString b.id) = false) {x : Str} {d : D} (h : glob X x = some d) : GlobOK wi p w X N s l m x d := by
  unfold glob at h
  by_cases q : sEq x X.cname = true
  · rw [if_pos q] at h
    exact some_eq h ▸ sEq_iff.mp q ▸ ⟨.ref (N + 1), rfl, fun h hs => G.ns_of G.look hs⟩
  · rw [if_neg q] at h
    rcases orB_iff h with ⟨d', hd, e⟩ | h
    · exact some_eq e ▸ top_glob G hd
    · obtain ⟨b, hb, rfl, rfl⟩ := biD_spec h
      exact bi_glob G (o5 b hb)
theorem ground_base (G : Ground wi p w.params X N s.heap l m names pm) (ok : okX p X names = true) : BaseOK (statOf wi p w X N s l m) (hidF wi s.heap) := by
  refine ⟨ground_cls G ok, fun x d h => glob_glob G (okX_split ok).2.2.2.2 h, fun h hs => ?_, fun mm x a h => ?_⟩
  · have e := hs _ _ (show (statOf wi p w X N s l m).G₀ cStatics = _ from hid_of G.tab G.cst rfl)
    refine ⟨_, .of_isNs ?_, ?_⟩
    · show (h.isNs cStatics) = true
      unfold Heap.isNs; rw [e]; simp
    · show (h.nsMap cStatics) "sys.recursionlimit" = none
      unfold Heap.nsMap; rw [e]; simp [nsFind, findBy]
  · have h : faOf X l m mm x = some a := h
    obtain ⟨args, body, deco, ret, tp, scope, ts, bind, pos, hf⟩ := faOf_spec h
    cases mm with
    | true =>
      obtain ⟨a', dv, dV, c', e1, e2, F⟩ := G.fn hf
      cases some_eq (h.symm.trans e2)
      exact ⟨_, _, hid_of G.tab F.fn rfl, rfl⟩
    | false =>
      obtain ⟨a', dv, dV, c', pm', e1, e2, F⟩ := G.fnM hf
      cases some_eq (h.symm.trans e2)
      exact ⟨_, _, hid_of G.tab F.fn rfl, rfl⟩
theorem argNs_spec {args : Arguments} {ns : List Str} (h : argNs args = some ns) : ∃ as ds, args = ⟨[], as, none, [], [], none, ds⟩ ∧ ns = as.map (·.arg) := by
  obtain ⟨h1, h2⟩ := if_some rfl h
  exact ⟨_, _, plainArgs_spec h1, (some_eq h2).symm⟩
theorem fn_obj {Z : Stat} {n₀ : Nat} {a name qual params body scope pm dv dV c'} (hG : ∀ b o, s.heap.get? b = some o → notTab o = true → Z.G₀ b = some o) (F : FnAt n₀ s.heap a name qual params body scope pm dv dV c') :
    FnObj Z ⟨params, body, scope⟩ (defFd name qual params body scope mainGlobals dV .none none pm (.ref c') .none) a ∧
    (∀ s' : Shared, Sub Z.G₀ s'.heap → (dV = .none ∨ ∃ T o items n, dV = .ref T ∧ s'.heap.get? T = some o ∧ o.data = .seq items n)) := by
  refine ⟨⟨⟨_, hG _ _ F.fn rfl, rfl⟩, rfl, rfl, rfl, rfl, rfl, fun h hs => ?_⟩, fun s' hs => ?_⟩
  · obtain ⟨c, o, vs, t, e, g, hd, hq⟩ := F.cr
    refine ⟨c, o, vs, t, e, hs _ _ (hG _ _ g ?_), hd, hq⟩
    unfold notTab
    rw [hd]
    exact decide_eq_true (Nat.lt_of_le_of_lt (Nat.zero_le _) (Array.getElem?_eq_some_iff.mp hq).1)
  · rcases F.dfl with ⟨_, e⟩ | ⟨T, _, e, _, g⟩
    · exact .inl e
    · exact .inr ⟨T, _, _, _, e, hs _ _ (hG _ _ g rfl), rfl⟩
theorem fn_binds (T : TabIn wi s.heap) {F : Fn} {a : Addr} {args : Arguments} {body : List Stmt} {scope : Scope} {n₀ : Nat} {name qual : Str} {pm : Value} {dv : List Value} {dV : Value} {c' : Addr} (hnd : nodupS (args.args.map (·.arg)) = true) (hF : F = ⟨args, body, scope⟩) (Fa : FnAt n₀ s.heap a name qual args body scope pm dv dV c') :
    ∃ fd, FnObj (statOf wi p w X N s l m) F fd a ∧ ∀ ns, argNs F.args = some ns → ∀ (s' : Shared) (ws : List Value), Sub (statOf wi p w X N s l m).G₀ s'.heap → ws.length = ns.length → BindsTo s' fd ⟨ws, []⟩ (ns.zip ws) := by
  subst hF
  obtain ⟨h1, h2⟩ := fn_obj (Z := statOf wi p w X N s l m) (fun b o e n => hid_of T e n) Fa
  refine ⟨_, h1, fun ns hns s' ws hs hl => ?_⟩
  obtain ⟨as, ds, e1, rfl⟩ := argNs_spec hns
  have e1 : args = _ := e1
  rw [e1] at hnd
  exact binds_pos (fd := defFd name qual args body scope mainGlobals dV .none none pm (.ref c') .none) e1 (h2 s' hs) hnd hl
noncomputable def fnSt : Option Stmt → Option Fn
  | some (.FunctionDef _ args body _ _ _ scope _ _ _) => some ⟨args, body, scope⟩
  | _ => none
theorem fnOf_is {F : Fn} {isM : Bool} {x : Str} {args body deco ret tp scope ts bind pos} (hf : findSt x (X.part isM) = some (.FunctionDef x args body deco ret tp scope ts bind pos)) (hF : fnOf X isM x = some F) : F = ⟨args, body, scope⟩ := by
  have e : fnOf X isM x = fnSt (findSt x (X.part isM)) := by cases isM <;> rfl
  rw [e, hf] at hF
  exact (some_eq hF).symm
theorem ground_fns (G : Ground wi p w.params X N s.heap l m names pm) (ok : okX p X names = true) : FnsOK (statOf wi p w X N s l m) := by
  obtain ⟨o1, o2, o3, o4, o5⟩ := okX_split ok
  refine ⟨fun mm x a F h hF => ?_⟩
  have h : faOf X l m mm x = some a := h
  obtain ⟨args, body, deco, ret, tp, scope, ts, bind, pos, hf⟩ := faOf_spec h
  have hF' := fnOf_is hf hF
  clear hF
  cases mm with
  | true =>
    obtain ⟨a', dv, dV, c', e1, e2, Fa⟩ := G.fn hf
    cases some_eq (h.symm.trans e2)
    exact fn_binds G.tab (o3 _ (findSt_spec hf).1) hF' Fa
  | false =>
    obtain ⟨a', dv, dV, c', pm', e1, e2, Fa⟩ := G.fnM hf
    cases some_eq (h.symm.trans e2)
    exact fn_binds G.tab (o4 _ (findSt_spec hf).1) hF' Fa
theorem ground_init (G : Ground wi p w.params X N s.heap l m names pm) (ok : okX p X names = true) (hi : isFnSt (findSt "__init__" X.cbody) = true) : InitOK (statOf wi p w X N s l m) (hidF wi s.heap) := by
  obtain ⟨o1, o2, o3, o4, o5⟩ := okX_split ok
  obtain ⟨args, body, deco, ret, tp, scope, ts, bind, pos, qq⟩ := fa_iff hi
  obtain ⟨a, dv, dV, c', e1, e2, Fa⟩ := G.fn qq
  obtain ⟨fd, hfd⟩ := Fa.obj
  obtain ⟨h1, h2⟩ := fn_obj (Z := statOf wi p w X N s l m) (fun b o e n => hid_of G.tab e n) Fa
  refine ⟨a, e2, G.has (fun e => ?_) e1, (fn_special G.tab hfd).1, fun F hF => ?_⟩
  · rw [e] at qq
    exact no2 (o2 _ (.head _)) qq
  · cases fnOf_is (isM := true) qq hF
    refine ⟨_, h1, fun self as' hns s' x ws hs hl => ?_⟩
    obtain ⟨as, ds, e3, e4⟩ := argNs_spec hns
    have e3 : args = _ := e3
    have hnd : nodupS (args.args.map (·.arg)) = true := o3 _ (findSt_spec qq).1
    rw [e3] at hnd
    exact binds_init e3 e4.symm (h2 s' hs) (e4 ▸ hnd) hl
end
end Mine
set_option genSizeOf false
set_option genInjectivity false
set_option maxRecDepth 100000
namespace Mine
open PySem PySem.W PySem.Calls PyProof.Rows

theorem caller_ok (n : Nat) (hn : n ≤ 30) : AOK (2 * n) callerA := by
  have h1 : callerA.depth ≤ 400 := by decide +kernel
  have h2 : callerA.units ≤ 400 := by decide +kernel
  refine ⟨rfl, ?_, ?_⟩
  · show callerA.depth + 4 * (2 * n) + 4 < 1000
    lia
  · show callerA.units + 40 * (2 * n) + 40 < 9900
    lia
/-- what the text of a method that makes a lambda must be like, looked at once -/
structure WrapT (X : PX) (W : WrapP) : Prop where
  init : sEq "__init__" W.fn = false
  def_ : isFnSt (findSt W.fn X.cbody) = true
  body_ : (fnOf X true W.fn).map (·.body) = some W.stmts
  as : ∃ as, W.as = ⟨[], as, none, [], [], none, []⟩ ∧ as.map (·.arg) = [W.xn]
theorem WrapT.body {X : PX} {W : WrapP} (T : WrapT X W) : ∃ args deco ret tp scope ts bind pos, findSt W.fn X.cbody = some (.FunctionDef W.fn args W.stmts deco ret tp scope ts bind pos) := by
  obtain ⟨args, body, deco, ret, tp, scope, ts, bind, pos, q⟩ := fa_iff T.def_
  obtain ⟨F, hF, e⟩ := Option.map_eq_some_iff.mp T.body_
  rw [fnOf_is (isM := true) q hF] at e
  have e : body = W.stmts := e
  exact ⟨args, deco, ret, tp, scope, ts, bind, pos, e ▸ q⟩
noncomputable def WrapS (X : PX) : Prop := ∀ W, X.wrap = some W → WrapT X W
section
variable {wi : Option WrapI} {p : Program} {w : World} {X : PX} {N : Addr} {s : Shared} {l m : List (Str × Value)} {names : List Str} {pm : Value}
theorem fields_pos {vs : Array Value} {i : Nat} {v : Value} {o : Obj} (hd : o.data = .fields vs) (e : vs[i]? = some v) : notTab o = true := by
  unfold notTab
  rw [hd]
  exact decide_eq_true (Nat.lt_of_le_of_lt (Nat.zero_le _) (Array.getElem?_eq_some_iff.mp e).1)
/-- the method's code and its table -/
structure WrapAtI (X : PX) (s : Shared) (l m : List (Str × Value)) (pm : Value) (W : WrapP) (wi : WrapI) : Prop where
  pos : wi.pos = W.lp
  qual : wi.qual = X.cname ++ "." ++ W.fn ++ ".<locals>." ++ "<lambda>"
  code : s.heap.IsCode wi.cc wi.tb #[]
  tab : s.heap.TableAt wi.cc wi.tb #[]
  fn : ∃ a args scope dv dV, faOf X l m true W.fn = some a ∧ FnAt 29 s.heap a W.fn (X.cname ++ "." ++ W.fn) args W.stmts scope pm dv dV wi.cc
theorem Ground.wrapI (G : Ground none p w.params X N s.heap l m names pm) {W : WrapP} (T : WrapT X W) : ∃ wi, WrapAtI X s l m pm W wi := by
  obtain ⟨args, deco, ret, tp, scope, ts, bind, pos, q⟩ := T.body
  obtain ⟨a, dv, dV, c', e1, e2, F⟩ := G.fn q
  obtain ⟨P', _, i, t⟩ := F.tab
  exact ⟨⟨c', P', W.lp, _⟩, rfl, rfl, i, t, a, args, scope, dv, dV, e2, F⟩
theorem old_of (hT : ∀ i, wi = some i → s.heap.TableAt i.cc i.tb #[]) {Kp : Addr → Option Obj} {c : Cn} {hs : Hs} {s' : Shared} (C : Core (statOf wi p w X N s l m) Kp c hs s') : OldK s.heap s'.heap := by
  cases wi with
  | none => exact OldK.of_keep fun b o e => C.sub _ _ (C.base _ _ e)
  | some i =>
    have tb := hT i rfl
    obtain ⟨o', e', h⟩ := C.tabAt (w := i) rfl
    refine ⟨fun b o e => ?_, fun b o e => ?_⟩
    · by_cases q : b = i.tb
      · rw [q, tb.2] at e
        cases some_eq e
        cases h with
        | nil ho => exact .inl (q ▸ e'.trans (congrArg some ho))
        | one c₁ oc vs t ho => exact .inr (.inl ⟨q ▸ tb.isCodeTable, rfl, #[], #[rawInt i.pos.line, rawInt i.pos.col, .ref c₁], rfl, q ▸ e'.trans (congrArg some ho)⟩)
      · exact .inl (C.sub _ _ (C.base _ _ ((if_neg q).trans e)))
    · by_cases q : b = i.tb
      · exact ⟨o', q ▸ e'⟩
      · exact ⟨o, C.sub _ _ (C.base _ _ ((if_neg q).trans e))⟩
theorem ground_wrapOK (G : Ground wi p w.params X N s.heap l m names pm) {W : WrapP} (T : WrapT X W) {i : WrapI} (I : WrapAtI X s l m pm W i) : WrapOK (statOf wi p w X N s l m) W i := by
  obtain ⟨as, ea, ex⟩ := T.as
  have tab : s.heap.get? i.tb = some (tabObj #[]) := I.tab.2
  refine ⟨fun h hs => ?_, fun h hs => ⟨_, ns_hid G.tab G.g hs, 4, _, ?_, by decide, by decide, ?_, hs _ _ (hid_of G.tab G.bm rfl), rfl, rfl, rfl⟩, ?_, I.pos.symm, fun s q cl pm cv ct v => ?_, fun env => ?_⟩
  · obtain ⟨o, vs, file, tf, flags, tg, inF, text, tt, e1, e2, e3, e4, r⟩ := CodeHd.of I.code I.tab
    exact ⟨o, vs, file, tf, flags, tg, inF, text, tt, hs _ _ (hid_of G.tab e1 (fields_pos e3 e4)), e2, e3, e4, r⟩
  · dsimp only; rw [G.nob]; exact m0_bm _
  · intro q
    have e := G.bm
    rw [q, tab] at e
    exact nomatch some_eq e
  · intro q
    obtain ⟨o, es, ep, e, hd, _⟩ := G.g
    rw [q, tab] at e
    rw [← some_eq e] at hd
    exact nomatch hd
  · have := binds_pos (s := s) (fd := kla_fn "<lambda>" q W.as W.lb W.lsc cl pm cv ct) (ws := [v]) ea (.inl rfl) (by rw [ex]; rfl) (by rw [ex]; rfl)
    rw [ex] at this
    exact this
  · rw [ea]; rfl
theorem ground_wraps (G : Ground wi p w.params X N s.heap l m names pm) (hW : WrapS X) (hI : ∀ W, X.wrap = some W → ∃ i, wi = some i ∧ WrapAtI X s l m pm W i) : WrapsOK (statOf wi p w X N s l m) := by
  intro W e
  obtain ⟨i, ei, I⟩ := hI W e
  have T := hW W e
  refine ⟨i, ei, ground_wrapOK G T I, T.init, fun F fd a hF ha O => ?_⟩
  obtain ⟨a', args, scope, dv, dV, e2, Fa⟩ := I.fn
  cases some_eq (e2.symm.trans ha)
  obtain ⟨args', deco, ret, tp, scope', ts, bind, pos, q⟩ := T.body
  obtain ⟨o, e3, e4⟩ := O.at_
  have e5 := (hid_of G.tab Fa.fn rfl).symm.trans e3
  rw [← some_eq e5] at e4
  cases e4
  refine ⟨by rw [fnOf_is (isM := true) q hF], rfl, I.qual.symm⟩
end
theorem call_of {p : Program} {S : Shape} {nf : Nat} {fin : List (Str × SV)} {X : PX} {nm : Str} {n : Nat} (h1 : X.rest = S.rest) (h2 : X.cbody = S.cbody) (h3 : X.cname = S.cname) (ok : okX p X ((fin ++ statS nf).map (·.1)) = true) (hi : isFnSt (findSt "__init__" X.cbody) = true)
    (hf : isFnSt (findSt nm X.rest) = true) (hn : n ≤ 30) (hW : WrapS X)
    (hev : ∀ xs : List Int, xs.length ≤ 63 → callN X n false false nm [.d (.arg xs)] ⟨[], none⟩ fun v _ => v = .d (.bool true)) :
    CallOK p nm (fun w h m => TopX S nf fin w.params h m ∧ ∀ st ∈ S.rest, MOK h m st) := by
  intro w h₁ m s a o items nn xs T hX keep hg ha hc hd hx hlen
  obtain ⟨TX, MO⟩ := hX
  obtain ⟨t, l, CM, SA, ST⟩ := TX.cls
  have G₀ : Ground none p w.params X (nf + 1) s.heap l m ((fin ++ statS nf).map (·.1)) (.str S.xn t) := by
    refine ⟨?_, ?_, SA.names, fun st hst => ?_, fun st hst => ?_, T.g.keeps keep, ?_, keep _ _ (T.keep cStatics _ (by decide) (by decide) (boot_st _)), ?_, fun x hx => (T.bound x hx).1, fun w e => (nomatch e), lookup_none_of fun hm => (T.bound _ hm).2.2 rfl, keep _ _ (T.keep 4 _ (by decide) (by decide) (boot_bm _))⟩
    · obtain ⟨t', q, e⟩ := CM.cls
      rw [h3]
      exact ⟨t', q, keep _ _ e⟩
    · exact CM.ns.at fun o e => keep _ _ e
    · rw [h2] at hst
      rw [h3]
      have := (ST st hst).keep (more := []) (h' := s.heap) (fun b o _ e => keep b o e)
      simpa using this
    · rw [h1] at hst
      have := (MO st hst).keep (more := []) (h' := s.heap) (fun b o _ e => keep b o e) (fun _ _ _ => rfl)
      simpa using this
    · obtain ⟨o, es, ep, e, r⟩ := Heap.Ns.of_isNs (boot_b w.params)
      exact ⟨o, es, ep, keep _ _ (T.keep builtinsNs _ (by decide) (by decide) e), r⟩
    · rw [h3]; exact TX.look
  obtain ⟨wi, hTb, hI⟩ : ∃ wi : Option WrapI, (∀ i, wi = some i → s.heap.TableAt i.cc i.tb #[]) ∧ ∀ W, X.wrap = some W → ∃ i, wi = some i ∧ WrapAtI X s l m (.str S.xn t) W i := by
    cases e : X.wrap with
    | none => exact ⟨none, fun _ e => (nomatch e), fun W e' => (nomatch e')⟩
    | some W =>
      obtain ⟨i, I⟩ := G₀.wrapI (hW W e)
      exact ⟨some i, fun _ e' => some_eq e' ▸ I.tab, fun W' e' => some_eq e' ▸ ⟨i, rfl, I⟩⟩
  have hT : TabIn wi s.heap := fun i e => (hTb i e).2
  have G : Ground wi p w.params X (nf + 1) s.heap l m ((fin ++ statS nf).map (·.1)) (.str S.xn t) :=
    ⟨G₀.cls, G₀.ns, G₀.names, G₀.st, G₀.md, G₀.g, G₀.b, G₀.cst, G₀.look, G₀.bound, hT, G₀.nob, G₀.bm⟩
  obtain ⟨args, body, deco, ret, tp, scope, ts, bind, pos, qq⟩ := fa_iff hf
  obtain ⟨f, dv, dV, c', pm', e1, e2, F⟩ := G.fnM qq
  refine ⟨.ref f, e1, wpAny_call ?_⟩
  have C : Core (statOf wi p w X (nf + 1) s l m) (fun _ => none) ⟨(statOf wi p w X (nf + 1) s l m).G₀, [], none⟩ ⟨[], none⟩ s := by
    refine ⟨fun _ _ e => e, fun _ _ e => hid_le e, fun _ _ e => (nomatch e), fun _ _ e => (nomatch e), rfl, ?_, ?_, ?_, fun _ _ e => (nomatch e), hg, rfl⟩
    all_goals cases wi with
    | none => first | exact fun _ hp => (nomatch hp) | exact List.nodup_nil
    | some i => first
      | exact fun p hp => (List.mem_singleton.mp hp) ▸ ⟨_, hT i rfl, .nil rfl⟩
      | exact List.nodup_cons.mpr ⟨(nomatch ·), List.nodup_nil⟩
      | exact fun p hp => (List.mem_singleton.mp hp) ▸ ⟨if_pos rfl, rfl⟩
  refine (callN_ok (ground_base G ok) (ground_wraps G hW hI) (ground_fns G ok) (ground_init G ok hi) n).1 false false nm [.d (.arg xs)] ⟨[], none⟩ (fun v _ => v = .d (.bool true)) (fun _ => none) _ s callerA (fun v s' => v = .bool true ∧ OldK s.heap s'.heap ∧ s'.os = s.os ∧ AllBare s'.gens) (fun _ _ => False) [.ref a] f (caller_ok n hn) C ⟨.ref a, [], rfl, ⟨a, o, items, nn, rfl, hid_of hT ha (by unfold notTab; rw [hd]), hc, hd, hx⟩, rfl⟩ e2 (hev xs hlen) ?_
  intro c' V v hs' s' l' C' R hV
  rw [hV] at R
  exact ⟨R, old_of hTb C', C'.os, .of_eq C'.gens⟩
end Mine
set_option genSizeOf false
set_option genInjectivity false
set_option maxRecDepth 100000
namespace Mine
open PySem PySem.W PySem.Calls PyProof.Rows
set_option maxHeartbeats 0
noncomputable def asR : Stmt → Option (List Expr × Expr × Pos)
  | .Assign ts e p => some (ts, e, p)
  | _ => none
noncomputable def retR : Stmt → Option (Option Expr × Pos)
  | .Return o p => some (o, p)
  | _ => none
noncomputable def lamR : Expr → Option (Arguments × Expr × Scope × Pos)
  | .Lambda a b s p => some (a, b, s, p)
  | _ => none
noncomputable def binR : Expr → Option (Expr × Expr × Pos)
  | .BinOp l _ r p => some (l, r, p)
  | _ => none
noncomputable def callR : Expr → Option (Expr × List Expr × Pos)
  | .Call f a _ p => some (f, a, p)
  | _ => none
noncomputable def nameR : Expr → Option (Str × Pos)
  | .Name x p => some (x, p)
  | _ => none
noncomputable def wrapR (fn : Str) (b : List Stmt) : Option WrapP :=
  optB b[0]? fun s1 => optB b[1]? fun s2 => optB (asR s1) fun q1 => optB (one q1.1) fun t => optB (nameR t) fun wn => optB (lamR q1.2.1) fun lam => optB (one lam.1.args) fun xa => optB (retR s2) fun q2 => optB q2.1 fun e =>
  optB (binR e) fun add => optB (binR add.2.1) fun sh => optB (callR sh.1) fun oc => optB (attrP oc.1) fun at_ => optB (one oc.2.1) fun ie => optB (callR ie) fun ic => optB (nameR ic.1) fun nm => optB (one ic.2.1) fun ea =>
    some ⟨fn, wn.1, wn.2, lam.1, xa.arg, lam.2.1, lam.2.2.1, lam.2.2.2, q1.2.2, add.1, at_.1, at_.2.1, at_.2.2, nm.2, ea, ic.2.2, oc.2.2, sh.2.1, sh.2.2, add.2.2, q2.2⟩
noncomputable def wfn3 : Str := Str.ofString "WrapAt"
noncomputable def body3 : List Stmt := match findSt wfn3 S3.cbody with
  | some s => (fnSt (some s)).elim [] (·.body)
  | none => []
theorem w3_some : (wrapR wfn3 body3).isSome = true := by kernel_rfl
noncomputable def W3 : WrapP := (wrapR wfn3 body3).get w3_some
theorem w3_as : W3.as = ⟨[], W3.as.args, none, [], [], none, []⟩ := by kernel_rfl
theorem w3_arg : W3.as.args.map (·.arg) = [W3.xn] := by kernel_rfl
theorem w3_init : sEq "__init__" W3.fn = false := by kernel_rfl
noncomputable def PX3 : PX := ⟨some W3, S3.rest, S3.cbody, S3.cname, [Str.ofString "steps", Str.ofString "octets", Str.ofString "memory", Str.ofString "code", Str.ofString "before"], []⟩
theorem w3_def : isFnSt (findSt W3.fn PX3.cbody) = true := by kernel_rfl
theorem w3_body : (fnOf PX3 true W3.fn).map (·.body) = some W3.stmts := by kernel_rfl
theorem ws3 : WrapS PX3 := fun W e => some_eq e ▸ ⟨w3_init, w3_def, w3_body, _, w3_as, w3_arg⟩
theorem okX3 : okX P3 PX3 ((F3.2 ++ statS 1426).map (·.1)) = true := by kernel_rfl
theorem hi3 : isFnSt (findSt "__init__" PX3.cbody) = true := by kernel_rfl
theorem hf3 : isFnSt (findSt nm3 PX3.rest) = true := by kernel_rfl
theorem call3 (hev : ∀ xs : List Int, xs.length ≤ 63 → callN PX3 20 false false nm3 [.d (.arg xs)] ⟨[], none⟩ fun v _ => v = .d (.bool true)) : CallOK P3 nm3 X3 :=
  call_of (S := S3) (nf := 1426) (fin := F3.2) rfl rfl rfl okX3 hi3 hf3 (by decide) ws3 hev
noncomputable def d3 : Option DefP := defIn nm3 S3.rest
theorem d3_some : d3.isSome = true := by kernel_rfl
theorem pin3 (w : World) (h : Heap) (m : List (Str × Value)) (T : TopEnd P3 w.params h m) (x : X3 w h m) : isTheDefsW P3 h nm3 := by
  have e : d3 = some (d3.get d3_some) := by simp
  refine pin_of (d := d3.get d3_some) T (x.2 _ (defIn_mem e)) ?_ ?_ ?_ ?_ <;> kernel_rfl
theorem law3 (k1 : PySem.Challenge.rw_im0096_03.row.wellSaid = true) (hev : ∀ xs : List Int, xs.length ≤ 63 → callN PX3 20 false false nm3 [.d (.arg xs)] ⟨[], none⟩ fun v _ => v = .d (.bool true)) : PySem.Challenge.rw_im0096_03.row.Holds :=
  head3 k1 pin3 (call3 hev)
end Mine
set_option genSizeOf false
set_option genInjectivity false
set_option maxRecDepth 100000
namespace Mine
open PySem PySem.W PySem.Calls PyProof.Rows Builtin

/-! ## the machine, told shortly -/
structure Cpu where
  m : List Int
  pc : Int
  sp : Int
  a : Int
  x : Int
  y : Int
  p : Int
  exc : Int
  addc : V
  cyc : Int
noncomputable def flds (ml : Nat) (st : Int) (σ : Cpu) : Loc :=
  [("name", .d (.str "6502")), ("byteMask", .d (.int 255)), ("addrMask", .d (.int 65535)), ("addrHighMask", .d (.int 65280)), ("spBase", .d (.int 256)),
   ("excycles", .d (.int σ.exc)), ("addcycles", σ.addc), ("processorCycles", .d (.int σ.cyc)), ("memory", .loc ml), ("start_pc", .d (.int st)),
   ("pc", .d (.int σ.pc)), ("sp", .d (.int σ.sp)), ("a", .d (.int σ.a)), ("x", .d (.int σ.x)), ("y", .d (.int σ.y)), ("p", .d (.int σ.p))]
noncomputable abbrev CK := Cpu → Prop
noncomputable abbrev Ad := Cpu → (Int → Prop) → Prop
noncomputable abbrev Op := Cpu → CK → Prop
noncomputable def rd (m : List Int) (i : Int) (k : Int → Prop) : Prop := at' i m.length fun n => k (m.getD n 0)
noncomputable def wr (σ : Cpu) (i v : Int) (k : CK) : Prop := at' i σ.m.length fun n => k { σ with m := σ.m.set n v }
noncomputable def shl (a b : Int) (k : Int → Prop) : Prop := (0 ≤ b ∧ b ≤ 1000 ∧ a.natAbs < 2 ^ 62) ∧ k (a * 2 ^ b.toNat)
noncomputable def shr (a b : Int) (k : Int → Prop) : Prop := 0 ≤ b ∧ k (a.fdiv (2 ^ b.toNat))
noncomputable def ok1 (i : Int) (n : Nat) (P : Prop) : Prop := small i ∧ 0 ≤ idx i n ∧ idx i n < n ∧ P

/-! ### where an octet stands -/
noncomputable def immA : Ad := fun σ k => k σ.pc
noncomputable def zpA : Ad := fun σ k => rd σ.m σ.pc k
noncomputable def zpxA : Ad := fun σ k => rd σ.m σ.pc fun v => k (bitAnd 255 (σ.x + v))
noncomputable def absA : Ad := fun σ k => rd σ.m σ.pc fun lo => rd σ.m (σ.pc + 1) fun hi => shl hi 8 fun h => k (lo + h)

/-! ### what is done -/
noncomputable def fnz (v : Int) : Op := fun σ k =>
  br (v == 0) (k { σ with p := bitOr (bitAnd σ.p (bitNot (bitOr 2 128))) 2 }) (k { σ with p := bitOr (bitAnd σ.p (bitNot (bitOr 2 128))) (bitAnd v 128) })
noncomputable def adv (n : Int) (op : Op) : Op := fun σ k => op σ fun σ => k { σ with pc := σ.pc + n }
noncomputable def lda (ad : Ad) : Op := fun σ k => ad σ fun i => rd σ.m i fun v => fnz v { σ with a := v } k
noncomputable def ldx (ad : Ad) : Op := fun σ k => ad σ fun i => rd σ.m i fun v => fnz v { σ with x := v } k
noncomputable def ldy (ad : Ad) : Op := fun σ k => ad σ fun i => rd σ.m i fun v => fnz v { σ with y := v } k
noncomputable def sta (ad : Ad) : Op := fun σ k => ad σ fun i => wr σ i σ.a k
noncomputable def stx (ad : Ad) : Op := fun σ k => ad σ fun i => wr σ i σ.x k
noncomputable def sty (ad : Ad) : Op := fun σ k => ad σ fun i => wr σ i σ.y k
noncomputable def ora (ad : Ad) : Op := fun σ k => ad σ fun i => rd σ.m i fun v => fnz (bitOr σ.a v) { σ with a := bitOr σ.a v } k
noncomputable def and_ (ad : Ad) : Op := fun σ k => ad σ fun i => rd σ.m i fun v => fnz (bitAnd σ.a v) { σ with a := bitAnd σ.a v } k
noncomputable def eor (ad : Ad) : Op := fun σ k => ad σ fun i => rd σ.m i fun v => fnz (bitXor σ.a v) { σ with a := bitXor σ.a v } k
noncomputable def orFl (c : Bool) (v : Int) : Op := fun σ k => br c (k { σ with p := bitOr σ.p v }) (k σ)
noncomputable def zn (v : Int) : Op := fun σ k => br (v == 0) (k { σ with p := bitOr σ.p 2 }) (k { σ with p := bitOr σ.p (bitAnd v 128) })
/-- the same, asked the other way round -/
noncomputable def nz (v : Int) : Op := fun σ k => br (v != 0) (k { σ with p := bitOr σ.p (bitAnd v 128) }) (k { σ with p := bitOr σ.p 2 })
noncomputable def noP (v : Int) (σ : Cpu) : Cpu := { σ with p := bitAnd σ.p (bitNot v) }
noncomputable def adcB (d : Int) : Op := fun σ k =>
  (fun k' : Int → Prop => br (bitAnd σ.p 1 != 0) (k' 1) (k' 0)) fun tmp =>
    orFl (bitAnd (bitAnd (bitNot (bitXor σ.a d)) (bitXor σ.a (d + σ.a + tmp))) 128 != 0) 64 (noP 195 σ) fun σ =>
    (fun k' : Cpu → Int → Prop => br (decide (255 < d + σ.a + tmp)) (k' { σ with p := bitOr σ.p 1 } (bitAnd (d + σ.a + tmp) 255)) (k' σ (d + σ.a + tmp))) fun σ r =>
    zn r σ fun σ => k { σ with a := r }
noncomputable def adcD (d : Int) : Op := fun σ₀ k => (fun σ : Cpu =>
  (fun g : Int → Int → Prop => br (decide (9 < bitAnd d 15 + bitAnd σ.a 15 + bitAnd σ.p 1)) (g 6 1) (g 0 0)) fun adj0 hc =>
  shr d 4 fun d4 => shr σ.a 4 fun a4 =>
  (fun g : Int → Int → Prop => br (decide (9 < bitAnd d4 15 + bitAnd a4 15 + hc)) (g 6 1) (g 0 0)) fun adj1 dc =>
  shl (bitAnd (bitAnd d4 15 + bitAnd a4 15 + hc) 15) 4 fun s =>
  (fun alu : Int => zn alu (noP 195 σ) fun σ => orFl (dc == 1) 1 σ fun σ => orFl (bitAnd (bitAnd (bitNot (bitXor σ.a d)) (bitXor σ.a alu)) 128 != 0) 64 σ fun σ' =>
    shl (bitAnd (bitAnd (bitAnd d4 15 + bitAnd a4 15 + hc) 15 + adj1) 15) 4 fun t => k { σ' with a := t + bitAnd (bitAnd (bitAnd d 15 + bitAnd σ₀.a 15 + bitAnd σ₀.p 1) 15 + adj0) 15 }) (s + bitAnd (bitAnd d 15 + bitAnd σ.a 15 + bitAnd σ.p 1) 15)) σ₀
noncomputable def adc (ad : Ad) : Op := fun σ k => ad σ fun i => rd σ.m i fun d => br (bitAnd σ.p 8 != 0) (adcD d σ k) (adcB d σ k)
noncomputable def sbcB (d : Int) : Op := fun σ k =>
  (fun r : Int => orFl (bitAnd (bitAnd (bitXor σ.a d) (bitXor σ.a r)) 128 != 0) 64 (noP 195 σ) fun σ =>
    orFl (bitAnd r 255 == 0) 2 σ fun σ => orFl (decide (255 < r)) 1 σ fun σ => k { σ with p := bitOr σ.p (bitAnd (bitAnd r 255) 128), a := bitAnd r 255 }) (σ.a + bitAnd (bitNot d) 255 + bitAnd σ.p 1)
noncomputable def sbcD (d : Int) : Op := fun σ k =>
  (fun g : Int → Int → Prop => br (decide (bitAnd σ.a 15 + bitAnd (bitNot d) 15 + bitAnd σ.p 1 ≤ 15)) (g 0 10) (g 1 0)) fun hc adj0 =>
  shr σ.a 4 fun a4 => shr (bitNot d) 4 fun d4 =>
  (fun g : Int → Prop => br (decide (bitAnd a4 15 + bitAnd d4 15 + hc ≤ 15)) (shl 10 4 g) (g 0)) fun adj1 =>
  (fun g : Int → Prop => br (decide (255 < σ.a + bitAnd (bitNot d) 255 + bitAnd σ.p 1)) (g 1) (g 0)) fun dc =>
  (fun alu : Int => shr (alu + adj1) 4 fun n1 => zn alu (noP 195 σ) fun σ => orFl (dc == 1) 1 σ fun σ => orFl (bitAnd (bitAnd (bitXor σ.a d) (bitXor σ.a alu)) 128 != 0) 64 σ fun σ' =>
    shl (bitAnd n1 15) 4 fun t => k { σ' with a := t + bitAnd (alu + adj0) 15 }) (bitAnd (σ.a + bitAnd (bitNot d) 255 + bitAnd σ.p 1) 255)
noncomputable def sbc (ad : Ad) : Op := fun σ k => ad σ fun i => rd σ.m i fun d => br (bitAnd σ.p 8 != 0) (sbcD d σ k) (sbcB d σ k)
noncomputable def cmp (ad : Ad) (reg : Cpu → Int) : Op := fun σ k => ad σ fun i => rd σ.m i fun d =>
  (fun σ' : Cpu => (fun k' : CK => br (reg σ == d) (k' { σ' with p := bitOr σ'.p (bitOr 1 2) }) (br (decide (d < reg σ)) (k' { σ' with p := bitOr σ'.p 1 }) (k' σ'))) fun σ' => k { σ' with p := bitOr σ'.p (bitAnd (reg σ - d) 128) }) (noP 131 σ)
/-- shifts: of a, or of an octet of the memory -/
noncomputable def onA (f : Int → Cpu → (Int → CK) → Prop) : Op := fun σ k => f σ.a σ fun v σ => k { σ with a := v }
noncomputable def onM (ad : Ad) (f : Int → Cpu → (Int → CK) → Prop) : Op := fun σ k => ad σ fun i => rd σ.m i fun d => f d σ fun v σ => wr σ i v k
noncomputable def aslF (d : Int) (σ : Cpu) (k : Int → CK) : Prop := orFl (bitAnd d 128 != 0) 1 (noP 131 σ) fun σ => shl d 1 fun s => nz (bitAnd s 255) σ fun σ => k (bitAnd s 255) σ
noncomputable def lsrF (d : Int) (σ : Cpu) (k : Int → CK) : Prop :=
  (fun σ : Cpu => shr d 1 fun s => br (s != 0) (k s σ) (k s { σ with p := bitOr σ.p 2 })) { noP 131 σ with p := bitOr (noP 131 σ).p (bitAnd d 1) }
noncomputable def rolF (d : Int) (σ : Cpu) (k : Int → CK) : Prop :=
  (fun k' : Int → CK => br (bitAnd σ.p 1 != 0) (br (bitAnd d 128 != 0) (shl d 1 fun s => k' (bitOr s 1) σ) (shl d 1 fun s => k' (bitOr s 1) (noP 1 σ)))
    (br (bitAnd d 128 != 0) (shl d 1 fun s => k' s { σ with p := bitOr σ.p 1 }) (shl d 1 fun s => k' s σ))) fun s σ => fnz (bitAnd s 255) σ fun σ => k (bitAnd s 255) σ
noncomputable def rorF (d : Int) (σ : Cpu) (k : Int → CK) : Prop :=
  (fun k' : Int → CK => br (bitAnd σ.p 1 != 0) (br (bitAnd d 1 != 0) (shr d 1 fun s => k' (bitOr s 128) σ) (shr d 1 fun s => k' (bitOr s 128) (noP 1 σ)))
    (br (bitAnd d 1 != 0) (shr d 1 fun s => k' s { σ with p := bitOr σ.p 1 }) (shr d 1 fun s => k' s σ))) fun s σ => fnz s σ fun σ => k s σ
noncomputable def branch : Op := fun σ k => rd σ.m σ.pc fun d =>
  (fun k' : Int → Prop => br (bitAnd d 128 != 0) (k' (σ.pc + 1 - bitXor d 255 - 1)) (k' (σ.pc + 1 + d))) fun ad =>
    br (bitAnd (σ.pc + 1) 65280 != bitAnd ad 65280) (k { σ with exc := σ.exc + 1 + 1, pc := bitAnd ad 65535 }) (k { σ with exc := σ.exc + 1, pc := bitAnd ad 65535 })
noncomputable def bst (f : Int) : Op := fun σ k => br (bitAnd σ.p f != 0) (branch σ k) (k { σ with pc := σ.pc + 1 })
noncomputable def bcl (f : Int) : Op := fun σ k => br (bitAnd σ.p f != 0) (k { σ with pc := σ.pc + 1 }) (branch σ k)
noncomputable def clr (f : Int) : Op := fun σ k => k (noP f σ)
noncomputable def set_ (f : Int) : Op := fun σ k => k { σ with p := bitOr σ.p f }
noncomputable def jmp : Op := fun σ k => absA σ fun i => k { σ with pc := i }
noncomputable def push (v : Int) : Op := fun σ k => wr σ (σ.sp + 256) (bitAnd v 255) fun σ => k { σ with sp := bitAnd (σ.sp - 1) 255 }
noncomputable def pull (σ : Cpu) (k : Int → CK) : Prop := rd σ.m (bitAnd (σ.sp + 1) 255 + 256) fun v => k v { σ with sp := bitAnd (σ.sp + 1) 255 }
noncomputable def pha : Op := fun σ k => push σ.a σ k
noncomputable def pla : Op := fun σ k => pull σ fun v σ => fnz v { σ with a := v } k
noncomputable def step1 (op ex ct : Int) (i : Op) : Op := fun σ k =>
  ok1 op 256 (ok1 op 256 (i { σ with pc := bitAnd (σ.pc + 1) 65535, exc := 0, addc := .d (.int ex) } fun σ => ok1 op 256 (k { σ with pc := bitAnd σ.pc 65535, cyc := σ.cyc + (ct + σ.exc) })))
/-- the machine's step, behind the reading of its code -/
noncomputable def stepR (X : PX) (d : Nat) (hs : Hs) (op : Int) (K : KE) : Prop := match fnOf X true "step" with
  | some F => exL (evS X F.scope.names false (fun m e => evE X (callN X (d + 7)) depthE F.scope.names m e) depthS) (F.body.drop 1) [("self", .d .mpu), ("instructCode", .d (.int op))] hs fun f _ hs' => retC false hs.hp.length (retV f) hs' K
  | none => False
end Mine
set_option genSizeOf false
set_option genInjectivity false
set_option maxRecDepth 100000
namespace Mine
open PySem PySem.W PySem.Calls PyProof.Rows Builtin

/-! ## more of the machine -/
noncomputable abbrev AdX := Cpu → (Int → CK) → Prop
noncomputable def wrapA (a : Int) (σ : Cpu) (k : Int → Prop) : Prop := rd σ.m a fun lo => rd σ.m (bitAnd a 65280 + bitAnd (a + 1) 255) fun hi => shl hi 8 fun h => k (lo + h)
noncomputable def crossed (a1 a2 : Int) (σ : Cpu) (k : Int → CK) : Prop := br (bitAnd a1 65280 != bitAnd a2 65280) (k a2 { σ with exc := σ.exc + 1 }) (k a2 σ)
noncomputable def indYc : AdX := fun σ k => rd σ.m σ.pc fun p => wrapA p σ fun a1 => crossed a1 (bitAnd (a1 + σ.y) 65535) σ k
noncomputable def ldaX (ad : AdX) : Op := fun σ k => ad σ fun i σ => rd σ.m i fun v => fnz v { σ with a := v } k
noncomputable def incM (ad : Ad) : Op := fun σ k => ad σ fun i => rd σ.m i fun d => nz (bitAnd (d + 1) 255) { σ with p := bitAnd σ.p (bitNot (bitOr 2 128)) } fun σ => wr σ i (bitAnd (d + 1) 255) k
noncomputable def dex : Op := fun σ k => fnz (bitAnd (σ.x - 1) 255) { σ with x := bitAnd (σ.x - 1) 255 } k
noncomputable def inx : Op := fun σ k => fnz (bitAnd (σ.x + 1) 255) { σ with x := bitAnd (σ.x + 1) 255 } k
noncomputable def tay : Op := fun σ k => fnz σ.a { σ with y := σ.a } k
noncomputable def tya : Op := fun σ k => fnz σ.y { σ with a := σ.y } k
noncomputable def jmpI : Op := fun σ k => absA σ fun ta => wrapA ta σ fun i => k { σ with pc := i }
end Mine
set_option genSizeOf false
set_option genInjectivity false
set_option maxRecDepth 100000
namespace Mine
open PySem PySem.W PySem.Calls PyProof.Rows Builtin

/-! ## bits -/
theorem oct {P : Int → Bool} (h : (List.range 256).all (fun n => P (n : Nat)) = true) {v : Int} (h0 : 0 ≤ v) (h1 : v < 256) : P v = true := by
  have := List.all_eq_true.mp h v.toNat (by simp; omega)
  rwa [Int.toNat_of_nonneg h0] at this
theorem and128 {v : Int} (h0 : 0 ≤ v) (h1 : v < 256) : bitAnd v 128 = if 128 ≤ v then 128 else 0 := by
  have := oct (P := fun v => decide (bitAnd v 128 = if 128 ≤ v then 128 else 0)) (by decide +kernel) h0 h1
  simpa using this
noncomputable def pk (p : Int) : Bool × Bool × Bool × Bool := (bitAnd p 1 != 0, bitAnd p 2 != 0, bitAnd p 128 != 0, bitAnd p 64 != 0)
structure Pok (p : Int) (c z n v : Bool) : Prop where
  lo : 0 ≤ p
  hi : p < 256
  d : bitAnd p 8 = 0
  fl : pk p = (c, z, n, v)
theorem pok_map {f : Int → Int} {g : Bool × Bool × Bool × Bool → Bool × Bool × Bool × Bool} (h : (List.range 256).all (fun n => (fun p : Int => decide (bitAnd p 8 ≠ 0) || decide (0 ≤ f p ∧ f p < 256 ∧ bitAnd (f p) 8 = 0 ∧ pk (f p) = g (pk p))) (n : Nat)) = true)
    {p : Int} {c z n v c' z' n' v' : Bool} (P : Pok p c z n v) (hg : g (c, z, n, v) = (c', z', n', v')) : Pok (f p) c' z' n' v' := by
  have := oct (P := fun p : Int => decide (bitAnd p 8 ≠ 0) || decide (0 ≤ f p ∧ f p < 256 ∧ bitAnd (f p) 8 = 0 ∧ pk (f p) = g (pk p))) h P.lo P.hi
  simp only [P.d, ne_eq, not_true_eq_false, decide_false, Bool.false_or, decide_eq_true_eq] at this
  obtain ⟨a, b, c, d⟩ := this
  exact ⟨a, b, c, by rw [d, P.fl, hg]⟩
section
variable {p : Int} {c z n v : Bool}
theorem Pok.no195 (P : Pok p c z n v) : Pok (bitAnd p (bitNot 195)) false false false false := pok_map (f := fun p => bitAnd p (bitNot 195)) (g := fun _ => (false, false, false, false)) (by decide +kernel) P rfl
theorem Pok.no131 (P : Pok p c z n v) : Pok (bitAnd p (bitNot 131)) false false false v := pok_map (f := fun p => bitAnd p (bitNot 131)) (g := fun (_, _, _, v) => (false, false, false, v)) (by decide +kernel) P rfl
theorem Pok.no130 (P : Pok p c z n v) : Pok (bitAnd p (bitNot (bitOr 2 128))) c false false v := pok_map (f := fun p => bitAnd p (bitNot (bitOr 2 128))) (g := fun (c, _, _, v) => (c, false, false, v)) (by decide +kernel) P rfl
theorem Pok.no1 (P : Pok p c z n v) : Pok (bitAnd p (bitNot 1)) false z n v := pok_map (f := fun p => bitAnd p (bitNot 1)) (g := fun (_, z, n, v) => (false, z, n, v)) (by decide +kernel) P rfl
theorem Pok.or1 (P : Pok p c z n v) : Pok (bitOr p 1) true z n v := pok_map (f := fun p => bitOr p 1) (g := fun (_, z, n, v) => (true, z, n, v)) (by decide +kernel) P rfl
theorem Pok.or2 (P : Pok p c z n v) : Pok (bitOr p 2) c true n v := pok_map (f := fun p => bitOr p 2) (g := fun (c, _, n, v) => (c, true, n, v)) (by decide +kernel) P rfl
theorem Pok.or3 (P : Pok p c z n v) : Pok (bitOr p (bitOr 1 2)) true true n v := pok_map (f := fun p => bitOr p (bitOr 1 2)) (g := fun (_, _, n, v) => (true, true, n, v)) (by decide +kernel) P rfl
theorem Pok.or64 (P : Pok p c z n v) : Pok (bitOr p 64) c z n true := pok_map (f := fun p => bitOr p 64) (g := fun (c, z, n, _) => (c, z, n, true)) (by decide +kernel) P rfl
theorem Pok.or128 (P : Pok p c z n v) : Pok (bitOr p 128) c z true v := pok_map (f := fun p => bitOr p 128) (g := fun (c, z, _, v) => (c, z, true, v)) (by decide +kernel) P rfl
theorem Pok.or0 (P : Pok p c z n v) : Pok (bitOr p 0) c z n v := pok_map (f := fun p => bitOr p 0) (g := id) (by decide +kernel) P rfl
theorem Pok.C (P : Pok p c z n v) : (bitAnd p 1 != 0) = c := by have := P.fl; simp only [pk, Prod.mk.injEq] at this; exact this.1
theorem Pok.Z (P : Pok p c z n v) : (bitAnd p 2 != 0) = z := by have := P.fl; simp only [pk, Prod.mk.injEq] at this; exact this.2.1
theorem Pok.N (P : Pok p c z n v) : (bitAnd p 128 != 0) = n := by have := P.fl; simp only [pk, Prod.mk.injEq] at this; exact this.2.2.1
theorem Pok.V (P : Pok p c z n v) : (bitAnd p 64 != 0) = v := by have := P.fl; simp only [pk, Prod.mk.injEq] at this; exact this.2.2.2
theorem Pok.D (P : Pok p c z n v) : (bitAnd p 8 != 0) = false := by rw [P.d]; rfl
theorem Pok.c1 (P : Pok p c z n v) : bitAnd p 1 = if c then 1 else 0 := by
  have h := P.C
  rw [bitAnd_m1] at h ⊢
  have := P.lo
  cases c
  · simp at h ⊢; lia
  · simp at h ⊢; lia
end

/-! ## the machine, told by what matters -/
structure Q where
  m : Int → Int
  pc : Int
  sp : Int
  a : Int
  x : Int
  y : Int
  c : Bool
  z : Bool
  n : Bool
  v : Bool
structure Abs (L : Nat) (σ : Cpu) (q : Q) : Prop where
  len : σ.m.length = L
  mem : ∀ i : Nat, i < L → σ.m.getD i 0 = q.m i
  pc : σ.pc = q.pc
  sp : σ.sp = q.sp
  a : σ.a = q.a
  x : σ.x = q.x
  y : σ.y = q.y
  p : Pok σ.p q.c q.z q.n q.v
noncomputable def OpGo (L : Nat) (i : Op) (q q' : Q) : Prop := ∀ σ, Abs L σ q → ∀ k : CK, (∀ σ', Abs L σ' q' → k σ') → i σ k
noncomputable def AdGo (L : Nat) (ad : Ad) (q : Q) (i : Int) : Prop := ∀ σ, Abs L σ q → ∀ k : Int → Prop, k i → ad σ k
noncomputable def upd (m : Int → Int) (i v : Int) : Int → Int := fun j => if j = i then v else m j
noncomputable def oct? (v : Int) : Prop := 0 ≤ v ∧ v < 256
theorem nat_xor_and (a b : Nat) : (a ^^^ b) + 2 * (a &&& b) = a + b := by
  have h1 := nat_or_add_and (a ^^^ b) (a &&& b)
  have h2 := nat_or_add_and a b
  have e1 : (a ^^^ b) ||| (a &&& b) = a ||| b := by
    apply Nat.eq_of_testBit_eq
    intro i
    simp only [Nat.testBit_or, Nat.testBit_xor, Nat.testBit_and]
    cases a.testBit i <;> cases b.testBit i <;> rfl
  have e2 : (a ^^^ b) &&& (a &&& b) = 0 := by
    apply Nat.eq_of_testBit_eq
    intro i
    simp only [Nat.testBit_xor, Nat.testBit_and, Nat.zero_testBit]
    cases a.testBit i <;> cases b.testBit i <;> rfl
  rw [e1, e2] at h1
  lia
theorem bitXor_pp {x y : Int} (hx : 0 ≤ x) (hy : 0 ≤ y) : bitXor x y = ((x.toNat ^^^ y.toNat : Nat) : Int) := by
  rw [bitXor_and, bitAnd_pp hx hy]
  have := nat_xor_and x.toNat y.toNat
  lia
theorem nat_and_two (l1 h1 l2 h2 : Nat) (a : l1 < 256) (b : l2 < 256) : (l1 + 256 * h1) &&& (l2 + 256 * h2) = (l1 &&& l2) + 256 * (h1 &&& h2) := by
  apply Nat.eq_of_testBit_eq
  intro i
  have hl : (l1 &&& l2) < 2 ^ 8 := Nat.lt_of_le_of_lt Nat.and_le_left a
  have e : ∀ (l h : Nat), l < 2 ^ 8 → (l + 256 * h).testBit i = if i < 8 then l.testBit i else h.testBit (i - 8) := fun l h hl => by
    have := Nat.testBit_two_pow_mul_add h hl i
    rw [Nat.add_comm]
    exact this
  rw [Nat.testBit_and, e _ _ a, e _ _ b, e _ _ hl]
  by_cases q : i < 8
  · simp [q]
  · simp [q]
theorem and_two {l1 h1 l2 h2 : Int} (a : oct? l1) (b : oct? h1) (c : oct? l2) (d : oct? h2) : bitAnd (l1 + 256 * h1) (l2 + 256 * h2) = bitAnd l1 l2 + 256 * bitAnd h1 h2 := by
  have a1 := a.1; have a2 := a.2; have b1 := b.1; have b2 := b.2; have c1 := c.1; have c2 := c.2; have d1 := d.1; have d2 := d.2
  rw [bitAnd_pp (by lia) (by lia), bitAnd_pp a1 c1, bitAnd_pp b1 d1]
  have e1 : (l1 + 256 * h1).toNat = l1.toNat + 256 * h1.toNat := by lia
  have e2 : (l2 + 256 * h2).toNat = l2.toNat + 256 * h2.toNat := by lia
  rw [e1, e2, nat_and_two _ _ _ _ (by lia) (by lia)]
  lia
theorem xor_oct {x y : Int} (a : oct? x) (b : oct? y) : oct? (bitXor x y) := by
  have a1 := a.1; have a2 := a.2; have b1 := b.1; have b2 := b.2
  rw [bitXor_pp a1 b1]
  have : x.toNat ^^^ y.toNat < 2 ^ 8 := Nat.xor_lt_two_pow (by lia) (by lia)
  exact ⟨by lia, by lia⟩

theorem at_ok {i : Int} {n : Nat} {k : Nat → Prop} (h0 : 0 ≤ i) (h1 : i < n) (hn : n ≤ 65536) (h : k i.toNat) : at' i n k := by
  have e : idx i n = i := by unfold idx; rw [if_neg (by lia)]
  refine ⟨⟨by lia, by lia⟩, ?_, ?_, ?_⟩
  · rw [e]; exact h0
  · rw [e]; exact h1
  · rw [e]; exact h
theorem ok1_ok {i : Int} {n : Nat} {P : Prop} (h0 : 0 ≤ i) (h1 : i < n) (hn : n ≤ 65536) (h : P) : ok1 i n P := by
  have e : idx i n = i := by unfold idx; rw [if_neg (by lia)]
  refine ⟨⟨by lia, by lia⟩, ?_, ?_, h⟩
  · rw [e]; exact h0
  · rw [e]; exact h1
section
variable {L : Nat} {σ : Cpu} {q q' : Q} {k : CK} {i j : Op} {ad : Ad} {t : Int}
theorem Abs.rd (A : Abs L σ q) (hL : L ≤ 65536) {i : Int} (h0 : 0 ≤ i) (h1 : i < L) {k : Int → Prop} (h : k (q.m i)) : rd σ.m i k := by
  unfold Mine.rd
  refine at_ok h0 (by rw [A.len]; exact h1) (by rw [A.len]; exact hL) ?_
  rw [A.mem i.toNat (by lia), Int.toNat_of_nonneg h0]
  exact h
theorem Abs.wr (A : Abs L σ q) (hL : L ≤ 65536) {i v : Int} (h0 : 0 ≤ i) (h1 : i < L) (h : ∀ σ', Abs L σ' { q with m := upd q.m i v } → k σ') : wr σ i v k := by
  unfold Mine.wr
  refine at_ok h0 (by rw [A.len]; exact h1) (by rw [A.len]; exact hL) (h _ ⟨?_, fun j hj => ?_, A.pc, A.sp, A.a, A.x, A.y, A.p⟩)
  · show (σ.m.set _ _).length = L
    rw [List.length_set]; exact A.len
  · show (σ.m.set i.toNat v).getD j 0 = upd q.m i v j
    unfold upd
    rw [List.getD_eq_getElem?_getD, List.getElem?_set]
    have hl := A.len
    by_cases e : i.toNat = j
    · have e2 : (j : Int) = i := by lia
      rw [if_pos e, if_pos (by lia), if_pos e2]
      rfl
    · have e2 : ¬ (j : Int) = i := by lia
      rw [if_neg e, if_neg e2, ← List.getD_eq_getElem?_getD]
      exact A.mem j hj
theorem brT {A B : Prop} (h : A) : br true A B := h
theorem brF {A B : Prop} (h : B) : br false A B := h
theorem bnot_eq {v : Int} {b : Bool} (h : (v == 0) = b) : (v != 0) = !b := by rw [← h]; rfl
theorem setzn {v : Int} (hv : oct? v) (A : Abs L σ q) (hz : q.z = false) (hn : q.n = false) : (v == 0) = true ∧ Abs L { σ with p := bitOr σ.p 2 } { q with z := (v == 0), n := decide (128 ≤ v) } ∨ (v == 0) = false ∧ Abs L { σ with p := bitOr σ.p (bitAnd v 128) } { q with z := (v == 0), n := decide (128 ≤ v) } := by
  obtain ⟨h0, h1⟩ := hv
  have P := A.p
  rw [hz, hn] at P
  cases e : v == 0 with
  | true =>
    have : v = 0 := by simpa using e
    subst this
    exact .inl ⟨rfl, A.len, A.mem, A.pc, A.sp, A.a, A.x, A.y, P.or2⟩
  | false =>
    refine .inr ⟨rfl, A.len, A.mem, A.pc, A.sp, A.a, A.x, A.y, ?_⟩
    show Pok (bitOr σ.p (bitAnd v 128)) _ _ _ _
    rw [and128 h0 h1]
    by_cases h : 128 ≤ v
    · rw [if_pos h]
      simp only [h, decide_true]
      exact P.or128
    · rw [if_neg h]
      simp only [h, decide_false]
      exact P.or0
theorem fnz_ok {v : Int} (hv : oct? v) (A : Abs L σ q) (h : ∀ σ', Abs L σ' { q with z := (v == 0), n := decide (128 ≤ v) } → k σ') : fnz v σ k := by
  unfold fnz
  have A1 : Abs L { σ with p := bitAnd σ.p (bitNot (bitOr 2 128)) } { q with z := false, n := false } := ⟨A.len, A.mem, A.pc, A.sp, A.a, A.x, A.y, A.p.no130⟩
  rcases setzn hv A1 rfl rfl with ⟨e, A2⟩ | ⟨e, A2⟩
  · rw [e] at A2 ⊢
    refine h _ ?_
    rw [e]; exact A2
  · rw [e] at A2 ⊢
    refine h _ ?_
    rw [e]; exact A2
theorem zn_ok {v : Int} (hv : oct? v) (A : Abs L σ q) (hz : q.z = false) (hn : q.n = false) (h : ∀ σ', Abs L σ' { q with z := (v == 0), n := decide (128 ≤ v) } → k σ') : zn v σ k := by
  unfold zn
  rcases setzn hv A hz hn with ⟨e, A2⟩ | ⟨e, A2⟩
  · rw [e] at A2 ⊢
    refine h _ ?_
    rw [e]; exact A2
  · rw [e] at A2 ⊢
    refine h _ ?_
    rw [e]; exact A2
theorem nz_ok {v : Int} (hv : oct? v) (A : Abs L σ q) (hz : q.z = false) (hn : q.n = false) (h : ∀ σ', Abs L σ' { q with z := (v == 0), n := decide (128 ≤ v) } → k σ') : nz v σ k := by
  unfold nz
  rcases setzn hv A hz hn with ⟨e, A2⟩ | ⟨e, A2⟩
  · rw [bnot_eq e]
    exact h _ A2
  · rw [bnot_eq e]
    exact h _ A2
theorem Abs.noP131 (A : Abs L σ q) : Abs L (noP 131 σ) { q with c := false, z := false, n := false } := ⟨A.len, A.mem, A.pc, A.sp, A.a, A.x, A.y, A.p.no131⟩
theorem Abs.noP195 (A : Abs L σ q) : Abs L (noP 195 σ) { q with c := false, z := false, n := false, v := false } := ⟨A.len, A.mem, A.pc, A.sp, A.a, A.x, A.y, A.p.no195⟩
theorem Abs.noP1 (A : Abs L σ q) : Abs L (noP 1 σ) { q with c := false } := ⟨A.len, A.mem, A.pc, A.sp, A.a, A.x, A.y, A.p.no1⟩
theorem Abs.or1 (A : Abs L σ q) : Abs L { σ with p := bitOr σ.p 1 } { q with c := true } := ⟨A.len, A.mem, A.pc, A.sp, A.a, A.x, A.y, A.p.or1⟩
theorem Abs.or2 (A : Abs L σ q) : Abs L { σ with p := bitOr σ.p 2 } { q with z := true } := ⟨A.len, A.mem, A.pc, A.sp, A.a, A.x, A.y, A.p.or2⟩
theorem Abs.or64 (A : Abs L σ q) : Abs L { σ with p := bitOr σ.p 64 } { q with v := true } := ⟨A.len, A.mem, A.pc, A.sp, A.a, A.x, A.y, A.p.or64⟩
theorem orC_ok {b : Bool} (A : Abs L σ q) (hc : q.c = false) (h : ∀ σ', Abs L σ' { q with c := b } → k σ') : orFl b 1 σ k := by
  cases b with
  | true => exact h _ A.or1
  | false => refine h _ ?_; rw [← hc]; exact A
theorem orV_ok {b : Bool} (A : Abs L σ q) (hc : q.v = false) (h : ∀ σ', Abs L σ' { q with v := b } → k σ') : orFl b 64 σ k := by
  cases b with
  | true => exact h _ A.or64
  | false => refine h _ ?_; rw [← hc]; exact A
theorem orZ_ok {b : Bool} (A : Abs L σ q) (hc : q.z = false) (h : ∀ σ', Abs L σ' { q with z := b } → k σ') : orFl b 2 σ k := by
  cases b with
  | true => exact h _ A.or2
  | false => refine h _ ?_; rw [← hc]; exact A
theorem Abs.setA (A : Abs L σ q) {v : Int} : Abs L { σ with a := v } { q with a := v } := ⟨A.len, A.mem, A.pc, A.sp, rfl, A.x, A.y, A.p⟩
theorem Abs.setX (A : Abs L σ q) {v : Int} : Abs L { σ with x := v } { q with x := v } := ⟨A.len, A.mem, A.pc, A.sp, A.a, rfl, A.y, A.p⟩
theorem Abs.setY (A : Abs L σ q) {v : Int} : Abs L { σ with y := v } { q with y := v } := ⟨A.len, A.mem, A.pc, A.sp, A.a, A.x, rfl, A.p⟩
theorem Abs.setPc (A : Abs L σ q) {v : Int} : Abs L { σ with pc := v } { q with pc := v } := ⟨A.len, A.mem, rfl, A.sp, A.a, A.x, A.y, A.p⟩
theorem Abs.setSp (A : Abs L σ q) {v : Int} : Abs L { σ with sp := v } { q with sp := v } := ⟨A.len, A.mem, A.pc, rfl, A.a, A.x, A.y, A.p⟩
theorem shl_ok {a b : Int} {k : Int → Prop} (h0 : 0 ≤ a) (h1 : a < 65536) (b0 : 0 ≤ b) (b1 : b ≤ 1000) (h : k (a * 2 ^ b.toNat)) : shl a b k := ⟨⟨b0, b1, by lia⟩, h⟩
theorem shr_ok {a b : Int} {k : Int → Prop} (b0 : 0 ≤ b) (h : k (a.fdiv (2 ^ b.toNat))) : shr a b k := ⟨b0, h⟩

/-! ### modes and operations -/
theorem immG : AdGo L immA q q.pc := fun σ A k h => by unfold immA; rw [A.pc]; exact h
theorem zpG (hL : L ≤ 65536) (h0 : 0 ≤ q.pc) (h1 : q.pc < L) : AdGo L zpA q (q.m q.pc) := fun σ A k h => by unfold zpA; rw [A.pc]; exact A.rd hL h0 h1 h
theorem zpxG (hL : L ≤ 65536) (h0 : 0 ≤ q.pc) (h1 : q.pc < L) : AdGo L zpxA q ((q.x + q.m q.pc) % 256) := fun σ A k h => by
  unfold zpxA
  rw [A.pc]
  refine A.rd hL h0 h1 ?_
  rw [bitAnd_m8', A.x]
  exact h
theorem absG (hL : L ≤ 65536) (h0 : 0 ≤ q.pc) (h1 : q.pc + 1 < L) (hi : oct? (q.m (q.pc + 1))) : AdGo L absA q (q.m q.pc + q.m (q.pc + 1) * 256) := fun σ A k h => by
  unfold absA
  rw [A.pc]
  refine A.rd hL h0 (by lia) (A.rd hL (by lia) h1 (shl_ok hi.1 (by have := hi.2; lia) (by decide) (by decide) ?_))
  exact h
theorem adv_go {n : Int} (g : OpGo L i q q') : OpGo L (adv n i) q { q' with pc := q'.pc + n } := fun σ A k h => g σ A _ fun σ' A' => h _ (by
  have := A'.setPc (v := σ'.pc + n)
  rw [A'.pc] at this ⊢
  exact this)
theorem lda_go (hL : L ≤ 65536) (g : AdGo L ad q t) (h0 : 0 ≤ t) (h1 : t < L) (hv : oct? (q.m t)) : OpGo L (lda ad) q { q with a := q.m t, z := (q.m t == 0), n := decide (128 ≤ q.m t) } := fun σ A k h => g σ A _ (A.rd hL h0 h1 (fnz_ok hv A.setA h))
theorem ldx_go (hL : L ≤ 65536) (g : AdGo L ad q t) (h0 : 0 ≤ t) (h1 : t < L) (hv : oct? (q.m t)) : OpGo L (ldx ad) q { q with x := q.m t, z := (q.m t == 0), n := decide (128 ≤ q.m t) } := fun σ A k h => g σ A _ (A.rd hL h0 h1 (fnz_ok hv A.setX h))
theorem sta_go (hL : L ≤ 65536) (g : AdGo L ad q t) (h0 : 0 ≤ t) (h1 : t < L) : OpGo L (sta ad) q { q with m := upd q.m t q.a } := fun σ A k h => g σ A _ (by rw [A.a]; exact A.wr hL h0 h1 h)
theorem bits_go (hL : L ≤ 65536) {f : Int → Int → Int} (op : Ad → Op) (hop : op = fun ad σ k => ad σ fun i => rd σ.m i fun v => fnz (f σ.a v) { σ with a := f σ.a v } k) (g : AdGo L ad q t) (h0 : 0 ≤ t) (h1 : t < L) (hv : oct? (f q.a (q.m t))) :
    OpGo L (op ad) q { q with a := f q.a (q.m t), z := (f q.a (q.m t) == 0), n := decide (128 ≤ f q.a (q.m t)) } := fun σ A k h => by
  rw [hop]
  exact g σ A _ (A.rd hL h0 h1 (by rw [A.a]; exact fnz_ok hv A.setA h))
theorem adc_go (hL : L ≤ 65536) (g : AdGo L ad q t) (h0 : 0 ≤ t) (h1 : t < L) (hd : oct? (q.m t)) (ha : oct? q.a) : ∃ vv, OpGo L (adc ad) q { q with a := (q.m t + q.a + if q.c then 1 else 0) % 256, c := decide (255 < q.m t + q.a + if q.c then 1 else 0), z := ((q.m t + q.a + if q.c then 1 else 0) % 256 == 0), n := decide (128 ≤ (q.m t + q.a + if q.c then 1 else 0) % 256), v := vv } := by
  refine ⟨(bitAnd (bitAnd (bitNot (bitXor q.a (q.m t))) (bitXor q.a (q.m t + q.a + if q.c then 1 else 0))) 128 != 0), fun σ A k h => g σ A _ (A.rd hL h0 h1 ?_)⟩
  rw [A.p.D]
  show adcB (q.m t) σ k
  unfold adcB
  have ea := A.a
  have hc : ∀ tmp : Int, tmp = (if q.c then 1 else 0) → orFl (bitAnd (bitAnd (bitNot (bitXor σ.a (q.m t))) (bitXor σ.a (q.m t + σ.a + tmp))) 128 != 0) 64 (noP 195 σ) (fun σ =>
    (fun k' : Cpu → Int → Prop => br (decide (255 < q.m t + σ.a + tmp)) (k' { σ with p := bitOr σ.p 1 } (bitAnd (q.m t + σ.a + tmp) 255)) (k' σ (q.m t + σ.a + tmp))) fun σ r =>
    zn r σ fun σ => k { σ with a := r }) := by
    intro tmp ht
    rw [ea, ht]
    refine orV_ok A.noP195 rfl fun σ' A' => ?_
    have ea' : σ'.a = q.a := A'.a
    dsimp only
    have es : q.m t + σ'.a + (if q.c then 1 else 0) = q.m t + q.a + if q.c then 1 else 0 := by rw [ea']
    rw [es]
    generalize hs : q.m t + q.a + (if q.c then 1 else 0) = s at *
    have hs0 : 0 ≤ s := by have := hd.1; have := ha.1; rw [← hs]; split <;> lia
    have hs1 : s < 512 := by have := hd.2; have := ha.2; rw [← hs]; split <;> lia
    by_cases hb : 255 < s
    · simp only [hb, decide_true]
      refine brT ?_
      rw [bitAnd_m8]
      refine zn_ok ⟨by lia, by lia⟩ A'.or1 rfl rfl fun σ'' A'' => h _ ?_
      have e := A''.setA (v := s % 256)
      simpa only [hb, decide_true] using e
    · simp only [hb, decide_false]
      refine brF ?_
      have e2 : s % 256 = s := by lia
      refine zn_ok ⟨by lia, by lia⟩ A' rfl rfl fun σ'' A'' => h _ ?_
      have e := A''.setA (v := s)
      simpa only [hb, decide_false, e2] using e
  have hC := A.p.C
  dsimp only
  rw [hC]
  cases hq : q.c with
  | true => exact hc 1 (by rw [hq]; rfl)
  | false => exact hc 0 (by rw [hq]; rfl)

theorem sbc_go (hL : L ≤ 65536) (g : AdGo L ad q t) (h0 : 0 ≤ t) (h1 : t < L) (hd : oct? (q.m t)) (ha : oct? q.a) :
    OpGo L (sbc ad) q { q with a := (q.a + (255 - q.m t) + if q.c then 1 else 0) % 256, c := decide (255 < q.a + (255 - q.m t) + if q.c then 1 else 0), z := ((q.a + (255 - q.m t) + if q.c then 1 else 0) % 256 == 0), n := decide (128 ≤ (q.a + (255 - q.m t) + if q.c then 1 else 0) % 256), v := (bitAnd (bitAnd (bitXor q.a (q.m t)) (bitXor q.a (q.a + (255 - q.m t) + if q.c then 1 else 0))) 128 != 0) } := by
  refine fun σ A k h => g σ A _ (A.rd hL h0 h1 ?_)
  rw [A.p.D]
  refine brF ?_
  unfold sbcB
  have e1 : bitAnd (bitNot (q.m t)) 255 = 255 - q.m t := by
    rw [bitAnd_m8]
    unfold bitNot
    have := hd.1; have := hd.2
    lia
  dsimp only
  rw [e1, A.a, A.p.c1]
  generalize hs : q.a + (255 - q.m t) + (if q.c then 1 else 0) = s at *
  have hs0 : 0 ≤ s := by have := hd.2; have := ha.1; rw [← hs]; split <;> lia
  have hs1 : s < 512 := by have := hd.1; have := ha.2; rw [← hs]; split <;> lia
  refine orV_ok A.noP195 rfl fun σ1 A1 => ?_
  rw [bitAnd_m8]
  refine orZ_ok A1 rfl fun σ2 A2 => orC_ok A2 rfl fun σ3 A3 => ?_
  have hb : oct? (s % 256) := ⟨by lia, by lia⟩
  have P := A3.p
  refine h _ ⟨A3.len, A3.mem, A3.pc, A3.sp, rfl, A3.x, A3.y, ?_⟩
  show Pok (bitOr σ3.p (bitAnd (s % 256) 128)) _ _ _ _
  rw [and128 hb.1 hb.2]
  by_cases e : 128 ≤ s % 256
  · rw [if_pos e]
    simp only [e, decide_true]
    exact P.or128
  · rw [if_neg e]
    simp only [e, decide_false]
    exact P.or0
theorem b128 {d : Int} (hd : oct? d) : (bitAnd d 128 != 0) = decide (128 ≤ d) := by
  rw [and128 hd.1 hd.2]
  by_cases h : 128 ≤ d <;> simp [h]
theorem branch_ok (hL : L ≤ 65536) (A : Abs L σ q) (h0 : 0 ≤ q.pc) (h1 : q.pc < L) (hd : 0 ≤ q.m q.pc) (hd2 : q.m q.pc < 128) (hp : q.pc + 1 + q.m q.pc < 65536) (h : ∀ σ', Abs L σ' { q with pc := q.pc + 1 + q.m q.pc } → k σ') : branch σ k := by
  unfold branch
  rw [A.pc]
  refine A.rd hL h0 h1 ?_
  rw [b128 ⟨hd, by lia⟩, decide_eq_false (by lia)]
  refine brF ?_
  have e : bitAnd (q.pc + 1 + q.m q.pc) 65535 = q.pc + 1 + q.m q.pc := by rw [bitAnd_m16]; lia
  dsimp only
  rw [e]
  have fin : ∀ ex : Int, k { σ with exc := ex, pc := q.pc + 1 + q.m q.pc } := fun ex => h _ ⟨A.len, A.mem, rfl, A.sp, A.a, A.x, A.y, A.p⟩
  cases (bitAnd (q.pc + 1) 65280 != bitAnd (q.pc + 1 + q.m q.pc) 65280)
  · exact fin _
  · exact fin _
theorem bst_go (hL : L ≤ 65536) {f : Int} {b : Bool} (hf : ∀ σ, Abs L σ q → (bitAnd σ.p f != 0) = b) (h0 : 0 ≤ q.pc) (h1 : q.pc < L) (hd : 0 ≤ q.m q.pc) (hd2 : q.m q.pc < 128) (hp : q.pc + 1 + q.m q.pc < 65536) :
    OpGo L (bst f) q { q with pc := if b then q.pc + 1 + q.m q.pc else q.pc + 1 } := fun σ A k h => by
  unfold bst
  rw [hf σ A]
  cases b with
  | true => exact branch_ok hL A h0 h1 hd hd2 hp h
  | false =>
    refine brF (h _ ?_)
    have := A.setPc (v := σ.pc + 1)
    rw [A.pc] at this ⊢
    exact this
theorem bcl_go (hL : L ≤ 65536) {f : Int} {b : Bool} (hf : ∀ σ, Abs L σ q → (bitAnd σ.p f != 0) = b) (h0 : 0 ≤ q.pc) (h1 : q.pc < L) (hd : 0 ≤ q.m q.pc) (hd2 : q.m q.pc < 128) (hp : q.pc + 1 + q.m q.pc < 65536) :
    OpGo L (bcl f) q { q with pc := if b then q.pc + 1 else q.pc + 1 + q.m q.pc } := fun σ A k h => by
  unfold bcl
  rw [hf σ A]
  cases b with
  | false => exact branch_ok hL A h0 h1 hd hd2 hp h
  | true =>
    refine brT (h _ ?_)
    have := A.setPc (v := σ.pc + 1)
    rw [A.pc] at this ⊢
    exact this
theorem clc_go : OpGo L (clr 1) q { q with c := false } := fun σ A k h => h _ A.noP1
theorem sec_go : OpGo L (set_ 1) q { q with c := true } := fun σ A k h => h _ A.or1
theorem jmp_go (hL : L ≤ 65536) (h0 : 0 ≤ q.pc) (h1 : q.pc + 1 < L) (hi : oct? (q.m (q.pc + 1))) : OpGo L jmp q { q with pc := q.m q.pc + q.m (q.pc + 1) * 256 } := fun σ A k h => absG hL h0 h1 hi σ A _ (h _ A.setPc)
theorem Abs.setE (A : Abs L σ q) {e : Int} : Abs L { σ with exc := e } q := ⟨A.len, A.mem, A.pc, A.sp, A.a, A.x, A.y, A.p⟩
theorem Abs.no130 (A : Abs L σ q) : Abs L { σ with p := bitAnd σ.p (bitNot (bitOr 2 128)) } { q with z := false, n := false } := ⟨A.len, A.mem, A.pc, A.sp, A.a, A.x, A.y, A.p.no130⟩
noncomputable def AxGo (L : Nat) (ad : AdX) (q : Q) (i : Int) : Prop := ∀ σ, Abs L σ q → ∀ k : Int → CK, (∀ σ', Abs L σ' q → k i σ') → ad σ k
theorem ldy_go (hL : L ≤ 65536) (g : AdGo L ad q t) (h0 : 0 ≤ t) (h1 : t < L) (hv : oct? (q.m t)) : OpGo L (ldy ad) q { q with y := q.m t, z := (q.m t == 0), n := decide (128 ≤ q.m t) } := fun σ A k h => g σ A _ (A.rd hL h0 h1 (fnz_ok hv A.setY h))
theorem ldaX_go {ax : AdX} (hL : L ≤ 65536) (g : AxGo L ax q t) (h0 : 0 ≤ t) (h1 : t < L) (hv : oct? (q.m t)) : OpGo L (ldaX ax) q { q with a := q.m t, z := (q.m t == 0), n := decide (128 ≤ q.m t) } := fun σ A k h => g σ A _ fun σ' A' => A'.rd hL h0 h1 (fnz_ok hv A'.setA h)
theorem sty_go (hL : L ≤ 65536) (g : AdGo L ad q t) (h0 : 0 ≤ t) (h1 : t < L) : OpGo L (sty ad) q { q with m := upd q.m t q.y } := fun σ A k h => g σ A _ (by rw [A.y]; exact A.wr hL h0 h1 h)
theorem inc_go (hL : L ≤ 65536) (g : AdGo L ad q t) (h0 : 0 ≤ t) (h1 : t < L) : OpGo L (incM ad) q { q with m := upd q.m t ((q.m t + 1) % 256), z := ((q.m t + 1) % 256 == 0), n := decide (128 ≤ (q.m t + 1) % 256) } := fun σ A k h => g σ A _ (A.rd hL h0 h1 (by
  rw [bitAnd_m8]
  exact nz_ok ⟨by lia, by lia⟩ A.no130 rfl rfl fun σ' A' => A'.wr hL h0 h1 h))
theorem dex_go : OpGo L dex q { q with x := (q.x - 1) % 256, z := ((q.x - 1) % 256 == 0), n := decide (128 ≤ (q.x - 1) % 256) } := fun σ A k h => by
  unfold dex
  rw [bitAnd_m8, A.x]
  exact fnz_ok ⟨by lia, by lia⟩ A.setX h
theorem inx_go : OpGo L inx q { q with x := (q.x + 1) % 256, z := ((q.x + 1) % 256 == 0), n := decide (128 ≤ (q.x + 1) % 256) } := fun σ A k h => by
  unfold inx
  rw [bitAnd_m8, A.x]
  exact fnz_ok ⟨by lia, by lia⟩ A.setX h
theorem tay_go (ha : oct? q.a) : OpGo L tay q { q with y := q.a, z := (q.a == 0), n := decide (128 ≤ q.a) } := fun σ A k h => by
  exact fnz_ok (by rw [A.a]; exact ha) (A.setY (v := σ.a)) (by rw [A.a]; exact h)
theorem tya_go (hy : oct? q.y) : OpGo L tya q { q with a := q.y, z := (q.y == 0), n := decide (128 ≤ q.y) } := fun σ A k h => by
  exact fnz_ok (by rw [A.y]; exact hy) (A.setA (v := σ.y)) (by rw [A.y]; exact h)
/-- the place behind, in the same page -/
noncomputable def nxt (a : Int) : Int := a / 256 * 256 + (a + 1) % 256
theorem hi_page {a : Int} (h0 : 0 ≤ a) (h1 : a < 65536) : bitAnd a 65280 = a / 256 * 256 := by
  have h := and_two (l1 := a % 256) (h1 := a / 256) (l2 := 0) (h2 := 255) ⟨by lia, by lia⟩ ⟨by lia, by lia⟩ ⟨by decide, by decide⟩ ⟨by decide, by decide⟩
  have e1 : a % 256 + 256 * (a / 256) = a := by lia
  rw [e1, bitAnd_m8, bitAnd_zero] at h
  rw [show (65280 : Int) = 0 + 256 * 255 by decide, h]
  lia
theorem wrapA_ok (hL : L ≤ 65536) (A : Abs L σ q) {a : Int} (h0 : 0 ≤ a) (h1 : a < L) (h2 : nxt a < L) (ho : oct? (q.m (nxt a))) {k : Int → Prop} (h : k (q.m a + q.m (nxt a) * 256)) : wrapA a σ k := by
  refine A.rd hL h0 h1 ?_
  have e : bitAnd a 65280 + bitAnd (a + 1) 255 = nxt a := by rw [hi_page h0 (by lia), bitAnd_m8]; rfl
  rw [e]
  refine A.rd hL (by unfold nxt; lia) h2 (shl_ok ho.1 (by have := ho.2; lia) (by decide) (by decide) ?_)
  exact h
theorem indYG {p : Int} (hL : L ≤ 65536) (h0 : 0 ≤ q.pc) (h1 : q.pc < L) (hp : q.m q.pc = p) (p0 : 0 ≤ p) (p1 : p < L) (p2 : nxt p < L) (ho : oct? (q.m (nxt p))) : AxGo L indYc q ((q.m p + q.m (nxt p) * 256 + q.y) % 65536) := fun σ A k h => by
  unfold indYc
  rw [A.pc]
  refine A.rd hL h0 h1 ?_
  rw [hp]
  refine wrapA_ok hL A p0 p1 p2 ho ?_
  rw [bitAnd_m16, A.y]
  unfold crossed
  cases (bitAnd (q.m p + q.m (nxt p) * 256) 65280 != bitAnd ((q.m p + q.m (nxt p) * 256 + q.y) % 65536) 65280) with
  | true => exact brT (h _ A.setE)
  | false => exact brF (h _ A)
theorem jmpI_go {t : Int} (hL : L ≤ 65536) (h0 : 0 ≤ q.pc) (h1 : q.pc + 1 < L) (hi : oct? (q.m (q.pc + 1))) (ht : q.m q.pc + q.m (q.pc + 1) * 256 = t) (t0 : 0 ≤ t) (t1 : t < L) (t2 : nxt t < L) (ho : oct? (q.m (nxt t))) :
    OpGo L jmpI q { q with pc := q.m t + q.m (nxt t) * 256 } := fun σ A k h => absG hL h0 h1 hi σ A _ (by rw [ht]; exact wrapA_ok hL A t0 t1 t2 ho (h _ A.setPc))
theorem step1_go {op ex ct : Int} (ho : 0 ≤ op) (ho2 : op < 256) (h0 : 0 ≤ q.pc) (h1 : q.pc + 1 < 65536) (g : OpGo L i { q with pc := q.pc + 1 } q') (h2 : 0 ≤ q'.pc) (h3 : q'.pc < 65536) : OpGo L (step1 op ex ct i) q q' := fun σ A k h => by
  unfold step1
  refine ok1_ok ho ho2 (by decide) (ok1_ok ho ho2 (by decide) ?_)
  refine g _ ?_ _ fun σ' A' => ok1_ok ho ho2 (by decide) (h _ ?_)
  · refine ⟨A.len, A.mem, ?_, A.sp, A.a, A.x, A.y, A.p⟩
    show bitAnd (σ.pc + 1) 65535 = q.pc + 1
    rw [bitAnd_m16, A.pc]; lia
  · refine ⟨A'.len, A'.mem, ?_, A'.sp, A'.a, A'.x, A'.y, A'.p⟩
    show bitAnd σ'.pc 65535 = q'.pc
    rw [bitAnd_m16, A'.pc]; lia
end
end Mine
set_option genSizeOf false
set_option genInjectivity false
set_option maxRecDepth 100000
namespace Mine
open PySem PySem.W PySem.Calls PyProof.Rows Builtin

/-! ## runs -/
noncomputable def ops : List (Int × Op) := [(160, step1 160 0 2 (adv 1 (ldy immA))), (177, step1 177 1 5 (adv 1 (ldaX indYc))), (230, step1 230 0 5 (adv 1 (incM zpA))), (208, step1 208 2 2 (bcl 2)), (144, step1 144 2 2 (bcl 1)), (141, step1 141 0 4 (adv 2 (sta absA))), (108, step1 108 0 5 (jmpI)), (202, step1 202 0 2 (dex)), (232, step1 232 0 2 (inx)), (168, step1 168 0 2 (tay)), (152, step1 152 0 2 (tya)), (149, step1 149 0 4 (adv 1 (sta zpxA))), (148, step1 148 0 4 (adv 1 (sty zpxA))), (133, step1 133 0 3 (adv 1 (sta zpA))), (181, step1 181 0 4 (adv 1 (lda zpxA))), (180, step1 180 0 4 (adv 1 (ldy zpxA))), (117, step1 117 0 4 (adv 1 (adc zpxA))), (101, step1 101 0 3 (adv 1 (adc zpA))), (245, step1 245 0 4 (adv 1 (sbc zpxA))), (85, step1 85 0 4 (adv 1 (eor zpxA))), (24, step1 24 0 2 (clr 1)), (56, step1 56 0 2 (set_ 1)), (76, step1 76 0 3 (jmp)), (162, step1 162 0 2 (adv 1 (ldx immA)))]
noncomputable def Goes (L : Nat) (q q' : Q) : Prop := ∃ op, (q.m q.pc, op) ∈ ops ∧ OpGo L op q q' ∧ 0 ≤ q.pc ∧ q.pc < L
noncomputable def Run (L : Nat) (hi : Int) : Nat → Q → Q → Prop
  | 0, q, q' => q = q'
  | n + 1, q, q' => q.pc < hi ∧ ∃ q₁, Goes L q q₁ ∧ Run L hi n q₁ q'
theorem Run.append {L : Nat} {hi : Int} : ∀ {n k : Nat} {a b c : Q}, Run L hi n a b → Run L hi k b c → Run L hi (n + k) a c
  | 0, k, a, b, c, h, h' => by cases h; rw [Nat.zero_add]; exact h'
  | n + 1, k, a, b, c, ⟨h0, q₁, h1, h2⟩, h' => by
    rw [Nat.succ_add]
    exact ⟨h0, q₁, h1, h2.append h'⟩
theorem Run.mono {L : Nat} {hi hi' : Int} (le : hi ≤ hi') : ∀ {n : Nat} {a b : Q}, Run L hi n a b → Run L hi' n a b
  | 0, _, _, h => h
  | _ + 1, _, _, ⟨h0, q₁, h1, h2⟩ => ⟨Int.lt_of_lt_of_le h0 le, q₁, h1, h2.mono le⟩
/-- in at most n steps -/
noncomputable def Reach (L : Nat) (hi : Int) (n : Nat) (q : Q) (P : Q → Prop) : Prop := ∃ k, k ≤ n ∧ ∃ q', Run L hi k q q' ∧ P q'
theorem Reach.done {L : Nat} {hi : Int} {n : Nat} {q : Q} {P : Q → Prop} (h : P q) : Reach L hi n q P := ⟨0, Nat.zero_le n, q, rfl, h⟩
theorem Reach.then {L : Nat} {hi : Int} {n k : Nat} {q : Q} {P R : Q → Prop} (h : Reach L hi n q P) (h' : ∀ q', P q' → Reach L hi k q' R) : Reach L hi (n + k) q R := by
  obtain ⟨i, l1, q₁, h1, h2⟩ := h
  obtain ⟨j, l2, q₂, h3, h4⟩ := h' q₁ h2
  exact ⟨i + j, Nat.add_le_add l1 l2, q₂, h1.append h3, h4⟩
theorem Reach.le {L : Nat} {hi : Int} {n k : Nat} {q : Q} {P : Q → Prop} (h : Reach L hi n q P) (l : n ≤ k) : Reach L hi k q P := by
  obtain ⟨i, l1, h⟩ := h
  exact ⟨i, Nat.le_trans l1 l, h⟩
section
variable {L : Nat} {hi : Int} {k : Nat} {P : Q → Prop} {m : Int → Int} {pc sp a x y : Int} {c z n v : Bool} {npc w u t l b : Int}
theorem r_one {q q₁ : Q} {o ex ct : Int} {i : Op} (h0 : q.m q.pc = o) (hm : (o, step1 o ex ct i) ∈ ops) (ho : 0 ≤ o) (ho2 : o < 256) (b0 : 0 ≤ q.pc) (b1 : q.pc + 1 < L) (hL : L ≤ 65536) (hh : q.pc < hi)
    (g : OpGo L i { q with pc := q.pc + 1 } q₁) (c0 : 0 ≤ q₁.pc) (c1 : q₁.pc < 65536) (K : Reach L hi k q₁ P) : Reach L hi (k + 1) q P := by
  obtain ⟨j, le, q', h1, h2⟩ := K
  exact ⟨j + 1, Nat.succ_le_succ le, q', ⟨hh, q₁, ⟨_, by rw [h0]; exact hm, step1_go ho ho2 b0 (by lia) g c0 c1, b0, by lia⟩, h1⟩, h2⟩
theorem opm {x : Int × Op} (i : Nat) (h : ops[i]? = some x) : x ∈ ops := List.mem_of_getElem? h
theorem p1 {y : Int} (h : 0 ≤ y) : 0 ≤ y + 1 := Int.add_nonneg h (by decide)
theorem pL {y : Int} (h : y + 2 < L) : y + 1 < L := by lia
theorem zlt (h : 512 ≤ L) {y : Int} (hy : oct? y) : y < L := by have := hy.2; lia
theorem mlt (h : 512 ≤ L) {y : Int} : y % 256 < L := by lia
theorem m256 {y : Int} : 0 ≤ y % 256 := Int.emod_nonneg _ (by decide)
theorem zpG2 {q : Q} (hL : L ≤ 65536) (b0 : 0 ≤ q.pc) (b1 : q.pc + 2 < L) : AdGo L zpA { q with pc := q.pc + 1 } (q.m (q.pc + 1)) := zpG hL (p1 b0) (pL b1)
theorem zpxG2 {q : Q} (hL : L ≤ 65536) (b0 : 0 ≤ q.pc) (b1 : q.pc + 2 < L) : AdGo L zpxA { q with pc := q.pc + 1 } ((q.x + q.m (q.pc + 1)) % 256) := zpxG hL (p1 b0) (pL b1)
theorem r_sgl {q q₁ : Q} {o ex ct : Int} {i : Op} (h0 : q.m q.pc = o) (hm : (o, step1 o ex ct i) ∈ ops) (ho : 0 ≤ o) (ho2 : o < 256) (b0 : 0 ≤ q.pc) (b1 : q.pc + 1 < L) (hL : L ≤ 65536) (hh : q.pc < hi)
    (g : OpGo L i { q with pc := q.pc + 1 } q₁) (hp : q₁.pc = q.pc + 1) (K : Reach L hi k q₁ P) : Reach L hi (k + 1) q P :=
  r_one h0 hm ho ho2 b0 b1 hL hh g (by rw [hp]; exact p1 b0) (by rw [hp]; lia) K
theorem r_adv {q q₁ : Q} {o ex ct : Int} {i : Op} (h0 : q.m q.pc = o) (hm : (o, step1 o ex ct (adv 1 i)) ∈ ops) (ho : 0 ≤ o) (ho2 : o < 256) (b0 : 0 ≤ q.pc) (b1 : q.pc + 2 < L) (hL : L ≤ 65536) (hh : q.pc < hi)
    (g : OpGo L i { q with pc := q.pc + 1 } q₁) (hp : q₁.pc = q.pc + 1) (K : Reach L hi k { q₁ with pc := q.pc + 2 } P) : Reach L hi (k + 1) q P := by
  have e : q₁.pc + 1 = q.pc + 2 := by rw [hp, Int.add_assoc]; rfl
  have g2 := adv_go (n := 1) g
  rw [e] at g2
  exact r_one h0 hm ho ho2 b0 (pL b1) hL hh g2 (Int.add_nonneg b0 (by decide)) (by show q.pc + 2 < 65536; lia) K
theorem r_brc {q : Q} {o ex ct f : Int} {b s : Bool} {i : Op} (h0 : q.m q.pc = o) (hm : (o, step1 o ex ct i) ∈ ops) (ho : 0 ≤ o) (ho2 : o < 256) (b0 : 0 ≤ q.pc) (b1 : q.pc + 2 < L) (hL : L ≤ 65536) (hh : q.pc < hi)
    (hi' : i = if s then bst f else bcl f) (hf : ∀ σ, Abs L σ { q with pc := q.pc + 1 } → (bitAnd σ.p f != 0) = b) (u0 : 0 ≤ q.m (q.pc + 1)) (u1 : q.m (q.pc + 1) < 128) (b2 : q.pc + 2 + q.m (q.pc + 1) < 65536)
    (K : Reach L hi k { q with pc := if b == s then q.pc + 2 + q.m (q.pc + 1) else q.pc + 2 } P) : Reach L hi (k + 1) q P := by
  have e : q.pc + 1 + 1 = q.pc + 2 := by rw [Int.add_assoc]; rfl
  have g : OpGo L i { q with pc := q.pc + 1 } { q with pc := if b == s then q.pc + 2 + q.m (q.pc + 1) else q.pc + 2 } := by
    rw [hi', ← e]
    cases s with
    | true =>
      have := bst_go (q := { q with pc := q.pc + 1 }) hL hf (p1 b0) (pL b1) u0 u1 (by rw [show ({ q with pc := q.pc + 1 } : Q).pc + 1 = q.pc + 2 from e]; exact b2)
      cases b <;> exact this
    | false =>
      have := bcl_go (q := { q with pc := q.pc + 1 }) hL hf (p1 b0) (pL b1) u0 u1 (by rw [show ({ q with pc := q.pc + 1 } : Q).pc + 1 = q.pc + 2 from e]; exact b2)
      cases b <;> exact this
  refine r_one h0 hm ho ho2 b0 (pL b1) hL hh g ?_ ?_ K
  · show 0 ≤ if b == s then q.pc + 2 + q.m (q.pc + 1) else q.pc + 2
    split <;> lia
  · show (if b == s then q.pc + 2 + q.m (q.pc + 1) else q.pc + 2) < 65536
    split <;> lia
theorem r_ldyI (hL : L ≤ 65536) (b0 : 0 ≤ pc) (b1 : pc + 2 < L) (h5 : 512 ≤ L) (hh : pc < hi) (h0 : m pc = 160) (hu : m (pc + 1) = u) (bu : oct? u) (hn : npc = pc + 2) (K : Reach L hi k ⟨m, npc, sp, a, x, u, c, (u == 0), decide (128 ≤ u), v⟩ P) : Reach L hi (k + 1) ⟨m, pc, sp, a, x, y, c, z, n, v⟩ P := by
  subst hn
  subst hu
  have g := ldy_go hL (immG (q := ⟨m, pc + 1, sp, a, x, y, c, z, n, v⟩)) (p1 b0) (pL b1) bu
  exact r_adv (q := ⟨m, pc, sp, a, x, y, c, z, n, v⟩) (ex := 0) (ct := 2) h0 (opm 0 rfl) (by decide) (by decide) b0 b1 hL hh g rfl K
theorem r_ldxI (hL : L ≤ 65536) (b0 : 0 ≤ pc) (b1 : pc + 2 < L) (h5 : 512 ≤ L) (hh : pc < hi) (h0 : m pc = 162) (hu : m (pc + 1) = u) (bu : oct? u) (hn : npc = pc + 2) (K : Reach L hi k ⟨m, npc, sp, a, u, y, c, (u == 0), decide (128 ≤ u), v⟩ P) : Reach L hi (k + 1) ⟨m, pc, sp, a, x, y, c, z, n, v⟩ P := by
  subst hn
  subst hu
  have g := ldx_go hL (immG (q := ⟨m, pc + 1, sp, a, x, y, c, z, n, v⟩)) (p1 b0) (pL b1) bu
  exact r_adv (q := ⟨m, pc, sp, a, x, y, c, z, n, v⟩) (ex := 0) (ct := 2) h0 (opm 23 rfl) (by decide) (by decide) b0 b1 hL hh g rfl K
theorem r_ldaX (hL : L ≤ 65536) (b0 : 0 ≤ pc) (b1 : pc + 2 < L) (h5 : 512 ≤ L) (hh : pc < hi) (h0 : m pc = 181) (h1 : m (pc + 1) = w) (ht : t = (x + w) % 256) (hu : m t = u) (bu : oct? u) (hn : npc = pc + 2) (K : Reach L hi k ⟨m, npc, sp, u, x, y, c, (u == 0), decide (128 ≤ u), v⟩ P) : Reach L hi (k + 1) ⟨m, pc, sp, a, x, y, c, z, n, v⟩ P := by
  subst hn
  subst h1 ht hu
  have g := lda_go hL (zpxG2 (q := ⟨m, pc, sp, a, x, y, c, z, n, v⟩) hL b0 b1) m256 (mlt h5) bu
  exact r_adv (q := ⟨m, pc, sp, a, x, y, c, z, n, v⟩) (ex := 0) (ct := 4) h0 (opm 14 rfl) (by decide) (by decide) b0 b1 hL hh g rfl K
theorem r_ldyX (hL : L ≤ 65536) (b0 : 0 ≤ pc) (b1 : pc + 2 < L) (h5 : 512 ≤ L) (hh : pc < hi) (h0 : m pc = 180) (h1 : m (pc + 1) = w) (ht : t = (x + w) % 256) (hu : m t = u) (bu : oct? u) (hn : npc = pc + 2) (K : Reach L hi k ⟨m, npc, sp, a, x, u, c, (u == 0), decide (128 ≤ u), v⟩ P) : Reach L hi (k + 1) ⟨m, pc, sp, a, x, y, c, z, n, v⟩ P := by
  subst hn
  subst h1 ht hu
  have g := ldy_go hL (zpxG2 (q := ⟨m, pc, sp, a, x, y, c, z, n, v⟩) hL b0 b1) m256 (mlt h5) bu
  exact r_adv (q := ⟨m, pc, sp, a, x, y, c, z, n, v⟩) (ex := 0) (ct := 4) h0 (opm 15 rfl) (by decide) (by decide) b0 b1 hL hh g rfl K
theorem r_eorX (hL : L ≤ 65536) (b0 : 0 ≤ pc) (b1 : pc + 2 < L) (h5 : 512 ≤ L) (hh : pc < hi) (h0 : m pc = 85) (h1 : m (pc + 1) = w) (ht : t = (x + w) % 256) (hu : m t = u) (bu : oct? (bitXor a u)) (hn : npc = pc + 2) (K : Reach L hi k ⟨m, npc, sp, bitXor a u, x, y, c, (bitXor a u == 0), decide (128 ≤ bitXor a u), v⟩ P) : Reach L hi (k + 1) ⟨m, pc, sp, a, x, y, c, z, n, v⟩ P := by
  subst hn
  subst h1 ht hu
  have g := bits_go hL (f := bitXor) eor rfl (zpxG2 (q := ⟨m, pc, sp, a, x, y, c, z, n, v⟩) hL b0 b1) m256 (mlt h5) bu
  exact r_adv (q := ⟨m, pc, sp, a, x, y, c, z, n, v⟩) (ex := 0) (ct := 4) h0 (opm 19 rfl) (by decide) (by decide) b0 b1 hL hh g rfl K
theorem r_staX (hL : L ≤ 65536) (b0 : 0 ≤ pc) (b1 : pc + 2 < L) (h5 : 512 ≤ L) (hh : pc < hi) (h0 : m pc = 149) (h1 : m (pc + 1) = w) (ht : t = (x + w) % 256) (hn : npc = pc + 2) (K : Reach L hi k ⟨upd m t a, npc, sp, a, x, y, c, z, n, v⟩ P) : Reach L hi (k + 1) ⟨m, pc, sp, a, x, y, c, z, n, v⟩ P := by
  subst hn
  subst h1 ht
  have g := sta_go hL (zpxG2 (q := ⟨m, pc, sp, a, x, y, c, z, n, v⟩) hL b0 b1) m256 (mlt h5)
  exact r_adv (q := ⟨m, pc, sp, a, x, y, c, z, n, v⟩) (ex := 0) (ct := 4) h0 (opm 11 rfl) (by decide) (by decide) b0 b1 hL hh g rfl K
theorem r_styX (hL : L ≤ 65536) (b0 : 0 ≤ pc) (b1 : pc + 2 < L) (h5 : 512 ≤ L) (hh : pc < hi) (h0 : m pc = 148) (h1 : m (pc + 1) = w) (ht : t = (x + w) % 256) (hn : npc = pc + 2) (K : Reach L hi k ⟨upd m t y, npc, sp, a, x, y, c, z, n, v⟩ P) : Reach L hi (k + 1) ⟨m, pc, sp, a, x, y, c, z, n, v⟩ P := by
  subst hn
  subst h1 ht
  have g := sty_go hL (zpxG2 (q := ⟨m, pc, sp, a, x, y, c, z, n, v⟩) hL b0 b1) m256 (mlt h5)
  exact r_adv (q := ⟨m, pc, sp, a, x, y, c, z, n, v⟩) (ex := 0) (ct := 4) h0 (opm 12 rfl) (by decide) (by decide) b0 b1 hL hh g rfl K
theorem r_sta (hL : L ≤ 65536) (b0 : 0 ≤ pc) (b1 : pc + 2 < L) (h5 : 512 ≤ L) (hh : pc < hi) (h0 : m pc = 133) (h1 : m (pc + 1) = w) (hw : oct? w) (hn : npc = pc + 2) (K : Reach L hi k ⟨upd m w a, npc, sp, a, x, y, c, z, n, v⟩ P) : Reach L hi (k + 1) ⟨m, pc, sp, a, x, y, c, z, n, v⟩ P := by
  subst hn
  subst h1
  have g := sta_go hL (zpG2 (q := ⟨m, pc, sp, a, x, y, c, z, n, v⟩) hL b0 b1) hw.1 (zlt h5 hw)
  exact r_adv (q := ⟨m, pc, sp, a, x, y, c, z, n, v⟩) (ex := 0) (ct := 3) h0 (opm 13 rfl) (by decide) (by decide) b0 b1 hL hh g rfl K
theorem r_adcX (hL : L ≤ 65536) (b0 : 0 ≤ pc) (b1 : pc + 2 < L) (h5 : 512 ≤ L) (hh : pc < hi) (h0 : m pc = 117) (h1 : m (pc + 1) = w) (ht : t = (x + w) % 256) (hu : m t = u) (bu : oct? u) (ba : oct? a) (hn : npc = pc + 2) (K : ∀ b : Bool, Reach L hi k ⟨m, npc, sp, (u + a + if c then 1 else 0) % 256, x, y, decide (255 < (u + a + if c then 1 else 0)), ((u + a + if c then 1 else 0) % 256 == 0), decide (128 ≤ (u + a + if c then 1 else 0) % 256), b⟩ P) : Reach L hi (k + 1) ⟨m, pc, sp, a, x, y, c, z, n, v⟩ P := by
  subst hn
  subst h1 ht hu
  obtain ⟨bb, g⟩ := adc_go hL (zpxG2 (q := ⟨m, pc, sp, a, x, y, c, z, n, v⟩) hL b0 b1) m256 (mlt h5) bu ba
  exact r_adv (q := ⟨m, pc, sp, a, x, y, c, z, n, v⟩) (ex := 0) (ct := 4) h0 (opm 16 rfl) (by decide) (by decide) b0 b1 hL hh g rfl (K bb)
theorem r_adc (hL : L ≤ 65536) (b0 : 0 ≤ pc) (b1 : pc + 2 < L) (h5 : 512 ≤ L) (hh : pc < hi) (h0 : m pc = 101) (h1 : m (pc + 1) = w) (hw : oct? w) (hu : m w = u) (bu : oct? u) (ba : oct? a) (hn : npc = pc + 2) (K : ∀ b : Bool, Reach L hi k ⟨m, npc, sp, (u + a + if c then 1 else 0) % 256, x, y, decide (255 < (u + a + if c then 1 else 0)), ((u + a + if c then 1 else 0) % 256 == 0), decide (128 ≤ (u + a + if c then 1 else 0) % 256), b⟩ P) : Reach L hi (k + 1) ⟨m, pc, sp, a, x, y, c, z, n, v⟩ P := by
  subst hn
  subst h1 hu
  obtain ⟨bb, g⟩ := adc_go hL (zpG2 (q := ⟨m, pc, sp, a, x, y, c, z, n, v⟩) hL b0 b1) hw.1 (zlt h5 hw) bu ba
  exact r_adv (q := ⟨m, pc, sp, a, x, y, c, z, n, v⟩) (ex := 0) (ct := 3) h0 (opm 17 rfl) (by decide) (by decide) b0 b1 hL hh g rfl (K bb)
theorem r_sbcX (hL : L ≤ 65536) (b0 : 0 ≤ pc) (b1 : pc + 2 < L) (h5 : 512 ≤ L) (hh : pc < hi) (h0 : m pc = 245) (h1 : m (pc + 1) = w) (ht : t = (x + w) % 256) (hu : m t = u) (bu : oct? u) (ba : oct? a) (hn : npc = pc + 2) (K : ∀ b : Bool, Reach L hi k ⟨m, npc, sp, (a + (255 - u) + if c then 1 else 0) % 256, x, y, decide (255 < (a + (255 - u) + if c then 1 else 0)), ((a + (255 - u) + if c then 1 else 0) % 256 == 0), decide (128 ≤ (a + (255 - u) + if c then 1 else 0) % 256), b⟩ P) : Reach L hi (k + 1) ⟨m, pc, sp, a, x, y, c, z, n, v⟩ P := by
  subst hn
  subst h1 ht hu
  have g := sbc_go hL (zpxG2 (q := ⟨m, pc, sp, a, x, y, c, z, n, v⟩) hL b0 b1) m256 (mlt h5) bu ba
  exact r_adv (q := ⟨m, pc, sp, a, x, y, c, z, n, v⟩) (ex := 0) (ct := 4) h0 (opm 18 rfl) (by decide) (by decide) b0 b1 hL hh g rfl (K _)
theorem r_inc (hL : L ≤ 65536) (b0 : 0 ≤ pc) (b1 : pc + 2 < L) (h5 : 512 ≤ L) (hh : pc < hi) (h0 : m pc = 230) (h1 : m (pc + 1) = w) (hw : oct? w) (hu : m w = u) (hn : npc = pc + 2) (K : Reach L hi k ⟨upd m w ((u + 1) % 256), npc, sp, a, x, y, c, ((u + 1) % 256 == 0), decide (128 ≤ (u + 1) % 256), v⟩ P) : Reach L hi (k + 1) ⟨m, pc, sp, a, x, y, c, z, n, v⟩ P := by
  subst hn
  subst h1 hu
  have g := inc_go hL (zpG2 (q := ⟨m, pc, sp, a, x, y, c, z, n, v⟩) hL b0 b1) hw.1 (zlt h5 hw)
  exact r_adv (q := ⟨m, pc, sp, a, x, y, c, z, n, v⟩) (ex := 0) (ct := 5) h0 (opm 2 rfl) (by decide) (by decide) b0 b1 hL hh g rfl K
theorem r_dex (hL : L ≤ 65536) (b0 : 0 ≤ pc) (b1 : pc + 1 < L) (h5 : 512 ≤ L) (hh : pc < hi) (h0 : m pc = 202)  (hn : npc = pc + 1) (K : Reach L hi k ⟨m, npc, sp, a, (x - 1) % 256, y, c, ((x - 1) % 256 == 0), decide (128 ≤ (x - 1) % 256), v⟩ P) : Reach L hi (k + 1) ⟨m, pc, sp, a, x, y, c, z, n, v⟩ P := by
  subst hn
  have g := dex_go (L := L) (q := { m := m, pc := pc + 1, sp := sp, a := a, x := x, y := y, c := c, z := z, n := n, v := v })
  exact r_sgl (q := ⟨m, pc, sp, a, x, y, c, z, n, v⟩) (ex := 0) (ct := 2) h0 (opm 7 rfl) (by decide) (by decide) b0 b1 hL hh g rfl K
theorem r_inx (hL : L ≤ 65536) (b0 : 0 ≤ pc) (b1 : pc + 1 < L) (h5 : 512 ≤ L) (hh : pc < hi) (h0 : m pc = 232)  (hn : npc = pc + 1) (K : Reach L hi k ⟨m, npc, sp, a, (x + 1) % 256, y, c, ((x + 1) % 256 == 0), decide (128 ≤ (x + 1) % 256), v⟩ P) : Reach L hi (k + 1) ⟨m, pc, sp, a, x, y, c, z, n, v⟩ P := by
  subst hn
  have g := inx_go (L := L) (q := { m := m, pc := pc + 1, sp := sp, a := a, x := x, y := y, c := c, z := z, n := n, v := v })
  exact r_sgl (q := ⟨m, pc, sp, a, x, y, c, z, n, v⟩) (ex := 0) (ct := 2) h0 (opm 8 rfl) (by decide) (by decide) b0 b1 hL hh g rfl K
theorem r_tay (hL : L ≤ 65536) (b0 : 0 ≤ pc) (b1 : pc + 1 < L) (h5 : 512 ≤ L) (hh : pc < hi) (h0 : m pc = 168) (ba : oct? a) (hn : npc = pc + 1) (K : Reach L hi k ⟨m, npc, sp, a, x, a, c, (a == 0), decide (128 ≤ a), v⟩ P) : Reach L hi (k + 1) ⟨m, pc, sp, a, x, y, c, z, n, v⟩ P := by
  subst hn
  have g := tay_go (L := L) (q := { m := m, pc := pc + 1, sp := sp, a := a, x := x, y := y, c := c, z := z, n := n, v := v }) ba
  exact r_sgl (q := ⟨m, pc, sp, a, x, y, c, z, n, v⟩) (ex := 0) (ct := 2) h0 (opm 9 rfl) (by decide) (by decide) b0 b1 hL hh g rfl K
theorem r_tya (hL : L ≤ 65536) (b0 : 0 ≤ pc) (b1 : pc + 1 < L) (h5 : 512 ≤ L) (hh : pc < hi) (h0 : m pc = 152) (ba : oct? y) (hn : npc = pc + 1) (K : Reach L hi k ⟨m, npc, sp, y, x, y, c, (y == 0), decide (128 ≤ y), v⟩ P) : Reach L hi (k + 1) ⟨m, pc, sp, a, x, y, c, z, n, v⟩ P := by
  subst hn
  have g := tya_go (L := L) (q := { m := m, pc := pc + 1, sp := sp, a := a, x := x, y := y, c := c, z := z, n := n, v := v }) ba
  exact r_sgl (q := ⟨m, pc, sp, a, x, y, c, z, n, v⟩) (ex := 0) (ct := 2) h0 (opm 10 rfl) (by decide) (by decide) b0 b1 hL hh g rfl K
theorem r_clc (hL : L ≤ 65536) (b0 : 0 ≤ pc) (b1 : pc + 1 < L) (h5 : 512 ≤ L) (hh : pc < hi) (h0 : m pc = 24)  (hn : npc = pc + 1) (K : Reach L hi k ⟨m, npc, sp, a, x, y, false, z, n, v⟩ P) : Reach L hi (k + 1) ⟨m, pc, sp, a, x, y, c, z, n, v⟩ P := by
  subst hn
  have g := clc_go (L := L) (q := { m := m, pc := pc + 1, sp := sp, a := a, x := x, y := y, c := c, z := z, n := n, v := v })
  exact r_sgl (q := ⟨m, pc, sp, a, x, y, c, z, n, v⟩) (ex := 0) (ct := 2) h0 (opm 20 rfl) (by decide) (by decide) b0 b1 hL hh g rfl K
theorem r_sec (hL : L ≤ 65536) (b0 : 0 ≤ pc) (b1 : pc + 1 < L) (h5 : 512 ≤ L) (hh : pc < hi) (h0 : m pc = 56)  (hn : npc = pc + 1) (K : Reach L hi k ⟨m, npc, sp, a, x, y, true, z, n, v⟩ P) : Reach L hi (k + 1) ⟨m, pc, sp, a, x, y, c, z, n, v⟩ P := by
  subst hn
  have g := sec_go (L := L) (q := { m := m, pc := pc + 1, sp := sp, a := a, x := x, y := y, c := c, z := z, n := n, v := v })
  exact r_sgl (q := ⟨m, pc, sp, a, x, y, c, z, n, v⟩) (ex := 0) (ct := 2) h0 (opm 21 rfl) (by decide) (by decide) b0 b1 hL hh g rfl K
theorem r_ldaY (hL : L ≤ 65536) (b0 : 0 ≤ pc) (b1 : pc + 2 < L) (h5 : 512 ≤ L) (hh : pc < hi) (h0 : m pc = 177) (h1 : m (pc + 1) = w) (w0 : 0 ≤ w) (w1 : w < L) (w2 : nxt w < L) (hl : m w = l) (hb : m (nxt w) = b) (bb : oct? b) (ht : t = (l + b * 256 + y) % 65536) (t1 : t < L) (hu : m t = u) (bu : oct? u) (hn : npc = pc + 2) (K : Reach L hi k ⟨m, npc, sp, u, x, y, c, (u == 0), decide (128 ≤ u), v⟩ P) : Reach L hi (k + 1) ⟨m, pc, sp, a, x, y, c, z, n, v⟩ P := by
  subst hn
  subst hl hb hu
  have t0 : 0 ≤ t := by rw [ht]; exact Int.emod_nonneg _ (by decide)
  have gi := indYG hL (q := ⟨m, pc + 1, sp, a, x, y, c, z, n, v⟩) (p1 b0) (pL b1) h1 w0 w1 w2 bb
  dsimp only at gi
  rw [← ht] at gi
  have g := ldaX_go hL gi t0 t1 bu
  exact r_adv (q := ⟨m, pc, sp, a, x, y, c, z, n, v⟩) (ex := 1) (ct := 5) h0 (opm 1 rfl) (by decide) (by decide) b0 b1 hL hh g rfl K
theorem r_bne (hL : L ≤ 65536) (b0 : 0 ≤ pc) (b1 : pc + 2 < L) (h5 : 512 ≤ L) (hh : pc < hi) (h0 : m pc = 208) (hu : m (pc + 1) = u) (u0 : 0 ≤ u) (u1 : u < 128) (b2 : pc + 2 + u < 65536) (hn : npc = if z then pc + 2 else pc + 2 + u) (K : Reach L hi k ⟨m, npc, sp, a, x, y, c, z, n, v⟩ P) : Reach L hi (k + 1) ⟨m, pc, sp, a, x, y, c, z, n, v⟩ P := by
  subst hu hn
  refine r_brc (q := ⟨m, pc, sp, a, x, y, c, z, n, v⟩) (ex := 2) (ct := 2) (f := 2) (b := z) (s := false) h0 (opm 3 rfl) (by decide) (by decide) b0 b1 hL hh rfl (fun σ A => A.p.Z) u0 u1 b2 ?_
  cases z <;> exact K
theorem r_bcc (hL : L ≤ 65536) (b0 : 0 ≤ pc) (b1 : pc + 2 < L) (h5 : 512 ≤ L) (hh : pc < hi) (h0 : m pc = 144) (hu : m (pc + 1) = u) (u0 : 0 ≤ u) (u1 : u < 128) (b2 : pc + 2 + u < 65536) (hn : npc = if c then pc + 2 else pc + 2 + u) (K : Reach L hi k ⟨m, npc, sp, a, x, y, c, z, n, v⟩ P) : Reach L hi (k + 1) ⟨m, pc, sp, a, x, y, c, z, n, v⟩ P := by
  subst hu hn
  refine r_brc (q := ⟨m, pc, sp, a, x, y, c, z, n, v⟩) (ex := 2) (ct := 2) (f := 1) (b := c) (s := false) h0 (opm 4 rfl) (by decide) (by decide) b0 b1 hL hh rfl (fun σ A => A.p.C) u0 u1 b2 ?_
  cases c <;> exact K
theorem r_jmp (hL : L ≤ 65536) (b0 : 0 ≤ pc) (b1 : pc + 3 < L) (h5 : 512 ≤ L) (hh : pc < hi) (h0 : m pc = 76) (hw : m (pc + 1) = w) (hu : m (pc + 2) = u) (bw : oct? w) (bu : oct? u) (hn : npc = w + u * 256) (K : Reach L hi k ⟨m, npc, sp, a, x, y, c, z, n, v⟩ P) : Reach L hi (k + 1) ⟨m, pc, sp, a, x, y, c, z, n, v⟩ P := by
  have e : pc + 1 + 1 = pc + 2 := by lia
  have b3 := bw.1; have b4 := bw.2; have b5 := bu.1; have b6 := bu.2
  have g := jmp_go hL (L := L) (q := { m := m, pc := pc + 1, sp := sp, a := a, x := x, y := y, c := c, z := z, n := n, v := v }) (by first | lia | (dsimp only; lia)) (by first | lia | (dsimp only; lia)) (by dsimp only; rw [e, hu]; exact bu)
  dsimp only at g
  rw [e, hw, hu, ← hn] at g
  exact r_one (ex := 0) (ct := 3) h0 (opm 22 rfl) (by decide) (by decide) b0 (by first | lia | (dsimp only; lia)) hL hh g (by first | lia | (dsimp only; lia)) (by first | lia | (dsimp only; lia)) K
theorem r_jmpI (hL : L ≤ 65536) (b0 : 0 ≤ pc) (b1 : pc + 3 < L) (h5 : 512 ≤ L) (hh : pc < hi) (h0 : m pc = 108) (hw : m (pc + 1) = w) (hu : m (pc + 2) = u) (bu : oct? u) (ht : t = w + u * 256) (t0 : 0 ≤ t) (t1 : t < L) (t2 : nxt t < L) (hl : m t = l) (hb : m (nxt t) = b) (bl : oct? l) (bb : oct? b) (hn : npc = l + b * 256) (K : Reach L hi k ⟨m, npc, sp, a, x, y, c, z, n, v⟩ P) : Reach L hi (k + 1) ⟨m, pc, sp, a, x, y, c, z, n, v⟩ P := by
  have e : pc + 1 + 1 = pc + 2 := by lia
  have b3 := bl.1; have b4 := bl.2; have b5 := bb.1; have b6 := bb.2
  have g := jmpI_go hL (L := L) (t := t) (q := { m := m, pc := pc + 1, sp := sp, a := a, x := x, y := y, c := c, z := z, n := n, v := v }) (by first | lia | (dsimp only; lia)) (by first | lia | (dsimp only; lia)) (by dsimp only; rw [e, hu]; exact bu) (by dsimp only; rw [e, hw, hu, ht]) t0 t1 t2 (by dsimp only; rw [hb]; exact bb)
  dsimp only at g
  rw [hl, hb, ← hn] at g
  exact r_one (ex := 0) (ct := 5) h0 (opm 6 rfl) (by decide) (by decide) b0 (by first | lia | (dsimp only; lia)) hL hh g (by first | lia | (dsimp only; lia)) (by first | lia | (dsimp only; lia)) K
theorem r_staA (hL : L ≤ 65536) (b0 : 0 ≤ pc) (b1 : pc + 3 < L) (h5 : 512 ≤ L) (hh : pc < hi) (h0 : m pc = 141) (hw : m (pc + 1) = w) (hu : m (pc + 2) = u) (bu : oct? u) (ht : t = w + u * 256) (t0 : 0 ≤ t) (t1 : t < L) (hn : npc = pc + 3) (K : Reach L hi k ⟨upd m t a, npc, sp, a, x, y, c, z, n, v⟩ P) : Reach L hi (k + 1) ⟨m, pc, sp, a, x, y, c, z, n, v⟩ P := by
  have e : pc + 1 + 1 = pc + 2 := by lia
  have e3 : pc + 1 + 2 = pc + 3 := by lia
  have ga := absG hL (L := L) (q := { m := m, pc := pc + 1, sp := sp, a := a, x := x, y := y, c := c, z := z, n := n, v := v }) (by first | lia | (dsimp only; lia)) (by first | lia | (dsimp only; lia)) (by dsimp only; rw [e, hu]; exact bu)
  dsimp only at ga
  rw [e, hw, hu, ← ht] at ga
  have g := adv_go (n := 2) (sta_go hL ga t0 t1)
  dsimp only at g
  rw [e3, ← hn] at g
  exact r_one (ex := 0) (ct := 4) h0 (opm 5 rfl) (by decide) (by decide) b0 (by first | lia | (dsimp only; lia)) hL hh g (by first | lia | (dsimp only; lia)) (by first | lia | (dsimp only; lia)) K
end
end Mine
set_option genSizeOf false
set_option genInjectivity false
set_option maxRecDepth 100000
namespace Mine
open PySem PySem.W PySem.Calls PyProof.Rows Builtin

/-! ## the interpreter's code, run -/
noncomputable def codeL : List Int := [160, 0, 177, 128, 230, 128, 208, 2, 230, 129, 141, 14, 5, 108, 0, 3, 177, 128, 230, 128, 208, 2, 230, 129, 202, 149, 0, 76, 0, 5, 24, 181, 0, 117, 1, 232, 149, 0, 76, 0, 5, 56, 181, 1, 245, 0, 232, 149, 0, 76, 0, 5, 181, 0, 202, 149, 0, 76, 0, 5,
  181, 0, 180, 1, 149, 1, 148, 0, 76, 0, 5, 181, 0, 85, 1, 232, 149, 0, 76, 0, 5, 177, 128, 168, 230, 128, 208, 2, 230, 129, 232, 181, 255, 208, 10, 24, 152, 101, 128, 133, 128, 144, 2, 230, 129, 76, 0, 5]
noncomputable def Cd (m : Int → Int) : Prop := ∀ (i : Nat) (b : Int), codeL[i]? = some b → i ≠ 14 → m (1280 + i) = b
theorem Cd.at {m : Int → Int} (C : Cd m) (i : Nat) {j b : Int} (h : codeL[i]? = some b) (n : i ≠ 14) (hj : j = 1280 + i) : m j = b := by rw [hj]; exact C i b h n
theorem Cd.upd {m : Int → Int} (C : Cd m) {w a : Int} (h : w < 1280 ∨ w = 1294) : Cd (upd m w a) := fun i b e n => by
  unfold Mine.upd
  rw [if_neg (by rcases h with h | h <;> lia)]
  exact C i b e n
theorem Cd.same {m m' : Int → Int} (C : Cd m) (h : ∀ i, 1280 ≤ i → i ≠ 1294 → m' i = m i) : Cd m' := fun i b e n => by
  rw [h _ (by lia) (by lia)]
  exact C i b e n
noncomputable abbrev R3 (k : Nat) (q : Q) (P : Q → Prop) : Prop := Reach 4096 1388 k q P
theorem hL3 : (4096 : Nat) ≤ 65536 := by decide
theorem h53 : 512 ≤ (4096 : Nat) := by decide
theorem o128 : oct? 128 := ⟨by decide, by decide⟩
theorem o129 : oct? 129 := ⟨by decide, by decide⟩
theorem upd_is {m : Int → Int} {i v : Int} : upd m i v i = v := if_pos rfl
theorem upd_not {m : Int → Int} {i v j : Int} (h : j ≠ i) : upd m i v j = m j := if_neg h
theorem eq0T {x : Int} (h : x = 0) : (x == 0) = true := by rw [h]; rfl
theorem eq0F {x : Int} (h : ¬ x = 0) : (x == 0) = false := by simpa using h
section
variable {k : Nat} {P : Q → Prop} {m : Int → Int} {sp a x y p s : Int} {c z n v : Bool}
theorem f_inc (j : Nat) (hs : s = 1280 + j) (hj : j + 8 ≤ 108) (C : Cd m) (e0 : codeL[j]? = some 230) (e1 : codeL[j + 1]? = some 128) (e2 : codeL[j + 2]? = some 208) (e3 : codeL[j + 3]? = some 2) (e4 : codeL[j + 4]? = some 230) (e5 : codeL[j + 5]? = some 129)
    (n14 : j + 5 < 14 ∨ 14 < j) (p0 : m 128 = p % 256) (p1 : m 129 = p / 256) (b0 : 0 ≤ p) (b1 : p < 65535)
    (K : ∀ m' z' n', (∀ i, i ≠ 128 → i ≠ 129 → m' i = m i) → m' 128 = (p + 1) % 256 → m' 129 = (p + 1) / 256 → R3 k ⟨m', s + 6, sp, a, x, y, c, z', n', v⟩ P) : R3 (k + 3) ⟨m, s, sp, a, x, y, c, z, n, v⟩ P := by
  refine r_inc (w := 128) (u := p % 256) hL3 (by lia) (by lia) h53 (by lia) (C.at j e0 (by lia) hs) (C.at (j + 1) e1 (by lia) (by lia)) o128 p0 rfl ?_
  have C1 : Cd (upd m 128 ((p % 256 + 1) % 256)) := C.upd (.inl (by decide))
  by_cases e : (p % 256 + 1) % 256 = 0
  · rw [eq0T e]
    refine r_bne (u := 2) (npc := s + 4) hL3 (by lia) (by lia) h53 (by lia) (C1.at (j + 2) e2 (by lia) (by lia)) (C1.at (j + 3) e3 (by lia) (by lia)) (by decide) (by decide) (by lia) (by rw [if_pos rfl]; lia) ?_
    refine r_inc (w := 129) (u := p / 256) (npc := s + 6) hL3 (by lia) (by lia) h53 (by lia) (C1.at (j + 4) e4 (by lia) (by lia)) (C1.at (j + 5) e5 (by lia) (by lia)) o129 (by rw [upd_not (by decide)]; exact p1) (by lia) ?_
    exact K _ _ _ (fun i h1 h2 => by rw [upd_not h2, upd_not h1]) (by rw [upd_not (by decide), upd_is]; lia) (by rw [upd_is]; lia)
  · rw [eq0F e]
    refine (r_bne (u := 2) (npc := s + 6) hL3 (by lia) (by lia) h53 (by lia) (C1.at (j + 2) e2 (by lia) (by lia)) (C1.at (j + 3) e3 (by lia) (by lia)) (by decide) (by decide) (by lia) (by rw [if_neg (by decide)]; lia) ?_ : R3 (k + 1) _ _).le (Nat.le_succ _)
    exact K _ _ _ (fun i h1 h2 => by rw [upd_not h1]) (by rw [upd_is]; lia) (by rw [upd_not (by decide), p1]; lia)
theorem next_run {o t l b : Int} (C : Cd m) (p0 : m 128 = p % 256) (p1 : m 129 = p / 256) (b0 : 2048 ≤ p) (b1 : p < 4095) (ho : m p = o) (oo : oct? o) (ht : t = 768 + o) (t2 : nxt t < 4096) (hl : m t = l) (hb : m (nxt t) = b) (ol : oct? l) (ob : oct? b) (tn : t ≠ 1294) (tn' : nxt t ≠ 1294)
    (K : ∀ m' z' n', (∀ i, i ≠ 128 → i ≠ 129 → i ≠ 1294 → m' i = m i) → m' 128 = (p + 1) % 256 → m' 129 = (p + 1) / 256 → m' 1294 = o → R3 k ⟨m', l + b * 256, sp, o, x, 0, c, z', n', v⟩ P) : R3 (k + 7) ⟨m, 1280, sp, a, x, y, c, z, n, v⟩ P := by
  have o0 := oo.1; have o1 := oo.2
  have n0 : t < nxt t ∨ nxt t ≤ t := by lia
  have n1 : 0 ≤ nxt t := by unfold nxt; lia
  refine r_ldyI (u := 0) (npc := 1282) hL3 (by decide) (by decide) h53 (by decide) (C.at 0 rfl (by decide) rfl) (C.at 1 rfl (by decide) rfl) ⟨by decide, by decide⟩ (by decide) ?_
  refine r_ldaY (w := 128) (l := p % 256) (b := p / 256) (t := p) (u := o) (npc := 1284) hL3 (by decide) (by decide) h53 (by decide) (C.at 2 rfl (by decide) rfl) (C.at 3 rfl (by decide) rfl) (by decide) (by decide) (by decide) p0 p1 ⟨by lia, by lia⟩ (by lia) (by lia) ho oo (by decide) ?_
  refine f_inc 4 rfl (by decide) C rfl rfl rfl rfl rfl rfl (by decide) p0 p1 (by lia) (by lia) fun m1 z1 n1 same q0 q1 => ?_
  have C1 : Cd m1 := C.same fun i h _ => same i (by lia) (by lia)
  refine r_staA (w := 14) (u := 5) (t := 1294) (npc := 1293) hL3 (by decide) (by decide) h53 (by decide) (C1.at 10 rfl (by decide) rfl) (C1.at 11 rfl (by decide) rfl) (C1.at 12 rfl (by decide) rfl) ⟨by decide, by decide⟩ (by decide) (by decide) (by decide) (by decide) ?_
  have C2 : Cd (upd m1 1294 o) := C1.upd (.inr rfl)
  have t1 : t ≠ 128 ∧ t ≠ 129 ∧ nxt t ≠ 128 ∧ nxt t ≠ 129 := by unfold nxt; lia
  refine r_jmpI (w := o) (u := 3) (t := t) (l := l) (b := b) hL3 (by decide) (by decide) h53 (by decide) (C2.at 13 rfl (by decide) rfl) upd_is (C2.at 15 rfl (by decide) rfl) ⟨by decide, by decide⟩ (by lia) (by lia) (by lia) t2
    (by rw [upd_not tn, same _ t1.1 t1.2.1, hl]) (by rw [upd_not tn', same _ t1.2.2.1 t1.2.2.2, hb]) ol ob rfl ?_
  exact K _ _ _ (fun i h1 h2 h3 => by rw [upd_not h3, same i h1 h2]) (by rw [upd_not (by decide)]; exact q0) (by rw [upd_not (by decide)]; exact q1) upd_is
end
end Mine
set_option genSizeOf false
set_option genInjectivity false
set_option maxRecDepth 100000
namespace Mine
open PySem PySem.W PySem.Calls PyProof.Rows Builtin

section
variable {k : Nat} {P : Q → Prop} {m : Int → Int} {sp a x y p s u w : Int} {c z n v : Bool}
theorem f_back (j : Nat) (hs : s = 1280 + j) (hj : j + 3 ≤ 108) (C : Cd m) (e0 : codeL[j]? = some 76) (e1 : codeL[j + 1]? = some 0) (e2 : codeL[j + 2]? = some 5) (n14 : 14 < j) (K : R3 k ⟨m, 1280, sp, a, x, y, c, z, n, v⟩ P) : R3 (k + 1) ⟨m, s, sp, a, x, y, c, z, n, v⟩ P :=
  r_jmp (w := 0) (u := 5) hL3 (by lia) (by lia) h53 (by lia) (C.at j e0 (by lia) hs) (C.at (j + 1) e1 (by lia) (by lia)) (C.at (j + 2) e2 (by lia) (by lia)) ⟨by decide, by decide⟩ ⟨by decide, by decide⟩ (by decide) K
theorem m_z {x : Int} (h : oct? x) : x = (x + 0) % 256 := by have := h.1; have := h.2; lia
theorem om {x : Int} : oct? (x % 256) := ⟨by lia, by lia⟩
theorem lt80 {x : Int} (h : oct? x) : x < 1280 ∨ x = 1294 := .inl (by have := h.2; lia)
/-- push -/
theorem k0_run (C : Cd m) (p0 : m 128 = p % 256) (p1 : m 129 = p / 256) (b0 : 2048 ≤ p) (b1 : p < 4095) (hu : m p = u) (ou : oct? u) (hx : (x - 1) % 256 ≠ 128 ∧ (x - 1) % 256 ≠ 129)
    (K : ∀ m' a' y' c' z' n' v', (∀ i, i ≠ 128 → i ≠ 129 → i ≠ (x - 1) % 256 → m' i = m i) → m' 128 = (p + 1) % 256 → m' 129 = (p + 1) / 256 → m' ((x - 1) % 256) = u → R3 k ⟨m', 1280, sp, a', (x - 1) % 256, y', c', z', n', v'⟩ P) :
    R3 (k + 7) ⟨m, 1296, sp, a, x, 0, c, z, n, v⟩ P := by
  refine r_ldaY (w := 128) (l := p % 256) (b := p / 256) (t := p) (u := u) (npc := 1298) hL3 (by decide) (by decide) h53 (by decide) (C.at 16 rfl (by decide) rfl) (C.at 17 rfl (by decide) rfl) (by decide) (by decide) (by decide) p0 p1 ⟨by lia, by lia⟩ (by lia) (by lia) hu ou (by decide) ?_
  refine f_inc 18 rfl (by decide) C rfl rfl rfl rfl rfl rfl (by decide) p0 p1 (by lia) (by lia) fun m1 z1 n1 same q0 q1 => ?_
  have C1 : Cd m1 := C.same fun i h _ => same i (by lia) (by lia)
  refine r_dex (npc := 1305) hL3 (by decide) (by decide) h53 (by decide) (C1.at 24 rfl (by decide) rfl) (by decide) ?_
  refine r_staX (w := 0) (t := (x - 1) % 256) (npc := 1307) hL3 (by decide) (by decide) h53 (by decide) (C1.at 25 rfl (by decide) rfl) (C1.at 26 rfl (by decide) rfl) (m_z om) (by decide) ?_
  refine f_back 27 rfl (by decide) (C1.upd (lt80 om)) rfl rfl rfl (by decide) ?_
  exact K _ _ _ _ _ _ _ (fun i h1 h2 h3 => by rw [upd_not h3, same i h1 h2]) (by rw [upd_not (Ne.symm hx.1)]; exact q0) (by rw [upd_not (Ne.symm hx.2)]; exact q1) upd_is
theorem K_same {m : Int → Int} {t b : Int} (t1 : t ≠ 128) (t2 : t ≠ 129) : (upd m t b) 128 = m 128 ∧ (upd m t b) 129 = m 129 := ⟨upd_not (Ne.symm t1), upd_not (Ne.symm t2)⟩
/-- add -/
theorem k1_run (C : Cd m) (ox : oct? x) (hu : m x = u) (hw : m ((x + 1) % 256) = w) (ou : oct? u) (ow : oct? w)
    (K : ∀ a' y' c' z' n' v', R3 k ⟨upd m ((x + 1) % 256) ((w + u) % 256), 1280, sp, a', (x + 1) % 256, y', c', z', n', v'⟩ P) : R3 (k + 6) ⟨m, 1310, sp, a, x, y, c, z, n, v⟩ P := by
  refine r_clc (npc := 1311) hL3 (by decide) (by decide) h53 (by decide) (C.at 30 rfl (by decide) rfl) (by decide) ?_
  refine r_ldaX (w := 0) (t := x) (u := u) (npc := 1313) hL3 (by decide) (by decide) h53 (by decide) (C.at 31 rfl (by decide) rfl) (C.at 32 rfl (by decide) rfl) (m_z ox) hu ou (by decide) ?_
  refine r_adcX (w := 1) (t := (x + 1) % 256) (u := w) (npc := 1315) hL3 (by decide) (by decide) h53 (by decide) (C.at 33 rfl (by decide) rfl) (C.at 34 rfl (by decide) rfl) rfl hw ow ou (by decide) fun b => ?_
  refine r_inx (npc := 1316) hL3 (by decide) (by decide) h53 (by decide) (C.at 35 rfl (by decide) rfl) (by decide) ?_
  refine r_staX (w := 0) (t := (x + 1) % 256) (npc := 1318) hL3 (by decide) (by decide) h53 (by decide) (C.at 36 rfl (by decide) rfl) (C.at 37 rfl (by decide) rfl) (m_z om) (by decide) ?_
  refine f_back 38 rfl (by decide) (C.upd (lt80 om)) rfl rfl rfl (by decide) ?_
  have e : (w + u + if false = true then 1 else 0) = w + u := by simp
  rw [e]
  exact K _ _ _ _ _ _
/-- take away -/
theorem k2_run (C : Cd m) (ox : oct? x) (hu : m x = u) (hw : m ((x + 1) % 256) = w) (ou : oct? u) (ow : oct? w)
    (K : ∀ a' y' c' z' n' v', R3 k ⟨upd m ((x + 1) % 256) ((w - u) % 256), 1280, sp, a', (x + 1) % 256, y', c', z', n', v'⟩ P) : R3 (k + 6) ⟨m, 1321, sp, a, x, y, c, z, n, v⟩ P := by
  refine r_sec (npc := 1322) hL3 (by decide) (by decide) h53 (by decide) (C.at 41 rfl (by decide) rfl) (by decide) ?_
  refine r_ldaX (w := 1) (t := (x + 1) % 256) (u := w) (npc := 1324) hL3 (by decide) (by decide) h53 (by decide) (C.at 42 rfl (by decide) rfl) (C.at 43 rfl (by decide) rfl) rfl hw ow (by decide) ?_
  refine r_sbcX (w := 0) (t := x) (u := u) (npc := 1326) hL3 (by decide) (by decide) h53 (by decide) (C.at 44 rfl (by decide) rfl) (C.at 45 rfl (by decide) rfl) (m_z ox) hu ou ow (by decide) fun b => ?_
  refine r_inx (npc := 1327) hL3 (by decide) (by decide) h53 (by decide) (C.at 46 rfl (by decide) rfl) (by decide) ?_
  refine r_staX (w := 0) (t := (x + 1) % 256) (npc := 1329) hL3 (by decide) (by decide) h53 (by decide) (C.at 47 rfl (by decide) rfl) (C.at 48 rfl (by decide) rfl) (m_z om) (by decide) ?_
  refine f_back 49 rfl (by decide) (C.upd (lt80 om)) rfl rfl rfl (by decide) ?_
  have e : (w + (255 - u) + if true = true then 1 else 0) % 256 = (w - u) % 256 := by rw [if_pos rfl]; lia
  rw [e]
  exact K _ _ _ _ _ _
/-- twice -/
theorem k3_run (C : Cd m) (ox : oct? x) (hu : m x = u) (ou : oct? u)
    (K : ∀ a' y' c' z' n' v', R3 k ⟨upd m ((x - 1) % 256) u, 1280, sp, a', (x - 1) % 256, y', c', z', n', v'⟩ P) : R3 (k + 4) ⟨m, 1332, sp, a, x, y, c, z, n, v⟩ P := by
  refine r_ldaX (w := 0) (t := x) (u := u) (npc := 1334) hL3 (by decide) (by decide) h53 (by decide) (C.at 52 rfl (by decide) rfl) (C.at 53 rfl (by decide) rfl) (m_z ox) hu ou (by decide) ?_
  refine r_dex (npc := 1335) hL3 (by decide) (by decide) h53 (by decide) (C.at 54 rfl (by decide) rfl) (by decide) ?_
  refine r_staX (w := 0) (t := (x - 1) % 256) (npc := 1337) hL3 (by decide) (by decide) h53 (by decide) (C.at 55 rfl (by decide) rfl) (C.at 56 rfl (by decide) rfl) (m_z om) (by decide) ?_
  refine f_back 57 rfl (by decide) (C.upd (lt80 om)) rfl rfl rfl (by decide) ?_
  exact K _ _ _ _ _ _
/-- exchange -/
theorem k4_run (C : Cd m) (ox : oct? x) (hu : m x = u) (hw : m ((x + 1) % 256) = w) (ou : oct? u) (ow : oct? w)
    (K : ∀ a' y' c' z' n' v', R3 k ⟨upd (upd m ((x + 1) % 256) u) x w, 1280, sp, a', x, y', c', z', n', v'⟩ P) : R3 (k + 5) ⟨m, 1340, sp, a, x, y, c, z, n, v⟩ P := by
  refine r_ldaX (w := 0) (t := x) (u := u) (npc := 1342) hL3 (by decide) (by decide) h53 (by decide) (C.at 60 rfl (by decide) rfl) (C.at 61 rfl (by decide) rfl) (m_z ox) hu ou (by decide) ?_
  refine r_ldyX (w := 1) (t := (x + 1) % 256) (u := w) (npc := 1344) hL3 (by decide) (by decide) h53 (by decide) (C.at 62 rfl (by decide) rfl) (C.at 63 rfl (by decide) rfl) rfl hw ow (by decide) ?_
  refine r_staX (w := 1) (t := (x + 1) % 256) (npc := 1346) hL3 (by decide) (by decide) h53 (by decide) (C.at 64 rfl (by decide) rfl) (C.at 65 rfl (by decide) rfl) rfl (by decide) ?_
  have C1 : Cd (upd m ((x + 1) % 256) u) := C.upd (lt80 om)
  refine r_styX (w := 0) (t := x) (npc := 1348) hL3 (by decide) (by decide) h53 (by decide) (C1.at 66 rfl (by decide) rfl) (C1.at 67 rfl (by decide) rfl) (m_z ox) (by decide) ?_
  refine f_back 68 rfl (by decide) (C1.upd (lt80 ox)) rfl rfl rfl (by decide) ?_
  exact K _ _ _ _ _ _
/-- join -/
theorem k5_run (C : Cd m) (ox : oct? x) (hu : m x = u) (hw : m ((x + 1) % 256) = w) (ou : oct? u) (ow : oct? w)
    (K : ∀ a' y' c' z' n' v', R3 k ⟨upd m ((x + 1) % 256) (bitXor u w), 1280, sp, a', (x + 1) % 256, y', c', z', n', v'⟩ P) : R3 (k + 5) ⟨m, 1351, sp, a, x, y, c, z, n, v⟩ P := by
  refine r_ldaX (w := 0) (t := x) (u := u) (npc := 1353) hL3 (by decide) (by decide) h53 (by decide) (C.at 71 rfl (by decide) rfl) (C.at 72 rfl (by decide) rfl) (m_z ox) hu ou (by decide) ?_
  refine r_eorX (w := 1) (t := (x + 1) % 256) (u := w) (npc := 1355) hL3 (by decide) (by decide) h53 (by decide) (C.at 73 rfl (by decide) rfl) (C.at 74 rfl (by decide) rfl) rfl hw (xor_oct ou ow) (by decide) ?_
  refine r_inx (npc := 1356) hL3 (by decide) (by decide) h53 (by decide) (C.at 75 rfl (by decide) rfl) (by decide) ?_
  refine r_staX (w := 0) (t := (x + 1) % 256) (npc := 1358) hL3 (by decide) (by decide) h53 (by decide) (C.at 76 rfl (by decide) rfl) (C.at 77 rfl (by decide) rfl) (m_z om) (by decide) ?_
  refine f_back 78 rfl (by decide) (C.upd (lt80 om)) rfl rfl rfl (by decide) ?_
  exact K _ _ _ _ _ _
end
end Mine
set_option genSizeOf false
set_option genInjectivity false
set_option maxRecDepth 100000
namespace Mine
open PySem PySem.W PySem.Calls PyProof.Rows Builtin

section
variable {k : Nat} {P : Q → Prop} {m : Int → Int} {sp a x y p s u w : Int} {c z n v : Bool}
/-- add y to the pointer -/
theorem k6_add (C : Cd m) (p0 : m 128 = p % 256) (p1 : m 129 = p / 256) (b0 : 0 ≤ p) (b1 : p + u < 65535) (ou : oct? u)
    (K : ∀ m' a' c' z' n' v', (∀ i, i ≠ 128 → i ≠ 129 → m' i = m i) → m' 128 = (p + u) % 256 → m' 129 = (p + u) / 256 → R3 k ⟨m', 1280, sp, a', x, u, c', z', n', v'⟩ P) : R3 (k + 7) ⟨m, 1375, sp, a, x, u, c, z, n, v⟩ P := by
  have o0 := ou.1; have o1 := ou.2
  refine r_clc (npc := 1376) hL3 (by decide) (by decide) h53 (by decide) (C.at 95 rfl (by decide) rfl) (by decide) ?_
  refine r_tya (npc := 1377) hL3 (by decide) (by decide) h53 (by decide) (C.at 96 rfl (by decide) rfl) ou (by decide) ?_
  refine r_adc (w := 128) (u := p % 256) (npc := 1379) hL3 (by decide) (by decide) h53 (by decide) (C.at 97 rfl (by decide) rfl) (C.at 98 rfl (by decide) rfl) o128 p0 om ou (by decide) fun b => ?_
  have e : (p % 256 + u + if false = true then 1 else 0) = p % 256 + u := by simp
  rw [e]
  refine r_sta (w := 128) (npc := 1381) hL3 (by decide) (by decide) h53 (by decide) (C.at 99 rfl (by decide) rfl) (C.at 100 rfl (by decide) rfl) o128 (by decide) ?_
  have C1 : Cd (upd m 128 ((p % 256 + u) % 256)) := C.upd (.inl (by decide))
  by_cases h : 255 < p % 256 + u
  · rw [decide_eq_true h]
    refine r_bcc (u := 2) (npc := 1383) hL3 (by decide) (by decide) h53 (by decide) (C1.at 101 rfl (by decide) rfl) (C1.at 102 rfl (by decide) rfl) (by decide) (by decide) (by decide) (by rw [if_pos rfl]; rfl) ?_
    refine r_inc (w := 129) (u := p / 256) (npc := 1385) hL3 (by decide) (by decide) h53 (by decide) (C1.at 103 rfl (by decide) rfl) (C1.at 104 rfl (by decide) rfl) o129 (by rw [upd_not (by decide)]; exact p1) (by decide) ?_
    refine f_back 105 rfl (by decide) (C1.upd (.inl (by decide))) rfl rfl rfl (by decide) ?_
    exact K _ _ _ _ _ _ (fun i h1 h2 => by rw [upd_not h2, upd_not h1]) (by rw [upd_not (by decide), upd_is]; omega) (by rw [upd_is]; omega)
  · rw [decide_eq_false h]
    refine (r_bcc (u := 2) (npc := 1385) hL3 (by decide) (by decide) h53 (by decide) (C1.at 101 rfl (by decide) rfl) (C1.at 102 rfl (by decide) rfl) (by decide) (by decide) (by decide) (by rw [if_neg (by decide)]; rfl) ?_ : R3 (k + 2) _ _).le (Nat.le_succ _)
    refine f_back 105 rfl (by decide) C1 rfl rfl rfl (by decide) ?_
    exact K _ _ _ _ _ _ (fun i h1 h2 => by rw [upd_not h1]) (by rw [upd_is]; omega) (by rw [upd_not (by decide), p1]; omega)
/-- skip the next few where the top is nought -/
theorem k6_run (C : Cd m) (p0 : m 128 = p % 256) (p1 : m 129 = p / 256) (b0 : 2048 ≤ p) (b1 : p + 1 + u < 4096) (hu : m p = u) (ou : oct? u) (ox : oct? x) (hx : x ≠ 128 ∧ x ≠ 129) (hw : m x = w) (ow : oct? w)
    (K : ∀ m' a' y' c' z' n' v', (∀ i, i ≠ 128 → i ≠ 129 → m' i = m i) → m' 128 = (p + 1 + if w = 0 then u else 0) % 256 → m' 129 = (p + 1 + if w = 0 then u else 0) / 256 → R3 k ⟨m', 1280, sp, a', (x + 1) % 256, y', c', z', n', v'⟩ P) :
    R3 (k + 15) ⟨m, 1361, sp, a, x, 0, c, z, n, v⟩ P := by
  have o0 := ou.1; have o1 := ou.2
  have x0 := ox.1; have x1 := ox.2
  refine r_ldaY (w := 128) (l := p % 256) (b := p / 256) (t := p) (u := u) (npc := 1363) hL3 (by decide) (by decide) h53 (by decide) (C.at 81 rfl (by decide) rfl) (C.at 82 rfl (by decide) rfl) (by decide) (by decide) (by decide) p0 p1 ⟨by omega, by omega⟩ (by omega) (by omega) hu ou (by decide) ?_
  refine r_tay (npc := 1364) hL3 (by decide) (by decide) h53 (by decide) (C.at 83 rfl (by decide) rfl) ou (by decide) ?_
  refine f_inc 84 rfl (by decide) C rfl rfl rfl rfl rfl rfl (by decide) p0 p1 (by omega) (by omega) fun m1 z1 n1 same q0 q1 => ?_
  have C1 : Cd m1 := C.same fun i h _ => same i (by omega) (by omega)
  refine r_inx (npc := 1371) hL3 (by decide) (by decide) h53 (by decide) (C1.at 90 rfl (by decide) rfl) (by decide) ?_
  refine r_ldaX (w := 255) (t := x) (u := w) (npc := 1373) hL3 (by decide) (by decide) h53 (by decide) (C1.at 91 rfl (by decide) rfl) (C1.at 92 rfl (by decide) rfl) (by omega) (by rw [same _ hx.1 hx.2]; exact hw) ow (by decide) ?_
  by_cases h : w = 0
  · rw [eq0T h]
    rw [if_pos h] at K
    refine r_bne (u := 10) (npc := 1375) hL3 (by decide) (by decide) h53 (by decide) (C1.at 93 rfl (by decide) rfl) (C1.at 94 rfl (by decide) rfl) (by decide) (by decide) (by decide) (by rw [if_pos rfl]; rfl) ?_
    exact k6_add C1 q0 q1 (by omega) (by omega) ou fun m' a' c' z' n' v' same' r0 r1 => K m' a' u c' z' n' v' (fun i h1 h2 => by rw [same' i h1 h2, same i h1 h2]) r0 r1
  · rw [eq0F h]
    rw [if_neg h, Int.add_zero] at K
    refine (r_bne (u := 10) (npc := 1385) hL3 (by decide) (by decide) h53 (by decide) (C1.at 93 rfl (by decide) rfl) (C1.at 94 rfl (by decide) rfl) (by decide) (by decide) (by decide) (by rw [if_neg (by decide)]; rfl) ?_ : R3 (k + 2) _ _).le (by omega)
    refine f_back 105 rfl (by decide) C1 rfl rfl rfl (by decide) ?_
    exact K _ _ _ _ _ _ _ same q0 q1
end
end Mine
set_option genSizeOf false
set_option genInjectivity false
set_option maxRecDepth 100000
namespace Mine
open PySem PySem.W PySem.Calls PyProof.Rows Builtin

/-! ## the small machine, told plainly -/
noncomputable abbrev St := Int × Int
noncomputable def okS (s : St) : Prop := 0 ≤ s.1 ∧ s.1 ≤ 6 ∧ 0 ≤ s.2 ∧ s.2 < 256 ∧ (s.1 = 6 → s.2 < 4)
noncomputable def size (k : Int) : Nat := if k = 0 ∨ k = 6 then 2 else 1
noncomputable def sizes' : List St → Nat
  | [] => 0
  | s :: r => size s.1 + sizes' r
noncomputable def enc : List St → List Int
  | [] => []
  | (k, v) :: r => (241 + 2 * k) :: (if k = 0 then v :: enc r else if k = 6 then (sizes' (r.take v.toNat) : Int) :: enc r else enc r)
theorem enc_len : ∀ r : List St, (enc r).length = sizes' r
  | [] => rfl
  | (k, v) :: r => by
    have ih := enc_len r
    show (_ :: (if k = 0 then v :: enc r else if k = 6 then (sizes' (r.take v.toNat) : Int) :: enc r else enc r) : List Int).length = size k + sizes' r
    unfold size
    by_cases h0 : k = 0
    · rw [if_pos h0, if_pos (.inl h0)]; simp only [List.length_cons]; lia
    · by_cases h6 : k = 6
      · rw [if_neg h0, if_pos h6, if_pos (.inr h6)]; simp only [List.length_cons]; lia
      · rw [if_neg h0, if_neg h6, if_neg (fun h => h.elim h0 h6)]; simp only [List.length_cons]; lia
theorem sizes_take : ∀ (r : List St) (j : Nat), sizes' (r.take j) + sizes' (r.drop j) = sizes' r
  | [], j => by simp [sizes']
  | s :: r, 0 => by simp [sizes']
  | s :: r, j + 1 => by
    have ih := sizes_take r j
    show size s.1 + sizes' (r.take j) + sizes' (r.drop j) = size s.1 + sizes' r
    lia
theorem enc_drop : ∀ (r : List St) (j : Nat), (enc r).drop (sizes' (r.take j)) = enc (r.drop j)
  | [], j => by simp [sizes', enc]
  | s :: r, 0 => by simp [sizes']
  | (k, v) :: r, j + 1 => by
    have ih := enc_drop r j
    show ((241 + 2 * k) :: (if k = 0 then v :: enc r else if k = 6 then (sizes' (r.take v.toNat) : Int) :: enc r else enc r)).drop (size k + sizes' (r.take j)) = enc (r.drop j)
    unfold size
    by_cases h0 : k = 0
    · rw [if_pos h0, if_pos (.inl h0), Nat.add_comm]; exact ih
    · by_cases h6 : k = 6
      · rw [if_neg h0, if_pos h6, if_pos (.inr h6), Nat.add_comm]; exact ih
      · rw [if_neg h0, if_neg h6, if_neg (fun h => h.elim h0 h6), Nat.add_comm]; exact ih
noncomputable def stk (k v : Int) (S : List Int) : List Int :=
  if k = 0 then v :: S else if k = 1 then (S.getD 1 0 + S.getD 0 0) % 256 :: S.drop 2 else if k = 2 then (S.getD 1 0 - S.getD 0 0) % 256 :: S.drop 2 else if k = 3 then S.getD 0 0 :: S else
  if k = 4 then S.getD 1 0 :: S.getD 0 0 :: S.drop 2 else if k = 5 then bitXor (S.getD 1 0) (S.getD 0 0) :: S.drop 2 else S.drop 1
noncomputable def xOf (top : Int) (S : List Int) : Int := (top + 40 - (S.length : Nat)) % 256
noncomputable def putB (top : Int) (S b : List Int) : List Int := (b.set (xOf top S).toNat (S.getD 0 0)).set ((xOf top S + 1) % 256).toNat (S.getD 1 0)
noncomputable def rest (k v : Int) (S : List Int) (r : List St) : List St := if k = 6 ∧ S.getD 0 0 = 0 then r.drop v.toNat else r
noncomputable def interp (top : Int) : Nat → List St → List Int → List Int → List Int × List Int
  | 0, _, S, b => (S, b)
  | _ + 1, [], S, b => (S, b)
  | f + 1, (k, v) :: r, S, b => interp top f (rest k v S r) (stk k v S) (putB top (stk k v S) b)
noncomputable def ents : List Int := [16, 30, 41, 52, 60, 71, 81]
structure Fix (b : List Int) : Prop where
  len : b.length = 4096
  code : ∀ (i : Nat) (y : Int), codeL[i]? = some y → i ≠ 14 → b.getD (1280 + i) 0 = y
  tab : ∀ k : Nat, k < 7 → b.getD (1009 + 2 * k) 0 = ents.getD k 0 ∧ b.getD (1010 + 2 * k) 0 = 5
  t1 : b.getD 1023 0 = 108
  t2 : b.getD 768 0 = 5
theorem getD_set {b : List Int} {i j : Nat} {v : Int} (h : i < b.length) : (b.set i v).getD j 0 = if j = i then v else b.getD j 0 := by
  rw [List.getD_eq_getElem?_getD, List.getD_eq_getElem?_getD, List.getElem?_set]
  by_cases q : j = i
  · subst q; simp [h]
  · rw [if_neg (fun x => q x.symm), if_neg q]
theorem xOf_oct (top : Int) (S : List Int) : oct? (xOf top S) := ⟨by unfold xOf; lia, by unfold xOf; lia⟩
theorem putB_len {top : Int} {S b : List Int} : (putB top S b).length = b.length := by unfold putB; simp
theorem putB_get {top : Int} {S b : List Int} (h : b.length = 4096) (j : Nat) : (putB top S b).getD j 0 = if j = ((xOf top S + 1) % 256).toNat then S.getD 1 0 else if j = (xOf top S).toNat then S.getD 0 0 else b.getD j 0 := by
  have o := xOf_oct top S
  have o0 := o.1; have o1 := o.2
  unfold putB
  rw [getD_set (by rw [List.length_set]; lia), getD_set (by lia)]
theorem putB_hi {top : Int} {S b : List Int} (h : b.length = 4096) {j : Nat} (hj : 256 ≤ j) : (putB top S b).getD j 0 = b.getD j 0 := by
  have o := xOf_oct top S
  have o0 := o.1; have o1 := o.2
  rw [putB_get h, if_neg (by lia), if_neg (by lia)]
theorem Fix.put {top : Int} {S b : List Int} (F : Fix b) : Fix (putB top S b) :=
  ⟨putB_len.trans F.len, fun i y e n => by rw [putB_hi F.len (by lia)]; exact F.code i y e n, fun k hk => by rw [putB_hi F.len (by lia), putB_hi F.len (by lia)]; exact F.tab k hk, by rw [putB_hi F.len (by decide)]; exact F.t1, by rw [putB_hi F.len (by decide)]; exact F.t2⟩
/-- what holds at the interpreter's head -/
structure Inv (top p : Int) (r : List St) (S b : List Int) (m : Int → Int) : Prop where
  fix : Fix b
  mem : ∀ i : Int, 0 ≤ i → i < 4096 → i ≠ 128 → i ≠ 129 → i ≠ 1294 → m i = b.getD i.toNat 0
  p0 : m 128 = p % 256
  p1 : m 129 = p / 256
  lo : 2048 ≤ p
  hi : p + (sizes' r : Int) ≤ 4000
  os : ∀ (i : Nat) (y : Int), (enc r ++ [255])[i]? = some y → b.getD (p.toNat + i) 0 = y
  st : ∀ i : Nat, i < S.length → b.getD ((xOf top S + i) % 256).toNat 0 = S.getD i 0
  so : ∀ i : Nat, i < S.length → oct? (S.getD i 0)
  l0 : 28 + r.length ≤ S.length
  l1 : S.length + r.length ≤ 52
  ok : ∀ s ∈ r, okS s
noncomputable def okTop3 (top : Int) : Prop := (0 ≤ top ∧ top ≤ 5) ∨ top = 254 ∨ top = 255
theorem Inv.cd {top p : Int} {r : List St} {S b : List Int} {m : Int → Int} (I : Inv top p r S b m) : Cd m := fun i y e n => by
  have hi : i < 108 := (List.getElem?_eq_some_iff.mp e).1
  rw [I.mem _ (by lia) (by lia) (by lia) (by lia) (by lia)]
  have : (1280 + (i : Int)).toNat = 1280 + i := by lia
  rw [this]
  exact I.fix.code i y e n
theorem Inv.sz {top p : Int} {r : List St} {S b : List Int} {m : Int → Int} (I : Inv top p r S b m) : r.length ≤ 12 := by
  have := I.l0; have := I.l1; lia
/-- the stack's places are clear of the pointer -/
theorem clear {top : Int} {S : List Int} (ht : okTop3 top) (h0 : 28 ≤ S.length) (h1 : S.length ≤ 52) (i : Nat) (hi : i ≤ S.length) : (xOf top S + i) % 256 ≠ 128 ∧ (xOf top S + i) % 256 ≠ 129 := by
  unfold xOf
  unfold okTop3 at ht
  rcases ht with h | h | h <;> constructor <;> lia
end Mine
set_option genSizeOf false
set_option genInjectivity false
set_option maxRecDepth 100000
namespace Mine
open PySem PySem.W PySem.Calls PyProof.Rows Builtin

section
variable {top p p' k v : Int} {r r' : List St} {S S' b : List Int} {m m' : Int → Int}
theorem Inv.step (I : Inv top p ((k, v) :: r) S b m) (hl1 : S'.length ≤ S.length + 1) (hl2 : S.length ≤ S'.length + 1)
    (hS : ∀ i j : Nat, 2 ≤ i → i < S'.length → j + S'.length = i + S.length → S'.getD i 0 = S.getD j 0)
    (hm : ∀ i, i ≠ 128 → i ≠ 129 → i ≠ 1294 → i ≠ xOf top S' → i ≠ (xOf top S' + 1) % 256 → m' i = m i) (h0 : m' (xOf top S') = S'.getD 0 0) (h1 : m' ((xOf top S' + 1) % 256) = S'.getD 1 0)
    (o0 : oct? (S'.getD 0 0)) (o1 : oct? (S'.getD 1 0)) (q0 : m' 128 = p' % 256) (q1 : m' 129 = p' / 256) (lo' : 2048 ≤ p') (hi' : p' + (sizes' r' : Int) ≤ 4000)
    (os' : ∀ (i : Nat) (y : Int), (enc r' ++ [255])[i]? = some y → b.getD (p'.toNat + i) 0 = y) (hr1 : r'.length ≤ r.length) (hr2 : ∀ s ∈ r', okS s) : Inv top p' r' S' (putB top S' b) m' := by
  have hb := I.fix.len
  have ox := xOf_oct top S'
  have x0 := ox.1; have x1 := ox.2
  have il0 := I.l0
  have il1 := I.l1
  rw [List.length_cons] at il0 il1
  refine ⟨I.fix.put, fun i i0 i1 n1 n2 n3 => ?_, q0, q1, lo', hi', fun i y e => ?_, fun i hi => ?_, fun i hi => ?_, by lia, by lia, hr2⟩
  · rw [putB_get hb]
    by_cases e1 : i.toNat = ((xOf top S' + 1) % 256).toNat
    · rw [if_pos e1, show i = (xOf top S' + 1) % 256 by lia]; exact h1
    · rw [if_neg e1]
      by_cases e0 : i.toNat = (xOf top S').toNat
      · rw [if_pos e0, show i = xOf top S' by lia]; exact h0
      · rw [if_neg e0, hm i n1 n2 n3 (by lia) (by lia)]
        exact I.mem i i0 i1 n1 n2 n3
  · rw [putB_hi hb (by lia)]; exact os' i y e
  · rw [putB_get hb]
    by_cases e1 : i = 1
    · subst e1; rw [if_pos (by lia)]
    · by_cases e0 : i = 0
      · subst e0; rw [if_neg (by lia), if_pos (by lia)]
      · rw [if_neg (by lia), if_neg (by lia), hS i (i + S.length - S'.length) (by lia) hi (by lia), ← I.st _ (by lia)]
        have : (xOf top S' + (i : Int)) % 256 = (xOf top S + ((i + S.length - S'.length : Nat) : Int)) % 256 := by unfold xOf; lia
        rw [this]
  · by_cases e1 : i = 1
    · subst e1; exact o1
    · by_cases e0 : i = 0
      · subst e0; exact o0
      · rw [hS i (i + S.length - S'.length) (by lia) hi (by lia)]
        exact I.so _ (by lia)
theorem x_up (h : S'.length + 1 = S.length) : xOf top S' = (xOf top S + 1) % 256 := by unfold xOf; lia
theorem x_dn (h : S'.length = S.length + 1) : xOf top S' = (xOf top S - 1) % 256 := by unfold xOf; lia
theorem x_eq (h : S'.length = S.length) : xOf top S' = xOf top S := by unfold xOf; rw [h]
theorem Inv.read (I : Inv top p r S b m) (ht : okTop3 top) (hm : ∀ i, i ≠ 128 → i ≠ 129 → i ≠ 1294 → m' i = m i) (i : Nat) (hi : i < S.length) {x : Int} (hx : x = (xOf top S + i) % 256) : m' x = S.getD i 0 := by
  have l0 := I.l0
  have l1 := I.l1
  have c := clear ht (S := S) (by lia) (by lia) i (by lia)
  rw [← hx] at c
  have x0 : 0 ≤ x := by rw [hx]; lia
  have x1 : x < 256 := by rw [hx]; lia
  rw [hm x c.1 c.2 (by lia), I.mem x x0 (by lia) c.1 c.2 (by lia), hx]
  exact I.st i hi
theorem Inv.oct (I : Inv top p r S b m) (hm : ∀ i, i ≠ 128 → i ≠ 129 → i ≠ 1294 → m' i = m i) (i : Nat) {y : Int} (e : (enc r ++ [255])[i]? = some y) (hi : p + i < 4096) : m' (p + i) = y := by
  have lo := I.lo
  rw [hm _ (by lia) (by lia) (by lia), I.mem _ (by lia) hi (by lia) (by lia) (by lia)]
  have : (p + (i : Int)).toNat = p.toNat + i := by lia
  rw [this]
  exact I.os i y e
theorem Inv.fixed (I : Inv top p r S b m) (i : Nat) (h0 : 130 ≤ i) (h1 : i < 4096) (h2 : i ≠ 1294) : m i = b.getD i 0 := by
  rw [I.mem i (by lia) (by lia) (by lia) (by lia) (by lia)]
  rfl
/-- the head is run: the jump goes to the instruction's piece of code -/
theorem Inv.next {j : Nat} {P : Q → Prop} {a y o l t2 : Int} {c z n vv : Bool} (I : Inv top p r S b m) (e : (enc r ++ [255])[0]? = some o) (oo : oct? o) (hp : p < 4095) (t : Nat) (ht : (t : Int) = 768 + o) (t0 : 130 ≤ t) (hn : nxt t = t2) (tn : t ≠ 1294) (t2' : 130 ≤ t2 ∧ t2 < 1280)
    (hl : b.getD t 0 = l) (hb : b.getD t2.toNat 0 = 5) (ol : oct? l)
    (K : ∀ m' z' n', (∀ i, i ≠ 128 → i ≠ 129 → i ≠ 1294 → m' i = m i) → m' 128 = (p + 1) % 256 → m' 129 = (p + 1) / 256 → m' 1294 = o → R3 j ⟨m', l + 1280, 255, o, xOf top S, 0, c, z', n', vv⟩ P) : R3 (j + 7) ⟨m, 1280, 255, a, xOf top S, y, c, z, n, vv⟩ P := by
  have o1 := oo.2
  have ho : m p = o := by
    have := I.oct (m' := m) (fun _ _ _ _ => rfl) 0 e (by lia)
    rw [show p + ((0 : Nat) : Int) = p by lia] at this
    exact this
  refine next_run (t := t) (l := l) (b := 5) I.cd I.p0 I.p1 I.lo hp ho oo ht (by rw [hn]; lia) ?_ ?_ ol ⟨by decide, by decide⟩ (by lia) (by rw [hn]; lia) K
  · rw [I.fixed t t0 (by lia) tn, hl]
  · rw [hn]
    have := I.fixed t2.toNat (by lia) (by lia) (by lia)
    rw [show ((t2.toNat : Nat) : Int) = t2 by lia] at this
    rw [this, hb]
end
end Mine
set_option genSizeOf false
set_option genInjectivity false
set_option maxRecDepth 100000
namespace Mine
open PySem PySem.W PySem.Calls PyProof.Rows Builtin

section
variable {top p k v val : Int} {r : List St} {S b : List Int} {m m1 : Int → Int}
noncomputable abbrev Same (m m1 : Int → Int) : Prop := ∀ i, i ≠ 128 → i ≠ 129 → i ≠ 1294 → m1 i = m i
theorem Inv.tail (I : Inv top p ((k, v) :: r) S b m) {w : Int} (h : enc ((k, v) :: r) = w :: enc r) : ∀ (i : Nat) (y : Int), (enc r ++ [255])[i]? = some y → b.getD ((p + 1).toNat + i) 0 = y := fun i y e => by
  have lo := I.lo
  have := I.os (i + 1) y (by rw [h]; exact e)
  rw [show (p + 1).toNat + i = p.toNat + (i + 1) by lia]
  exact this
theorem Inv.tail2 (I : Inv top p ((k, v) :: r) S b m) {w u : Int} (h : enc ((k, v) :: r) = w :: u :: enc r) : ∀ (i : Nat) (y : Int), (enc r ++ [255])[i]? = some y → b.getD ((p + 2).toNat + i) 0 = y := fun i y e => by
  have lo := I.lo
  have := I.os (i + 2) y (by rw [h]; exact e)
  rw [show (p + 2).toNat + i = p.toNat + (i + 2) by lia]
  exact this
theorem Inv.oks (I : Inv top p ((k, v) :: r) S b m) : ∀ s ∈ r, okS s := fun s hs => I.ok s (.tail _ hs)
theorem Inv.ge (I : Inv top p ((k, v) :: r) S b m) : 29 ≤ S.length ∧ S.length ≤ 51 := by
  have l0 := I.l0; have l1 := I.l1
  rw [List.length_cons] at l0 l1
  exact ⟨by lia, by lia⟩
theorem drop_getD (S : List Int) (d i : Nat) : (S.drop d).getD i 0 = S.getD (d + i) 0 := by
  rw [List.getD_eq_getElem?_getD, List.getD_eq_getElem?_getD, List.getElem?_drop]
theorem cons_getD (x : Int) (S : List Int) (i : Nat) : (x :: S).getD (i + 1) 0 = S.getD i 0 := rfl
/-- add, take away, join -/
theorem Inv.two (I : Inv top p ((k, v) :: r) S b m) (ht : okTop3 top) (same : Same m m1) (q0 : m1 128 = (p + 1) % 256) (q1 : m1 129 = (p + 1) / 256) (ov : oct? val) (h : enc ((k, v) :: r) = (241 + 2 * k) :: enc r) :
    Inv top (p + 1) r (val :: S.drop 2) (putB top (val :: S.drop 2) b) (upd m1 ((xOf top S + 1) % 256) val) := by
  have g := I.ge
  have hl : (val :: S.drop 2).length + 1 = S.length := by rw [List.length_cons, List.length_drop]; lia
  have ex := x_up (top := top) hl
  have ox := xOf_oct top S
  have x0 := ox.1; have x1 := ox.2
  have c := clear ht (S := S) (by lia) (by lia) 1 (by lia)
  have sz : (sizes' ((k, v) :: r) : Int) = sizes' r + 1 := by rw [← enc_len, ← enc_len, h, List.length_cons]; lia
  have hi := I.hi
  have lo := I.lo
  have r2 := I.read (m' := m1) ht same 2 (by lia) (x := ((xOf top S + 1) % 256 + 1) % 256) (by lia)
  refine I.step (by lia) (by lia) (fun i j h2 hi hj => ?_) (fun i n1 n2 n3 n4 _ => ?_) ?_ ?_ ov ?_ ?_ ?_ (by lia) (by lia) (I.tail h) (Nat.le_refl _) I.oks
  · obtain ⟨i, rfl⟩ : ∃ i', i = i' + 1 := ⟨i - 1, by lia⟩
    rw [cons_getD, drop_getD, show 2 + i = j by lia]
  · rw [ex] at n4
    rw [upd_not n4]; exact same i n1 n2 n3
  · rw [ex, upd_is]; rfl
  · rw [ex, upd_not (by lia), r2, cons_getD, drop_getD]
  · rw [cons_getD, drop_getD]; exact I.so _ (by lia)
  · rw [upd_not (by lia)]; exact q0
  · rw [upd_not (by lia)]; exact q1
/-- twice -/
theorem Inv.dup (I : Inv top p ((k, v) :: r) S b m) (ht : okTop3 top) (same : Same m m1) (q0 : m1 128 = (p + 1) % 256) (q1 : m1 129 = (p + 1) / 256) (h : enc ((k, v) :: r) = (241 + 2 * k) :: enc r) :
    Inv top (p + 1) r (S.getD 0 0 :: S) (putB top (S.getD 0 0 :: S) b) (upd m1 ((xOf top S - 1) % 256) (S.getD 0 0)) := by
  have g := I.ge
  have hl : (S.getD 0 0 :: S).length = S.length + 1 := rfl
  have ex := x_dn (top := top) hl
  have ox := xOf_oct top S
  have x0 := ox.1; have x1 := ox.2
  have c := clear ht (S := S.getD 0 0 :: S) (by lia) (by lia) 0 (by lia)
  rw [ex] at c
  have sz : (sizes' ((k, v) :: r) : Int) = sizes' r + 1 := by rw [← enc_len, ← enc_len, h, List.length_cons]; lia
  have hi := I.hi
  have lo := I.lo
  have r0 := I.read (m' := m1) ht same 0 (by lia) (x := ((xOf top S - 1) % 256 + 1) % 256) (by lia)
  refine I.step (by lia) (by lia) (fun i j h2 hi hj => ?_) (fun i n1 n2 n3 n4 _ => ?_) ?_ ?_ (I.so 0 (by lia)) (I.so 0 (by lia)) ?_ ?_ (by lia) (by lia) (I.tail h) (Nat.le_refl _) I.oks
  · obtain ⟨i, rfl⟩ : ∃ i', i = i' + 1 := ⟨i - 1, by lia⟩
    rw [cons_getD, show i = j by lia]
  · rw [ex] at n4
    rw [upd_not n4]; exact same i n1 n2 n3
  · rw [ex, upd_is]; rfl
  · rw [ex, upd_not (by lia), r0]; rfl
  · rw [upd_not (by lia)]; exact q0
  · rw [upd_not (by lia)]; exact q1
/-- exchange -/
theorem Inv.swap (I : Inv top p ((k, v) :: r) S b m) (ht : okTop3 top) (same : Same m m1) (q0 : m1 128 = (p + 1) % 256) (q1 : m1 129 = (p + 1) / 256) (h : enc ((k, v) :: r) = (241 + 2 * k) :: enc r) :
    Inv top (p + 1) r (S.getD 1 0 :: S.getD 0 0 :: S.drop 2) (putB top (S.getD 1 0 :: S.getD 0 0 :: S.drop 2) b) (upd (upd m1 ((xOf top S + 1) % 256) (S.getD 0 0)) (xOf top S) (S.getD 1 0)) := by
  have g := I.ge
  have hl : (S.getD 1 0 :: S.getD 0 0 :: S.drop 2).length = S.length := by rw [List.length_cons, List.length_cons, List.length_drop]; lia
  have ex := x_eq (top := top) hl
  have ox := xOf_oct top S
  have x0 := ox.1; have x1 := ox.2
  have c0 := clear ht (S := S) (by lia) (by lia) 0 (by lia)
  have c := clear ht (S := S) (by lia) (by lia) 1 (by lia)
  have sz : (sizes' ((k, v) :: r) : Int) = sizes' r + 1 := by rw [← enc_len, ← enc_len, h, List.length_cons]; lia
  have hi := I.hi
  have lo := I.lo
  refine I.step (by lia) (by lia) (fun i j h2 hi hj => ?_) (fun i n1 n2 n3 n4 n5 => ?_) ?_ ?_ (I.so 1 (by lia)) (I.so 0 (by lia)) ?_ ?_ (by lia) (by lia) (I.tail h) (Nat.le_refl _) I.oks
  · obtain ⟨i, rfl⟩ : ∃ i', i = i' + 2 := ⟨i - 2, by lia⟩
    show (S.drop 2).getD i 0 = _
    rw [drop_getD, show 2 + i = j by lia]
  · rw [ex] at n4 n5
    rw [upd_not n4, upd_not n5]; exact same i n1 n2 n3
  · rw [ex, upd_is]; rfl
  · rw [ex, upd_not (by lia), upd_is]; rfl
  · rw [upd_not (by lia), upd_not (by lia)]; exact q0
  · rw [upd_not (by lia), upd_not (by lia)]; exact q1
/-- push -/
theorem Inv.push (I : Inv top p ((0, v) :: r) S b m) (ht : okTop3 top) (same : ∀ i, i ≠ 128 → i ≠ 129 → i ≠ 1294 → i ≠ (xOf top S - 1) % 256 → m1 i = m i) (q0 : m1 128 = (p + 1 + 1) % 256) (q1 : m1 129 = (p + 1 + 1) / 256) (hv : m1 ((xOf top S - 1) % 256) = v) :
    Inv top (p + 2) r (v :: S) (putB top (v :: S) b) m1 := by
  have g := I.ge
  have hl : (v :: S).length = S.length + 1 := rfl
  have ex := x_dn (top := top) hl
  have ox := xOf_oct top S
  have x0 := ox.1; have x1 := ox.2
  have c := clear ht (S := v :: S) (by lia) (by lia) 0 (by lia)
  rw [ex] at c
  have sz : (sizes' ((0, v) :: r) : Int) = sizes' r + 2 := by show ((2 + sizes' r : Nat) : Int) = _; lia
  have hi := I.hi
  have lo := I.lo
  have ov := I.ok (0, v) (.head _)
  have c1 := clear ht (S := S) (by lia) (by lia) 0 (by lia)
  have r0 : m1 (xOf top S) = S.getD 0 0 := by
    rw [same _ (by lia) (by lia) (by lia) (by lia)]
    exact I.read (m' := m) ht (fun _ _ _ _ => rfl) 0 (by lia) (by lia)
  refine I.step (by lia) (by lia) (fun i j h2 hi hj => ?_) (fun i n1 n2 n3 n4 _ => same i n1 n2 n3 (by rw [← ex]; exact n4)) (by rw [ex]; exact hv) ?_ ⟨ov.2.2.1, ov.2.2.2.1⟩ (I.so 0 (by lia)) (by rw [q0]; lia) (by rw [q1]; lia) (by lia) (by lia) (I.tail2 rfl) (Nat.le_refl _) I.oks
  · obtain ⟨i, rfl⟩ : ∃ i', i = i' + 1 := ⟨i - 1, by lia⟩
    rw [cons_getD, show i = j by lia]
  · rw [ex, show ((xOf top S - 1) % 256 + 1) % 256 = xOf top S by lia, r0]; rfl
/-- skip -/
theorem Inv.skip (I : Inv top p ((6, v) :: r) S b m) (ht : okTop3 top) (same : Same m m1) {j : Nat} {p' : Int} (q0 : m1 128 = p' % 256) (q1 : m1 129 = p' / 256) (hp : p' = p + 2 + (sizes' (r.take j) : Int)) : Inv top p' (r.drop j) (S.drop 1) (putB top (S.drop 1) b) m1 := by
  have g := I.ge
  have hl : (S.drop 1).length + 1 = S.length := by rw [List.length_drop]; lia
  have ex := x_up (top := top) hl
  have ox := xOf_oct top S
  have x0 := ox.1; have x1 := ox.2
  have sz : (sizes' ((6, v) :: r) : Int) = sizes' r + 2 := by show ((2 + sizes' r : Nat) : Int) = _; lia
  have st := sizes_take r j
  have hi := I.hi
  have lo := I.lo
  have r1 := I.read (m' := m1) ht same 1 (by lia) (x := (xOf top S + 1) % 256) (by lia)
  have r2 := I.read (m' := m1) ht same 2 (by lia) (x := ((xOf top S + 1) % 256 + 1) % 256) (by lia)
  refine I.step (by lia) (by lia) (fun i j h2 hi hj => ?_) (fun i n1 n2 n3 _ _ => same i n1 n2 n3) (by rw [ex, r1, drop_getD]) (by rw [ex, r2, drop_getD]) (by rw [drop_getD]; exact I.so _ (by lia)) (by rw [drop_getD]; exact I.so _ (by lia)) q0 q1 (by lia) (by lia) (fun i y e => ?_)
    (by rw [List.length_drop]; lia) fun s hs => I.oks s (List.mem_of_mem_drop hs)
  · rw [drop_getD, show 1 + i = j by lia]
  · have e2 : (enc ((6, v) :: r) ++ [255])[i + sizes' (r.take j) + 2]? = some y := by
      show ((enc r) ++ [255])[i + sizes' (r.take j)]? = some y
      have hlen : (enc (r.drop j)).length + sizes' (r.take j) = (enc r).length := by rw [enc_len, enc_len]; lia
      rw [← enc_drop, ← List.drop_append_of_le_length (by lia), List.getElem?_drop] at e
      rw [Nat.add_comm]; exact e
    have := I.os _ y e2
    rw [show p'.toNat + i = p.toNat + (i + sizes' (r.take j) + 2) by lia]
    exact this
end
end Mine
set_option genSizeOf false
set_option genInjectivity false
set_option maxRecDepth 100000
namespace Mine
open PySem PySem.W PySem.Calls PyProof.Rows Builtin

section
variable {top p k v : Int} {r : List St} {S b : List Int} {m : Int → Int} {j : Nat} {P : Q → Prop} {a y : Int} {c z n vv : Bool}
/-- the machine at the head -/
noncomputable def Head (top E : Int) (r : List St) (S b : List Int) (j : Nat) (P : Q → Prop) : Prop := ∀ p m a y c z n v, Inv top p r S b m → p + (sizes' r : Int) = E → R3 j ⟨m, 1280, 255, a, xOf top S, y, c, z, n, v⟩ P
theorem Inv.hip (I : Inv top p ((k, v) :: r) S b m) : p + 1 ≤ 4000 := by
  have hi := I.hi
  have : 1 ≤ size k := by unfold size; split <;> decide
  have : (sizes' ((k, v) :: r) : Int) = ((size k + sizes' r : Nat) : Int) := rfl
  lia
theorem Inv.head (I : Inv top p ((k, v) :: r) S b m) (i : Nat) (hk : k = i) (i7 : i < 7) {l : Int} (hl : ents.getD i 0 = l) (ol : oct? l)
    (K : ∀ m' z' n', Same m m' → Cd m' → m' 128 = (p + 1) % 256 → m' 129 = (p + 1) / 256 → R3 j ⟨m', l + 1280, 255, 241 + 2 * k, xOf top S, 0, c, z', n', vv⟩ P) : R3 (j + 7) ⟨m, 1280, 255, a, xOf top S, y, c, z, n, vv⟩ P := by
  have h := I.hip
  have t := I.fix.tab i i7
  refine I.next (o := 241 + 2 * k) (l := l) (t2 := 1010 + 2 * k) rfl ⟨by lia, by lia⟩ (by lia) (1009 + 2 * i) (by lia) (by lia) (by unfold nxt; lia) (by lia) ⟨by lia, by lia⟩ (by rw [t.1, hl]) ?_ ol fun m' z' n' same q0 q1 _ => K m' z' n' same (I.cd.same fun i h1 h2 => same i (by lia) (by lia) h2) q0 q1
  rw [show (1010 + 2 * k).toNat = 1010 + 2 * i by lia]
  exact t.2
theorem turn_run {E : Int} (ht : okTop3 top) (I : Inv top p ((k, v) :: r) S b m) (hE : p + (sizes' ((k, v) :: r) : Int) = E) (K : Head top E (rest k v S r) (stk k v S) (putB top (stk k v S) b) j P) : R3 (j + 22) ⟨m, 1280, 255, a, xOf top S, y, c, z, n, vv⟩ P := by
  have g := I.ge
  have h := I.hip
  have lo := I.lo
  have hi := I.hi
  have ok := I.ok (k, v) (.head _)
  have ov : oct? v := ⟨ok.2.2.1, ok.2.2.2.1⟩
  have ox := xOf_oct top S
  have x0 := ox.1; have x1 := ox.2
  have o0 := I.so 0 (by lia)
  have o1 := I.so 1 (by lia)
  have hk : k = 0 ∨ k = 1 ∨ k = 2 ∨ k = 3 ∨ k = 4 ∨ k = 5 ∨ k = 6 := by
    have h1 := ok.1; have h2 := ok.2.1
    dsimp only at h1 h2
    lia
  rcases hk with rfl | rfl | rfl | rfl | rfl | rfl | rfl
  · refine (I.head (j := j + 7) 0 rfl (by decide) rfl ⟨by decide, by decide⟩ fun m1 z1 n1 same C q0 q1 => ?_).le (by lia)
    have cc := clear ht (S := v :: S) (by rw [List.length_cons]; lia) (by rw [List.length_cons]; lia) 0 (by lia)
    have ex := x_dn (top := top) (S := S) (S' := v :: S) rfl
    have e0 : (xOf top (v :: S) + ((0 : Nat) : Int)) % 256 = (xOf top S - 1) % 256 := by rw [ex]; lia
    rw [e0] at cc
    have sz : (sizes' ((0, v) :: r) : Int) = sizes' r + 2 := by show ((2 + sizes' r : Nat) : Int) = _; lia
    refine k0_run C q0 q1 (by lia) (by lia) (u := v) ?_ ov cc fun m' a' y' c' z' n' v' same' r0 r1 r2 => ?_
    · exact I.oct same 1 rfl (by lia)
    · rw [← ex]
      exact K (p + 2) m' a' y' c' z' n' v' (I.push ht (fun i h1 h2 h3 h4 => by rw [same' i h1 h2 h4, same i h1 h2 h3]) r0 r1 r2) (by rw [show rest 0 v S r = r from rfl]; lia)
  · refine (I.head (j := j + 6) 1 rfl (by decide) rfl ⟨by decide, by decide⟩ fun m1 z1 n1 same C q0 q1 => ?_).le (by lia)
    refine k1_run C ox (I.read ht same 0 (by lia) (by lia)) (I.read ht same 1 (by lia) (by lia)) o0 o1 fun a' y' c' z' n' v' => ?_
    have ex := x_up (top := top) (S := S) (S' := stk 1 v S) (by show (_ :: S.drop 2).length + 1 = _; rw [List.length_cons, List.length_drop]; lia)
    have := K (p + 1) _ a' y' c' z' n' v' (I.two ht same q0 q1 om rfl) (by have sz : (sizes' ((1, v) :: r) : Int) = ((1 + sizes' r : Nat) : Int) := rfl; rw [show rest 1 v S r = r from rfl]; lia)
    rw [ex] at this
    exact this
  · refine (I.head (j := j + 6) 2 rfl (by decide) rfl ⟨by decide, by decide⟩ fun m1 z1 n1 same C q0 q1 => ?_).le (by lia)
    refine k2_run C ox (I.read ht same 0 (by lia) (by lia)) (I.read ht same 1 (by lia) (by lia)) o0 o1 fun a' y' c' z' n' v' => ?_
    have ex := x_up (top := top) (S := S) (S' := stk 2 v S) (by show (_ :: S.drop 2).length + 1 = _; rw [List.length_cons, List.length_drop]; lia)
    have := K (p + 1) _ a' y' c' z' n' v' (I.two ht same q0 q1 om rfl) (by have sz : (sizes' ((2, v) :: r) : Int) = ((1 + sizes' r : Nat) : Int) := rfl; rw [show rest 2 v S r = r from rfl]; lia)
    rw [ex] at this
    exact this
  · refine (I.head (j := j + 4) 3 rfl (by decide) rfl ⟨by decide, by decide⟩ fun m1 z1 n1 same C q0 q1 => ?_).le (by lia)
    refine k3_run C ox (I.read ht same 0 (by lia) (by lia)) o0 fun a' y' c' z' n' v' => ?_
    have ex := x_dn (top := top) (S := S) (S' := stk 3 v S) rfl
    have := K (p + 1) _ a' y' c' z' n' v' (I.dup ht same q0 q1 rfl) (by have sz : (sizes' ((3, v) :: r) : Int) = ((1 + sizes' r : Nat) : Int) := rfl; rw [show rest 3 v S r = r from rfl]; lia)
    rw [ex] at this
    exact this
  · refine (I.head (j := j + 5) 4 rfl (by decide) rfl ⟨by decide, by decide⟩ fun m1 z1 n1 same C q0 q1 => ?_).le (by lia)
    refine k4_run C ox (I.read ht same 0 (by lia) (by lia)) (I.read ht same 1 (by lia) (by lia)) o0 o1 fun a' y' c' z' n' v' => ?_
    have ex := x_eq (top := top) (S := S) (S' := stk 4 v S) (by show (_ :: _ :: S.drop 2).length = _; rw [List.length_cons, List.length_cons, List.length_drop]; lia)
    have := K (p + 1) _ a' y' c' z' n' v' (I.swap ht same q0 q1 rfl) (by have sz : (sizes' ((4, v) :: r) : Int) = ((1 + sizes' r : Nat) : Int) := rfl; rw [show rest 4 v S r = r from rfl]; lia)
    rw [ex] at this
    exact this
  · refine (I.head (j := j + 5) 5 rfl (by decide) rfl ⟨by decide, by decide⟩ fun m1 z1 n1 same C q0 q1 => ?_).le (by lia)
    refine k5_run C ox (I.read ht same 0 (by lia) (by lia)) (I.read ht same 1 (by lia) (by lia)) o0 o1 fun a' y' c' z' n' v' => ?_
    have ex := x_up (top := top) (S := S) (S' := stk 5 v S) (by show (_ :: S.drop 2).length + 1 = _; rw [List.length_cons, List.length_drop]; lia)
    have ec : bitXor (S.getD 0 0) (S.getD 1 0) = bitXor (S.getD 1 0) (S.getD 0 0) := by rw [bitXor_and, bitXor_and, bitAnd_comm]; lia
    have := K (p + 1) _ a' y' c' z' n' v' (I.two ht same q0 q1 (xor_oct o1 o0) rfl) (by have sz : (sizes' ((5, v) :: r) : Int) = ((1 + sizes' r : Nat) : Int) := rfl; rw [show rest 5 v S r = r from rfl]; lia)
    rw [ex] at this
    rw [ec]
    exact this
  · refine (I.head (j := j + 15) 6 rfl (by decide) rfl ⟨by decide, by decide⟩ fun m1 z1 n1 same C q0 q1 => ?_).le (by lia)
    have sz : (sizes' ((6, v) :: r) : Int) = sizes' r + 2 := by show ((2 + sizes' r : Nat) : Int) = _; lia
    have st := sizes_take r v.toNat
    have c0 := clear ht (S := S) (by lia) (by lia) 0 (by lia)
    have ou : oct? (sizes' (r.take v.toNat) : Int) := ⟨by lia, by
      have b1 : ∀ l : List St, sizes' l ≤ 2 * l.length := by
        intro l
        induction l with
        | nil => decide
        | cons s l ih =>
          have : size s.1 ≤ 2 := by unfold size; split <;> decide
          show size s.1 + sizes' l ≤ 2 * (l.length + 1)
          lia
      have b2 := b1 (r.take v.toNat)
      have b3 := I.sz
      rw [List.length_cons] at b3
      rw [List.length_take] at b2
      lia⟩
    have ex := x_up (top := top) (S := S) (S' := S.drop 1) (by rw [List.length_drop]; lia)
    refine k6_run C q0 q1 (by lia) (by lia) (u := (sizes' (r.take v.toNat) : Int)) (I.oct same 1 rfl (by lia)) ou ox ⟨by lia, by lia⟩ (I.read ht same 0 (by lia) (by lia)) o0 fun m' a' y' c' z' n' v' same' r0 r1 => ?_
    rw [← ex]
    have sm : Same m m' := fun i h1 h2 h3 => by rw [same' i h1 h2, same i h1 h2 h3]
    by_cases e : S.getD 0 0 = 0
    · rw [if_pos e] at r0 r1
      have K' := K (p + 2 + (sizes' (r.take v.toNat) : Int)) m' a' y' c' z' n' v'
      unfold rest at K'
      rw [if_pos ⟨rfl, e⟩] at K'
      exact K' (I.skip ht sm (by rw [r0]; congr 1; lia) (by rw [r1]; congr 1; lia) rfl) (by lia)
    · rw [if_neg e] at r0 r1
      have K' := K (p + 2) m' a' y' c' z' n' v'
      unfold rest at K'
      rw [if_neg fun h => e h.2] at K'
      have := I.skip (j := 0) (p' := p + 2) ht sm (by rw [r0]; congr 1; lia) (by rw [r1]; congr 1; lia) (by simp [sizes'])
      exact K' this (by lia)
/-- the end -/
theorem end_run (I : Inv top p [] S b m) (K : ∀ m' c' z' n' v', Same m m' → m' 128 = (p + 1) % 256 → m' 129 = (p + 1) / 256 → m' 1294 = 255 → P ⟨m', 1388, 255, 255, xOf top S, 0, c', z', n', v'⟩) : R3 (j + 7) ⟨m, 1280, 255, a, xOf top S, y, c, z, n, vv⟩ P := by
  have hi := I.hi
  refine I.next (o := 255) (l := 108) (t2 := 768) rfl ⟨by decide, by decide⟩ (by lia) 1023 rfl (by decide) (by decide) (by decide) ⟨by decide, by decide⟩ I.fix.t1 I.fix.t2 ⟨by decide, by decide⟩ fun m' z' n' same q0 q1 q2 => ?_
  exact Reach.done (K m' _ z' n' _ same q0 q1 q2)
end
end Mine
set_option genSizeOf false
set_option genInjectivity false
set_option maxRecDepth 100000
namespace Mine
open PySem PySem.W PySem.Calls PyProof.Rows Builtin

theorem interp_nil (top : Int) (S b : List Int) : ∀ f, interp top f [] S b = (S, b)
  | 0 => rfl
  | _ + 1 => rfl
theorem rest_len (k v : Int) (S : List Int) (r : List St) : (rest k v S r).length ≤ r.length := by
  unfold rest
  split
  · rw [List.length_drop]; lia
  · exact Nat.le_refl _
structure End (E : Int) (S b : List Int) (top : Int) (q : Q) : Prop where
  pc : q.pc = 1388
  sp : q.sp = 255
  a : q.a = 255
  y : q.y = 0
  x : q.x = xOf top S
  len : b.length = 4096
  mem : ∀ i : Int, 0 ≤ i → i < 4096 → i ≠ 128 → i ≠ 129 → i ≠ 1294 → q.m i = b.getD i.toNat 0
  m0 : q.m 128 = (E + 1) % 256
  m1 : q.m 129 = (E + 1) / 256
  m2 : q.m 1294 = 255
theorem run_all {top E : Int} (ht : okTop3 top) : ∀ (f : Nat) (r : List St) (S b : List Int), r.length ≤ f → Head top E r S b (22 * f + 7) (End E (interp top f r S b).1 (interp top f r S b).2 top)
  | f, [], S, b, _ => fun p m a y c z n v I hE => by
    rw [interp_nil]
    have e : p = E := by have : (sizes' [] : Int) = 0 := rfl; lia
    exact end_run I fun m' c' z' n' v' same q0 q1 q2 => ⟨rfl, rfl, rfl, rfl, rfl, I.fix.len, fun i h0 h1 h2 h3 h4 => (same i h2 h3 h4).trans (I.mem i h0 h1 h2 h3 h4), by rw [← e]; exact q0, by rw [← e]; exact q1, q2⟩
  | 0, _ :: _, _, _, h => absurd h (by simp)
  | f + 1, (k, v) :: r, S, b, h => fun p m a y c z n vv I hE => by
    have h := Nat.le_of_succ_le_succ h
    have := turn_run (j := 22 * f + 7) (a := a) (y := y) (c := c) (z := z) (n := n) (vv := vv) ht I hE (run_all ht f (rest k v S r) (stk k v S) (putB top (stk k v S) b) (Nat.le_trans (rest_len ..) h))
    exact this.le (by lia)
end Mine
set_option genSizeOf false
set_option genInjectivity false
set_option maxRecDepth 100000
namespace Mine
open PySem PySem.W PySem.Calls PyProof.Rows
set_option maxHeartbeats 0
noncomputable def hs3 (e o c b : D) (σ : Cpu) : Hs := ⟨[e, o, .ints σ.m, c, b], some (flds 2 1278 σ)⟩
section
variable (d : Nat) (e o c b : D) (σ : Cpu) (K : KE)
theorem st3_0 : callN PX3 (d + 8) false true "step" [.d .mpu] (hs3 e o c b σ) K = rd σ.m σ.pc fun op => stepR PX3 d (hs3 e o c b σ) op K := by kernel_rfl
theorem st3_177 : stepR PX3 d (hs3 e o c b σ) 177 K = step1 177 1 5 (adv 1 (ldaX indYc)) σ fun σ => K (.d .mpu) (hs3 e o c b σ) := by kernel_rfl
theorem st3_108 : stepR PX3 d (hs3 e o c b σ) 108 K = step1 108 0 5 jmpI σ fun σ => K (.d .mpu) (hs3 e o c b σ) := by kernel_rfl
theorem st3_230 : stepR PX3 d (hs3 e o c b σ) 230 K = step1 230 0 5 (adv 1 (incM zpA)) σ fun σ => K (.d .mpu) (hs3 e o c b σ) := by kernel_rfl
theorem st3_160 : stepR PX3 d (hs3 e o c b σ) 160 K = step1 160 0 2 (adv 1 (ldy immA)) σ fun σ => K (.d .mpu) (hs3 e o c b σ) := by kernel_rfl
theorem st3_162 : stepR PX3 d (hs3 e o c b σ) 162 K = step1 162 0 2 (adv 1 (ldx immA)) σ fun σ => K (.d .mpu) (hs3 e o c b σ) := by kernel_rfl
theorem st3_208 : stepR PX3 d (hs3 e o c b σ) 208 K = step1 208 2 2 (bcl 2) σ fun σ => K (.d .mpu) (hs3 e o c b σ) := by kernel_rfl
theorem st3_144 : stepR PX3 d (hs3 e o c b σ) 144 K = step1 144 2 2 (bcl 1) σ fun σ => K (.d .mpu) (hs3 e o c b σ) := by kernel_rfl
theorem st3_141 : stepR PX3 d (hs3 e o c b σ) 141 K = step1 141 0 4 (adv 2 (sta absA)) σ fun σ => K (.d .mpu) (hs3 e o c b σ) := by kernel_rfl
theorem st3_202 : stepR PX3 d (hs3 e o c b σ) 202 K = step1 202 0 2 dex σ fun σ => K (.d .mpu) (hs3 e o c b σ) := by kernel_rfl
theorem st3_232 : stepR PX3 d (hs3 e o c b σ) 232 K = step1 232 0 2 inx σ fun σ => K (.d .mpu) (hs3 e o c b σ) := by kernel_rfl
theorem st3_168 : stepR PX3 d (hs3 e o c b σ) 168 K = step1 168 0 2 tay σ fun σ => K (.d .mpu) (hs3 e o c b σ) := by kernel_rfl
theorem st3_152 : stepR PX3 d (hs3 e o c b σ) 152 K = step1 152 0 2 tya σ fun σ => K (.d .mpu) (hs3 e o c b σ) := by kernel_rfl
theorem st3_149 : stepR PX3 d (hs3 e o c b σ) 149 K = step1 149 0 4 (adv 1 (sta zpxA)) σ fun σ => K (.d .mpu) (hs3 e o c b σ) := by kernel_rfl
theorem st3_148 : stepR PX3 d (hs3 e o c b σ) 148 K = step1 148 0 4 (adv 1 (sty zpxA)) σ fun σ => K (.d .mpu) (hs3 e o c b σ) := by kernel_rfl
theorem st3_133 : stepR PX3 d (hs3 e o c b σ) 133 K = step1 133 0 3 (adv 1 (sta zpA)) σ fun σ => K (.d .mpu) (hs3 e o c b σ) := by kernel_rfl
theorem st3_181 : stepR PX3 d (hs3 e o c b σ) 181 K = step1 181 0 4 (adv 1 (lda zpxA)) σ fun σ => K (.d .mpu) (hs3 e o c b σ) := by kernel_rfl
theorem st3_180 : stepR PX3 d (hs3 e o c b σ) 180 K = step1 180 0 4 (adv 1 (ldy zpxA)) σ fun σ => K (.d .mpu) (hs3 e o c b σ) := by kernel_rfl
theorem st3_117 : stepR PX3 d (hs3 e o c b σ) 117 K = step1 117 0 4 (adv 1 (adc zpxA)) σ fun σ => K (.d .mpu) (hs3 e o c b σ) := by kernel_rfl
theorem st3_101 : stepR PX3 d (hs3 e o c b σ) 101 K = step1 101 0 3 (adv 1 (adc zpA)) σ fun σ => K (.d .mpu) (hs3 e o c b σ) := by kernel_rfl
theorem st3_245 : stepR PX3 d (hs3 e o c b σ) 245 K = step1 245 0 4 (adv 1 (sbc zpxA)) σ fun σ => K (.d .mpu) (hs3 e o c b σ) := by kernel_rfl
theorem st3_85 : stepR PX3 d (hs3 e o c b σ) 85 K = step1 85 0 4 (adv 1 (eor zpxA)) σ fun σ => K (.d .mpu) (hs3 e o c b σ) := by kernel_rfl
theorem st3_24 : stepR PX3 d (hs3 e o c b σ) 24 K = step1 24 0 2 (clr 1) σ fun σ => K (.d .mpu) (hs3 e o c b σ) := by kernel_rfl
theorem st3_56 : stepR PX3 d (hs3 e o c b σ) 56 K = step1 56 0 2 (set_ 1) σ fun σ => K (.d .mpu) (hs3 e o c b σ) := by kernel_rfl
theorem st3_76 : stepR PX3 d (hs3 e o c b σ) 76 K = step1 76 0 3 jmp σ fun σ => K (.d .mpu) (hs3 e o c b σ) := by kernel_rfl
end
end Mine
set_option genSizeOf false
set_option genInjectivity false
set_option maxRecDepth 100000
namespace Mine
open PySem PySem.W PySem.Calls PyProof.Rows
set_option maxHeartbeats 0
noncomputable def forPart : List Stmt → Option (Expr × Expr × List Stmt)
  | .For t it b _ _ :: _ => some (t, it, b)
  | _ :: r => forPart r
  | [] => none
noncomputable def whilePart : List Stmt → Option (Expr × List Stmt)
  | .While t b _ _ :: _ => some (t, b)
  | _ :: r => whilePart r
  | [] => none
noncomputable def behind (rs : RecS) (r : List Stmt) (K : KS) : KS := fun f loc hs => match f with
  | .next => exL rs r loc hs K
  | .brk => K .brk loc hs
  | .cont => K .cont loc hs
  | .ret v => K (.ret v) loc hs
noncomputable def fnL : Fn := (fnOf PX3 false "law").getD ⟨⟨[], [], none, [], [], none, []⟩, [], default⟩
noncomputable def nsL : Names := fnL.scope.names
noncomputable def evL (n : Nat) : Bool → Expr → Loc → Hs → KE → Prop := fun m e => evE PX3 (callN PX3 n) depthE nsL m e
noncomputable def rsL (n k : Nat) : RecS := evS PX3 nsL false (evL n) k
noncomputable def forP (i : Nat) : Expr × Expr × List Stmt := (forPart (fnL.body.drop i)).getD (.Name "x" default, .Name "x" default, [])
noncomputable def outL (K : KE) : KS := fun f _ hs => retC false 0 (retV f) hs K
noncomputable def locA (xs nums : List Int) (tl : Loc) : Loc := ("script", .d (.arg xs)) :: ("numbers", .d (.ints nums)) :: ("steps", .loc 0) :: tl
theorem l1 (n : Nat) (xs : List Int) (K : KE) : callN PX3 (n + 1) false false nm3 [.d (.arg xs)] ⟨[], none⟩ K =
   (xs.length ≤ lim ∧ (fun nums : List Int => exL (rsL n 12) (fnL.body.drop 2) (locA xs nums []) ⟨[.ints []], none⟩ (outL K)) (cut xs none (some 12))) := by kernel_rfl
/-- a loop's turns -/
noncomputable def turns (n i : Nat) (g : Option (Nat × D)) (K : KS) (is : List D) (loc : Loc) (hs : Hs) : Prop := forL (fun d loc hs k => asg nsL (evL n false) (forP i).1 (.d d) loc hs k) (exL (rsL n 11) (forP i).2.2) g K is loc hs
noncomputable def turnK (n i : Nat) (g : Option (Nat × D)) (K : KS) (r : List D) : KS := fun f loc hs => match f with
  | .next => turns n i g K r loc hs
  | .cont => turns n i g K r loc hs
  | .brk => K .next loc hs
  | .ret v => K (.ret v) loc hs
theorem l2a (n : Nat) (xs nums : List Int) (hs : Hs) (KL : KS) : exL (rsL n 12) (fnL.body.drop 2) (locA xs nums []) hs KL =
   turns n 2 none (behind (rsL n 12) (fnL.body.drop 3) KL) (enumFrom 0 (nums.map .int)) (locA xs nums []) hs := by kernel_rfl
noncomputable def tn (t v w : Int) : Loc := [("turn", .d (.int t)), ("number", .d (.int v)), ("value", .d (.int w))]
noncomputable def app0 (x : D) (hs : Hs) (k : Hs → Prop) : Prop := growV 0 (appendD (hs.hp.getD 0 .none) x) hs k
noncomputable def body2 (n : Nat) (xs nums : List Int) (t v : Int) (hs : Hs) (k : KS) : Prop :=
  ((7 : Int) ≠ 0 ∧ (7 : Int).natAbs < 1073741824) ∧ at' (t - 1) nums.length fun i => (7 : Int) ≠ 0 ∧ (7 : Int) ≠ 0 ∧ br (v.fmod 7 == 6)
    ((4 : Int) ≠ 0 ∧ app0 (.tup [.int (v.fmod 7), .int ((v.fdiv 7 + nums.getD i 0).fmod 4)]) hs fun hs => k .next (locA xs nums (tn t v (v.fdiv 7 + nums.getD i 0))) hs)
    ((256 : Int) ≠ 0 ∧ app0 (.tup [.int (v.fmod 7), .int ((v.fdiv 7 + nums.getD i 0).fmod 256)]) hs fun hs => k .next (locA xs nums (tn t v (v.fdiv 7 + nums.getD i 0))) hs)
theorem l2b (n : Nat) (xs nums : List Int) (t v : Int) (r : List D) (hs : Hs) (K : KS) : turns n 2 none K (.tup [.int t, .int v] :: r) (locA xs nums []) hs = (True ∧ body2 n xs nums t v hs (turnK n 2 none K r)) := by kernel_rfl
theorem l2c (n : Nat) (xs nums : List Int) (t v t₀ v₀ w₀ : Int) (r : List D) (hs : Hs) (K : KS) : turns n 2 none K (.tup [.int t, .int v] :: r) (locA xs nums (tn t₀ v₀ w₀)) hs = (True ∧ body2 n xs nums t v hs (turnK n 2 none K r)) := by kernel_rfl
noncomputable def locB (xs nums : List Int) (t v w : Int) (tl : Loc) : Loc := locA xs nums (("turn", .d (.int t)) :: ("number", .d (.int v)) :: ("value", .d (.int w)) :: ("octets", .loc 1) :: tl)
theorem l3 (n : Nat) (xs nums : List Int) (t v w : Int) (ss : List D) (KL : KS) : exL (rsL n 12) (fnL.body.drop 3) (locA xs nums (tn t v w)) ⟨[.list ss], none⟩ KL =
   turns n 4 (some (0, .list ss)) (behind (rsL n 12) (fnL.body.drop 5) KL) (enumFrom 0 ss) (locB xs nums t v w []) ⟨[.list ss, .ints []], none⟩ := by kernel_rfl
noncomputable def mulc (a b : Int) : Prop := a.natAbs < 2 ^ 62 ∨ b.natAbs < 2 ^ 62
noncomputable def app1 (x : D) (hs : Hs) (k : Hs → Prop) : Prop := growV 1 (appendD (hs.hp.getD 1 .none) x) hs k
noncomputable def ifPart : List Stmt → Option (List Stmt × List Stmt)
  | .If _ a b _ :: _ => some (a, b)
  | _ :: r => ifPart r
  | [] => none
noncomputable def compPart : Expr → Option (Expr × List Comprehension × Scope)
  | .ListComp e g s _ => some (e, g, s)
  | .Call _ [e] _ _ => compPart e
  | _ => none
noncomputable def cmp4 : Expr × List Comprehension × Scope := match ifPart (forP 4).2.2 with
  | some (_, e) => (match ifPart e with
    | some (.Expr c _ :: _, _) => (compPart c).getD (.Name "x" default, [], default)
    | _ => (.Name "x" default, [], default))
  | none => (.Name "x" default, [], default)
noncomputable def gen1 (gs : List Comprehension) : Expr × Expr × List Expr := (genP gs).getD (.Name "x" default, .Name "x" default, [])
/-- the sizes of the steps that are skipped -/
noncomputable def sizes (n : Nat) (K : List D → Hs → Prop) (is : List D) (loc : Loc) (hs : Hs) (acc : List D) : Prop :=
  compL (fun loc e => evE PX3 (callN PX3 n) 37 (compSc nsL cmp4.2.2.names) false e loc) (compSc nsL cmp4.2.2.names) (gen1 cmp4.2.1).1 cmp4.1 (gen1 cmp4.2.1).2.2 none K is loc hs acc
noncomputable def cutD (xs : List D) (lo hi : Int) : List D := cut xs (some lo) (some hi)
noncomputable def body4 (n : Nat) (xs nums : List Int) (t u w k v : Int) (ss : List D) (hs : Hs) (KL : KS) : Prop :=
  ok1 0 2 (mulc 2 k ∧ app1 (.int (241 + 2 * k)) hs fun hs => ok1 0 2 (br (k == 0)
    (ok1 1 2 (app1 (.int v) hs fun hs => KL .next (locB xs nums t u w [("step", .d (.tup [.int k, .int v]))]) hs))
    (ok1 0 2 (br (k == 6) (ok1 1 2 (ss.length ≤ lim ∧ True ∧ (cutD ss (t + 1) (t + 1 + v)).length ≤ lim ∧
        sizes n (fun ds hs => optP (mkList ds).ints? fun is => is.length ≤ lim ∧ app1 (.int is.sum) hs fun hs => KL .next (locB xs nums t u w [("step", .d (.tup [.int k, .int v]))]) hs)
          (cutD ss (t + 1) (t + 1 + v)) (locB xs nums t u w [("step", .d (.tup [.int k, .int v]))]) hs []))
      (KL .next (locB xs nums t u w [("step", .d (.tup [.int k, .int v]))]) hs)))))
theorem l4b (n : Nat) (xs nums : List Int) (t u w t₀ k v : Int) (ss : List D) (r : List D) (os : D) (K : KS) : turns n 4 (some (0, .list ss)) K (.tup [.int t, .tup [.int k, .int v]] :: r) (locB xs nums t₀ u w []) ⟨[.list ss, os], none⟩ =
   (D.list ss = .list ss ∧ body4 n xs nums t u w k v ss ⟨[.list ss, os], none⟩ (turnK n 4 (some (0, .list ss)) K r)) := by kernel_rfl
theorem l4c (n : Nat) (xs nums : List Int) (t u w t₀ k v : Int) (ss : List D) (r : List D) (os sd : D) (K : KS) : turns n 4 (some (0, .list ss)) K (.tup [.int t, .tup [.int k, .int v]] :: r) (locB xs nums t₀ u w [("step", .d sd)]) ⟨[.list ss, os], none⟩ =
   (D.list ss = .list ss ∧ body4 n xs nums t u w k v ss ⟨[.list ss, os], none⟩ (turnK n 4 (some (0, .list ss)) K r)) := by kernel_rfl
noncomputable def lat (xs nums : List Int) (t u w : Int) (sd : D) (tl : Loc) : Loc := dropNames cmp4.2.2.names (locB xs nums t u w [("step", .d sd)]) ++ tl
noncomputable def size1 (k : Int) (f : Int → Prop) : Prop := br (k == 0) (br (k == 0) (f 2) (f 1)) (br (k == 6) (f 2) (f 1))
theorem sz1 (n : Nat) (xs nums : List Int) (t u w k v : Int) (sd : D) (K : List D → Hs → Prop) (r : List D) (hs : Hs) (acc : List D) : sizes (n + 1) K (.tup [.int k, .int v] :: r) (lat xs nums t u w sd []) hs acc =
   (True ∧ ok1 0 2 (size1 k fun z => sizes (n + 1) K r (lat xs nums t u w sd [("later", .d (.tup [.int k, .int v]))]) hs (.int z :: acc))) := by kernel_rfl
theorem sz2 (n : Nat) (xs nums : List Int) (t u w k v : Int) (sd d : D) (K : List D → Hs → Prop) (r : List D) (hs : Hs) (acc : List D) : sizes (n + 1) K (.tup [.int k, .int v] :: r) (lat xs nums t u w sd [("later", .d d)]) hs acc =
   (True ∧ ok1 0 2 (size1 k fun z => sizes (n + 1) K r (lat xs nums t u w sd [("later", .d (.tup [.int k, .int v]))]) hs (.int z :: acc))) := by kernel_rfl
end Mine
set_option genSizeOf false
set_option genInjectivity false
set_option maxRecDepth 100000
namespace Mine
open PySem PySem.W PySem.Calls PyProof.Rows
set_option maxHeartbeats 0
/-! ### the two shapes of what is bound: behind an empty script, and behind another -/
noncomputable def locE (xs nums : List Int) (tl : Loc) : Loc := locA xs nums (("octets", .loc 1) :: tl)
noncomputable def locF (xs nums : List Int) (t v w : Int) (sd : D) (tl : Loc) : Loc := locB xs nums t v w (("step", .d sd) :: tl)
theorem l3e (n : Nat) (xs nums : List Int) (KL : KS) : exL (rsL n 12) (fnL.body.drop 3) (locA xs nums []) ⟨[.ints []], none⟩ KL =
   turns n 4 (some (0, .ints [])) (behind (rsL n 12) (fnL.body.drop 5) KL) [] (locE xs nums []) ⟨[.ints [], .ints []], none⟩ := by kernel_rfl
noncomputable def wrM (m : List Int) (i v : Int) (k : List Int → Prop) : Prop := at' i m.length fun j => k (m.set j v)
noncomputable def divc (b : Int) : Prop := b ≠ 0 ∧ b.natAbs < 1073741824
noncomputable def lowsL : List Int := [250, 255, 240, 0, 248, 254, 100]
noncomputable def topsL : List Int := [0, 1, 2, 255, 254, 3, 5]
noncomputable def nextL : List Int := [160, 0, 177, 128, 230, 128, 208, 2, 230, 129, 141, 14, 5, 108, 0, 3]
noncomputable def bodiesL : List (List Int) := [[177, 128, 230, 128, 208, 2, 230, 129, 202, 149, 0], [24, 181, 0, 117, 1, 232, 149, 0], [56, 181, 1, 245, 0, 232, 149, 0], [181, 0, 202, 149, 0], [181, 0, 180, 1, 149, 1, 148, 0], [181, 0, 85, 1, 232, 149, 0],
  [177, 128, 168, 230, 128, 208, 2, 230, 129, 232, 181, 255, 208, 10, 24, 152, 101, 128, 133, 128, 144, 2, 230, 129]]
noncomputable def m0L : List Int := cut (rep 820 [9, 6, 12, 3, 0]) none (some 4096)
noncomputable def kindsW (k : List Int → List Int → Prop) : List (List Int) → Int → List Int → List Int → Prop
  | [], _, code, m => True ∧ k code m
  | b :: r, i, code, m => True ∧ code.length < 2 ^ 62 ∧ mulc 2 i ∧ wrM m (1009 + 2 * i) (code.length : Nat) fun m => mulc 2 i ∧ wrM m (1010 + 2 * i) 5 fun m => (b ++ [76, 0, 5]).length ≤ lim ∧ (code ++ (b ++ [76, 0, 5])).length ≤ lim ∧ kindsW k r (i + 1) (code ++ (b ++ [76, 0, 5])) m
noncomputable def tlC (base top : Int) (tl : Loc) : Loc := ("base", .d (.int base)) :: ("top", .d (.int top)) :: ("memory", .loc 2) :: ("code", .loc 3) :: ("kind", .d (.int 6)) :: ("body", .d (.ints [177, 128, 168, 230, 128, 208, 2, 230, 129, 232, 181, 255, 208, 10, 24, 152, 101, 128, 133, 128, 144, 2, 230, 129])) :: tl
noncomputable def buildW (nums os : List Int) (k : Int → Int → List Int → List Int → Prop) : Prop :=
  (os ++ [255]).length ≤ lim ∧ nums.length ≤ lim ∧ nums.length < 2 ^ 62 ∧ (7 : Int) ≠ 0 ∧ at' ((nums.sum + (nums.length : Nat)).fmod 7) 7 fun i => nums.length ≤ lim ∧ (7 : Int) ≠ 0 ∧ at' (nums.sum.fmod 7) 7 fun j =>
    (0 ≤ (820 : Int) ∧ (820 : Int) ≤ lim ∧ 5 * (820 : Int).toNat ≤ lim) ∧ (rep 820 [(9 : Int), 6, 12, 3, 0]).length ≤ lim ∧
    (256 : Int) ≠ 0 ∧ divc 256 ∧ wrM m0L 128 ((2048 + lowsL.getD i 0).fmod 256) fun m => wrM m 129 ((2048 + lowsL.getD i 0).fdiv 256) fun m => wrM m 1278 162 fun m => wrM m 1279 (topsL.getD j 0) fun m => 16 ≤ lim ∧
    kindsW (fun code m => code.length < 2 ^ 62 ∧ wrM m 1023 (code.length : Nat) fun m => wrM m 768 5 fun m => wrM m 1024 15 fun m => m.length + 3 ≤ lim ∧ k (2048 + lowsL.getD i 0) (topsL.getD j 0) code (splice m (some 3948) (some 3951) [76, 108, 15])) bodiesL 0 nextL m
theorem l5e (n : Nat) (xs nums os : List Int) (sD : D) (KL : KS) : exL (rsL (n + 1) 12) (fnL.body.drop 5) (locE xs nums []) ⟨[sD, .ints os], none⟩ KL =
   buildW nums os fun base top code m => exL (rsL (n + 1) 12) (fnL.body.drop 15) (locE xs nums (tlC base top [])) ⟨[sD, .ints (os ++ [255]), .ints m, .ints code], none⟩ KL := by kernel_rfl
theorem l5f (n : Nat) (xs nums os : List Int) (t v w : Int) (sd sD : D) (KL : KS) : exL (rsL (n + 1) 12) (fnL.body.drop 5) (locF xs nums t v w sd []) ⟨[sD, .ints os], none⟩ KL =
   buildW nums os fun base top code m => exL (rsL (n + 1) 12) (fnL.body.drop 15) (locF xs nums t v w sd (tlC base top [])) ⟨[sD, .ints (os ++ [255]), .ints m, .ints code], none⟩ KL := by kernel_rfl
end Mine
set_option genSizeOf false
set_option genInjectivity false
set_option maxRecDepth 100000
namespace Mine
open PySem PySem.W PySem.Calls PyProof.Rows
set_option maxHeartbeats 0
noncomputable def hsC (sD : D) (os m code : List Int) : Hs := ⟨[sD, .ints os, .ints m, .ints code], none⟩
noncomputable def tlD (base top i o : Int) (tl : Loc) : Loc := tlC base top (("turn", .d (.int i)) :: ("octet", .d (.int o)) :: tl)
noncomputable def tlF (base top o : Int) (tl : Loc) : Loc := tlC base top (("octet", .d (.int o)) :: tl)
section
variable (n : Nat) (xs nums os m code : List Int) (t v w base top i o t₀ o₀ : Int) (sd sD : D) (r : List D) (K KL : KS)
/-! the code is laid down -/
theorem l15e : exL (rsL n 12) (fnL.body.drop 15) (locE xs nums (tlC base top [])) (hsC sD os m code) KL = turns n 15 (some (3, .ints code)) (behind (rsL n 12) (fnL.body.drop 16) KL) (enumFrom 0 (code.map .int)) (locE xs nums (tlC base top [])) (hsC sD os m code) := by kernel_rfl
theorem l15f : exL (rsL n 12) (fnL.body.drop 15) (locF xs nums t v w sd (tlC base top [])) (hsC sD os m code) KL = turns n 15 (some (3, .ints code)) (behind (rsL n 12) (fnL.body.drop 16) KL) (enumFrom 0 (code.map .int)) (locF xs nums t v w sd (tlC base top [])) (hsC sD os m code) := by kernel_rfl
theorem s15e : turns n 15 (some (3, .ints code)) K (.tup [.int i, .int o] :: r) (locE xs nums (tlC base top [])) (hsC sD os m code) = (D.ints code = .ints code ∧ wrM m (1280 + i) o fun m => turns n 15 (some (3, .ints code)) K r (locE xs nums (tlD base top i o [])) (hsC sD os m code)) := by kernel_rfl
theorem s15e' : turns n 15 (some (3, .ints code)) K (.tup [.int i, .int o] :: r) (locE xs nums (tlD base top t₀ o₀ [])) (hsC sD os m code) = (D.ints code = .ints code ∧ wrM m (1280 + i) o fun m => turns n 15 (some (3, .ints code)) K r (locE xs nums (tlD base top i o [])) (hsC sD os m code)) := by kernel_rfl
theorem s15f : turns n 15 (some (3, .ints code)) K (.tup [.int i, .int o] :: r) (locF xs nums t v w sd (tlC base top [])) (hsC sD os m code) = (D.ints code = .ints code ∧ wrM m (1280 + i) o fun m => turns n 15 (some (3, .ints code)) K r (locF xs nums i v w sd (tlF base top o [])) (hsC sD os m code)) := by kernel_rfl
theorem s15f' : turns n 15 (some (3, .ints code)) K (.tup [.int i, .int o] :: r) (locF xs nums t v w sd (tlF base top o₀ [])) (hsC sD os m code) = (D.ints code = .ints code ∧ wrM m (1280 + i) o fun m => turns n 15 (some (3, .ints code)) K r (locF xs nums i v w sd (tlF base top o [])) (hsC sD os m code)) := by kernel_rfl
/-! the program is laid down -/
theorem l16e : exL (rsL n 12) (fnL.body.drop 16) (locE xs nums (tlD base top i o [])) (hsC sD os m code) KL = turns n 16 (some (1, .ints os)) (behind (rsL n 12) (fnL.body.drop 17) KL) (enumFrom 0 (os.map .int)) (locE xs nums (tlD base top i o [])) (hsC sD os m code) := by kernel_rfl
theorem l16f : exL (rsL n 12) (fnL.body.drop 16) (locF xs nums t v w sd (tlF base top o [])) (hsC sD os m code) KL = turns n 16 (some (1, .ints os)) (behind (rsL n 12) (fnL.body.drop 17) KL) (enumFrom 0 (os.map .int)) (locF xs nums t v w sd (tlF base top o [])) (hsC sD os m code) := by kernel_rfl
theorem s16e : turns n 16 (some (1, .ints os)) K (.tup [.int i, .int o] :: r) (locE xs nums (tlD base top t₀ o₀ [])) (hsC sD os m code) = (D.ints os = .ints os ∧ wrM m (base + i) o fun m => turns n 16 (some (1, .ints os)) K r (locE xs nums (tlD base top i o [])) (hsC sD os m code)) := by kernel_rfl
theorem s16f : turns n 16 (some (1, .ints os)) K (.tup [.int i, .int o] :: r) (locF xs nums t v w sd (tlF base top o₀ [])) (hsC sD os m code) = (D.ints os = .ints os ∧ wrM m (base + i) o fun m => turns n 16 (some (1, .ints os)) K r (locF xs nums i v w sd (tlF base top o [])) (hsC sD os m code)) := by kernel_rfl
/-! the stack that is found -/
noncomputable def cmpS : Expr × List Comprehension × Scope := match fnL.body.drop 17 with
  | .Assign _ e _ :: _ => (compPart e).getD (.Name "x" default, [], default)
  | _ => (.Name "x" default, [], default)
noncomputable def found (n : Nat) (K : List D → Hs → Prop) (is : List D) (loc : Loc) (hs : Hs) (acc : List D) : Prop :=
  compL (fun loc e => evE PX3 (callN PX3 n) 39 (compSc nsL cmpS.2.2.names) false e loc) (compSc nsL cmpS.2.2.names) (gen1 cmpS.2.1).1 cmpS.1 (gen1 cmpS.2.1).2.2 none K is loc hs acc
noncomputable def dropS (l : Loc) : Loc := dropNames cmpS.2.2.names l
noncomputable def spot (i : Int) : Loc := [("spot", .d (.int i))]
noncomputable def rangeD (k : Nat) : List D := (List.range k).map fun (i : Nat) => D.int i
theorem l17e : exL (rsL n 12) (fnL.body.drop 17) (locE xs nums (tlD base top i o [])) (hsC sD os m code) KL = (small 40 ∧ small 40 ∧ (rangeD 40).length ≤ lim ∧
   found n (fun ds hs => exL (rsL n 12) (fnL.body.drop 18) (locE xs nums (tlD base top i o [("stack", .d (mkList ds))])) hs KL) (rangeD 40) (dropS (locE xs nums (tlD base top i o []))) (hsC sD os m code) []) := by kernel_rfl
theorem l17f : exL (rsL n 12) (fnL.body.drop 17) (locF xs nums t v w sd (tlF base top o [])) (hsC sD os m code) KL = (small 40 ∧ small 40 ∧ (rangeD 40).length ≤ lim ∧
   found n (fun ds hs => exL (rsL n 12) (fnL.body.drop 18) (locF xs nums t v w sd (tlF base top o [("stack", .d (mkList ds))])) hs KL) (rangeD 40) (dropS (locF xs nums t v w sd (tlF base top o []))) (hsC sD os m code) []) := by kernel_rfl
variable (KD : List D → Hs → Prop) (acc : List D)
noncomputable def findW (m : List Int) (a : Int) (k : Int → Prop) : Prop := (256 : Int) ≠ 0 ∧ at' (a.fmod 256) m.length fun j => k (m.getD j 0)
theorem s17e : found n KD (.int t :: r) (dropS (locE xs nums (tlD base top i o []))) (hsC sD os m code) acc = (True ∧ findW m (top + t) fun z => found n KD r (dropS (locE xs nums (tlD base top i o [])) ++ spot t) (hsC sD os m code) (.int z :: acc)) := by kernel_rfl
theorem s17e' : found n KD (.int t :: r) (dropS (locE xs nums (tlD base top i o [])) ++ spot t₀) (hsC sD os m code) acc = (True ∧ findW m (top + t) fun z => found n KD r (dropS (locE xs nums (tlD base top i o [])) ++ spot t) (hsC sD os m code) (.int z :: acc)) := by kernel_rfl
theorem s17f : found n KD (.int i :: r) (dropS (locF xs nums t v w sd (tlF base top o []))) (hsC sD os m code) acc = (True ∧ findW m (top + i) fun z => found n KD r (dropS (locF xs nums t v w sd (tlF base top o [])) ++ spot i) (hsC sD os m code) (.int z :: acc)) := by kernel_rfl
theorem s17f' : found n KD (.int i :: r) (dropS (locF xs nums t v w sd (tlF base top o [])) ++ spot t₀) (hsC sD os m code) acc = (True ∧ findW m (top + i) fun z => found n KD r (dropS (locF xs nums t v w sd (tlF base top o [])) ++ spot i) (hsC sD os m code) (.int z :: acc)) := by kernel_rfl
end
end Mine
set_option genSizeOf false
set_option genInjectivity false
set_option maxRecDepth 100000
namespace Mine
open PySem PySem.W PySem.Calls PyProof.Rows
set_option maxHeartbeats 0
noncomputable def hsB (sD : D) (os m code b : List Int) : Hs := ⟨[sD, .ints os, .ints m, .ints code, .ints b], none⟩
noncomputable def tlS (S : List Int) (a : Int) (tl : Loc) : Loc := ("stack", .d (.ints S)) :: ("before", .loc 4) :: ("at", .d (.int a)) :: tl
noncomputable def wp : Expr × List Stmt := (whilePart (fnL.body.drop 20)).getD (.Name "x" default, [])
noncomputable def whileW (n : Nat) (K : KS) (f : Nat) (loc : Loc) (hs : Hs) : Prop := whileN (fun loc hs k => evL n false wp.1 loc hs fun v hs => truthV v hs fun c => k c hs) (exL (rsL n 11) wp.2) K f loc hs
noncomputable def whileK (n : Nat) (K : KS) (f : Nat) : KS := fun g loc hs => match g with
  | .next => whileW n K f loc hs
  | .cont => whileW n K f loc hs
  | .brk => K .next loc hs
  | .ret v => K (.ret v) loc hs
/-- behind the loops: nothing else is bound, or the turns' names -/
noncomputable def fE (xs nums : List Int) (base top i o : Int) (tl : Loc) : Loc := locE xs nums (tlD base top i o tl)
noncomputable def fF (xs nums : List Int) (t v w : Int) (sd : D) (base top o : Int) (tl : Loc) : Loc := locF xs nums t v w sd (tlF base top o tl)
section
variable (n : Nat) (xs nums os m code S b : List Int) (t v w base top i o a k x : Int) (sd sD : D) (ss : List D) (K KL : KS)
theorem l18e : exL (rsL n 12) (fnL.body.drop 18) (fE xs nums base top i o [("stack", .d (.ints S))]) (hsC sD os m code) KL =
   (m.length ≤ lim ∧ ∃ f, whileW n (behind (rsL n 12) (fnL.body.drop 21) KL) f (fE xs nums base top i o (tlS S 0 [])) (hsB sD os m code (cut m none none))) := by kernel_rfl
theorem l18f : exL (rsL n 12) (fnL.body.drop 18) (fF xs nums t v w sd base top o [("stack", .d (.ints S))]) (hsC sD os m code) KL =
   (m.length ≤ lim ∧ ∃ f, whileW n (behind (rsL n 12) (fnL.body.drop 21) KL) f (fF xs nums t v w sd base top o (tlS S 0 [])) (hsB sD os m code (cut m none none))) := by kernel_rfl
theorem w0 (f : Nat) : whileW n K (f + 1) (fE xs nums base top i o (tlS S 0 [])) (hsB (.ints []) os m code b) = ((0 : Nat) < 2 ^ 62 ∧ K .next (fE xs nums base top i o (tlS S 0 [])) (hsB (.ints []) os m code b)) := by kernel_rfl
/-- a turn's parts -/
noncomputable def wtgt : Expr := match wp.2 with
  | .Assign (t :: _) _ _ :: _ => t
  | _ => .Name "x" default
noncomputable def xtgt : Expr := match wp.2.getLast? with
  | some (.Assign (t :: _) _ _) => t
  | _ => .Name "x" default
noncomputable def tlK (base top k o : Int) (tl : Loc) : Loc := ("base", .d (.int base)) :: ("top", .d (.int top)) :: ("memory", .loc 2) :: ("code", .loc 3) :: ("kind", .d (.int k)) :: ("body", .d (.ints [177, 128, 168, 230, 128, 208, 2, 230, 129, 232, 181, 255, 208, 10, 24, 152, 101, 128, 133, 128, 144, 2, 230, 129])) :: ("octet", .d (.int o)) :: tl
noncomputable def fK (xs nums : List Int) (t v w : Int) (sd : D) (base top k o : Int) (tl : Loc) : Loc := locF xs nums t v w sd (tlK base top k o tl)
theorem fK6 (tl : Loc) : fF xs nums t v w sd base top o tl = fK xs nums t v w sd base top 6 o tl := rfl
noncomputable def turnW (n : Nat) (ss : List D) (a : Int) (loc : Loc) (hs : Hs) (k : KS) : Prop := at' a ss.length fun j => asg nsL (evL n false) wtgt (.d (ss.getD j .none)) loc hs fun loc hs => exL (rsL n 11) (wp.2.drop 1) loc hs k
noncomputable def atX (x : Option Int) : Loc := match x with
  | some x => [("x", .d (.int x))]
  | none => []
theorem w1 (f : Nat) : whileW n K (f + 1) (fK xs nums t v w sd base top k o (tlS S a [])) (hsB (.list ss) os m code b) = (ss.length < 2 ^ 62 ∧ br (decide (a < (ss.length : Nat)))
   (turnW n ss a (fK xs nums t v w sd base top k o (tlS S a [])) (hsB (.list ss) os m code b) (whileK n K f)) (K .next (fK xs nums t v w sd base top k o (tlS S a [])) (hsB (.list ss) os m code b))) := by kernel_rfl
theorem w1x (f : Nat) : whileW n K (f + 1) (fK xs nums t v w sd base top k o (tlS S a [("x", .d (.int x))])) (hsB (.list ss) os m code b) = (ss.length < 2 ^ 62 ∧ br (decide (a < (ss.length : Nat)))
   (turnW n ss a (fK xs nums t v w sd base top k o (tlS S a [("x", .d (.int x))])) (hsB (.list ss) os m code b) (whileK n K f)) (K .next (fK xs nums t v w sd base top k o (tlS S a [("x", .d (.int x))])) (hsB (.list ss) os m code b))) := by kernel_rfl
noncomputable def fin (n : Nat) (xs nums : List Int) (t v w : Int) (sd : D) (base top k o : Int) (S : List Int) (a : Int) (hs : Hs) (KL : KS) : Prop :=
  S.length < 2 ^ 62 ∧ (256 : Int) ≠ 0 ∧ S.length ≤ lim ∧ asg nsL (evL n false) xtgt (.d (.ints (cut S none (some 2)))) (fK xs nums t v w sd base top k o (tlS S a [("x", .d (.int ((top + 40 - (S.length : Nat)).fmod 256)))])) hs fun loc hs => KL .next loc hs
noncomputable def two (S : List Int) (f : Int → Int → Int) (k : List Int → Prop) : Prop :=
  at' 1 S.length fun i => at' 0 S.length fun j => (256 : Int) ≠ 0 ∧ S.length ≤ lim ∧ ([(f (S.getD i 0) (S.getD j 0)).fmod 256] ++ cut S (some 2) none).length ≤ lim ∧ k ([(f (S.getD i 0) (S.getD j 0)).fmod 256] ++ cut S (some 2) none)
noncomputable def kindW (S : List Int) (k v a : Int) (f : List Int → Int → Prop) : Prop :=
  br (k == 0) (([v] ++ S).length ≤ lim ∧ f ([v] ++ S) (a + 1)) <| br (k == 1) (two S (· + ·) fun S => f S (a + 1)) <| br (k == 2) (two S (· - ·) fun S => f S (a + 1)) <|
  br (k == 3) (at' 0 S.length fun i => ([S.getD i 0] ++ S).length ≤ lim ∧ f ([S.getD i 0] ++ S) (a + 1)) <|
  br (k == 4) (at' 1 S.length fun i => at' 0 S.length fun j => S.length ≤ lim ∧ ([S.getD i 0, S.getD j 0] ++ cut S (some 2) none).length ≤ lim ∧ f ([S.getD i 0, S.getD j 0] ++ cut S (some 2) none) (a + 1)) <|
  br (k == 5) (at' 1 S.length fun i => at' 0 S.length fun j => S.length ≤ lim ∧ ([Builtin.bitXor (S.getD i 0) (S.getD j 0)] ++ cut S (some 2) none).length ≤ lim ∧ f ([Builtin.bitXor (S.getD i 0) (S.getD j 0)] ++ cut S (some 2) none) (a + 1)) <|
  at' 0 S.length fun i => br (S.getD i 0 == 0) (S.length ≤ lim ∧ f (cut S (some 1) none) (a + 1 + v)) (S.length ≤ lim ∧ f (cut S (some 1) none) (a + 1 + 0))
variable (k₀ v₀ : Int) (hs : Hs)
theorem w2 : asg nsL (evL n false) wtgt (.d (.tup [.int k, .int v])) (fK xs nums t v₀ w sd base top k₀ o (tlS S a [])) (hsB (.list ss) os m code b) (fun loc hs => exL (rsL n 11) (wp.2.drop 1) loc hs KL) =
   kindW S k v a fun S a => fin n xs nums t v₀ v sd base top k o S a (hsB (.list ss) os m code b) KL := by kernel_rfl
theorem w2x : asg nsL (evL n false) wtgt (.d (.tup [.int k, .int v])) (fK xs nums t v₀ w sd base top k₀ o (tlS S a [("x", .d (.int x))])) (hsB (.list ss) os m code b) (fun loc hs => exL (rsL n 11) (wp.2.drop 1) loc hs KL) =
   kindW S k v a fun S a => fin n xs nums t v₀ v sd base top k o S a (hsB (.list ss) os m code b) KL := by kernel_rfl
theorem w3 (p q : Int) (kk : Loc → Hs → Prop) : asg nsL (evL n false) xtgt (.d (.ints [p, q])) (fK xs nums t v w sd base top k o (tlS S a [("x", .d (.int x))])) (hsB sD os m code b) kk =
   at' x b.length fun i => (256 : Int) ≠ 0 ∧ at' ((x + 1).fmod 256) (b.set i p).length fun j => kk (fK xs nums t v w sd base top k o (tlS S a [("x", .d (.int x))])) (hsB sD os m code ((b.set i p).set j q)) := by kernel_rfl
end
end Mine
set_option genSizeOf false
set_option genInjectivity false
set_option maxRecDepth 100000
namespace Mine
open PySem PySem.W PySem.Calls PyProof.Rows
set_option maxHeartbeats 0
noncomputable def shc (a b : Int) : Prop := 0 ≤ b ∧ b ≤ 1000 ∧ a.natAbs < 2 ^ 62
noncomputable def cpu0 (m : List Int) : Cpu := ⟨m, 1278, 255, 0, 0, 0, 48, 0, .d (.bool false), 0⟩
noncomputable def tlM (en : Int) (tl : Loc) : Loc := ("end", .d (.int en)) :: ("mpu", .d .mpu) :: tl
noncomputable def startW (code : List Int) (P : Prop) : Prop := code.length < 2 ^ 62 ∧ shc 1 8 ∧ shc 1 16 ∧ shc 255 8 ∧ shc 1 8 ∧ small 320 ∧ small 320 ∧ P
noncomputable def lastW (σ : Cpu) (S os b : List Int) (base top en : Int) (kf : Prop) (kt : List Int → Prop) : Prop :=
  S.length < 2 ^ 62 ∧ (256 : Int) ≠ 0 ∧ br (!decide ([σ.pc, σ.sp, σ.x, σ.y, σ.a] = [en, 255, (top + 40 - (S.length : Nat)).fmod 256, 0, 255])) kf
    (os.length < 2 ^ 62 ∧ (256 : Int) ≠ 0 ∧ os.length < 2 ^ 62 ∧ divc 256 ∧ wrM b 128 ((base + (os.length : Nat)).fmod 256) fun b => wrM b 129 ((base + (os.length : Nat)).fdiv 256) fun b => wrM b 1294 255 kt)
section
variable (n : Nat) (xs nums os m code S b : List Int) (t v w base top i o a k x en u : Int) (sd sD : D) (σ : Cpu) (r : List D) (K KL : KS) (KK : KE)
theorem l21e : exL (rsL (n + 8) 12) (fnL.body.drop 21) (fE xs nums base top i o (tlS S a [])) (hsB sD os m code b) KL =
   startW code (turns (n + 8) 23 none (behind (rsL (n + 8) 12) (fnL.body.drop 24) KL) (rangeD 320) (fE xs nums base top i o (tlS S a (tlM (1280 + (code.length : Nat)) []))) (hs3 sD (.ints os) (.ints code) (.ints b) (cpu0 m))) := by kernel_rfl
theorem l21f : exL (rsL (n + 8) 12) (fnL.body.drop 21) (fK xs nums t v w sd base top k o (tlS S a [("x", .d (.int x))])) (hsB sD os m code b) KL =
   startW code (turns (n + 8) 23 none (behind (rsL (n + 8) 12) (fnL.body.drop 24) KL) (rangeD 320) (fK xs nums t v w sd base top k o (tlS S a (("x", .d (.int x)) :: tlM (1280 + (code.length : Nat)) []))) (hs3 sD (.ints os) (.ints code) (.ints b) (cpu0 m))) := by kernel_rfl
theorem s23e : turns (n + 8) 23 none K (.int u :: r) (fE xs nums base top i o (tlS S a (tlM en []))) (hs3 sD (.ints os) (.ints code) (.ints b) σ) =
   (True ∧ br (σ.pc == en) (K .next (fE xs nums base top u o (tlS S a (tlM en []))) (hs3 sD (.ints os) (.ints code) (.ints b) σ))
     (callN PX3 (n + 8) false true "step" [.d .mpu] (hs3 sD (.ints os) (.ints code) (.ints b) σ) fun _ hs => turns (n + 8) 23 none K r (fE xs nums base top u o (tlS S a (tlM en []))) hs)) := by kernel_rfl
theorem s23f : turns (n + 8) 23 none K (.int u :: r) (fK xs nums t v w sd base top k o (tlS S a (("x", .d (.int x)) :: tlM en []))) (hs3 sD (.ints os) (.ints code) (.ints b) σ) =
   (True ∧ br (σ.pc == en) (K .next (fK xs nums u v w sd base top k o (tlS S a (("x", .d (.int x)) :: tlM en []))) (hs3 sD (.ints os) (.ints code) (.ints b) σ))
     (callN PX3 (n + 8) false true "step" [.d .mpu] (hs3 sD (.ints os) (.ints code) (.ints b) σ) fun _ hs => turns (n + 8) 23 none K r (fK xs nums u v w sd base top k o (tlS S a (("x", .d (.int x)) :: tlM en []))) hs)) := by kernel_rfl
theorem l24e : behind (rsL n 12) (fnL.body.drop 24) (outL KK) .next (fE xs nums base top i o (tlS S a (tlM en []))) (hs3 sD (.ints os) (.ints code) (.ints b) σ) =
   lastW σ S os b base top en (KK (.d (.bool false)) (hs3 sD (.ints os) (.ints code) (.ints b) σ)) fun b => KK (.d (.bool (decide (σ.m = b)))) (hs3 sD (.ints os) (.ints code) (.ints b) σ) := by kernel_rfl
theorem l24f : behind (rsL n 12) (fnL.body.drop 24) (outL KK) .next (fK xs nums t v w sd base top k o (tlS S a (("x", .d (.int x)) :: tlM en []))) (hs3 sD (.ints os) (.ints code) (.ints b) σ) =
   lastW σ S os b base top en (KK (.d (.bool false)) (hs3 sD (.ints os) (.ints code) (.ints b) σ)) fun b => KK (.d (.bool (decide (σ.m = b)))) (hs3 sD (.ints os) (.ints code) (.ints b) σ) := by kernel_rfl
end
end Mine
set_option genSizeOf false
set_option genInjectivity false
set_option maxRecDepth 100000
namespace Mine
open PySem PySem.W PySem.Calls PyProof.Rows

/-! ## the law's own loops -/
theorem lim_is : lim = 1048576 := rfl
theorem fmod_pos {a b : Int} (h : 0 ≤ b) : a.fmod b = a % b := Int.fmod_eq_emod_of_nonneg _ h
theorem fdiv_pos {a b : Int} (h : 0 ≤ b) : a.fdiv b = a / b := Int.fdiv_eq_ediv_of_nonneg _ h
theorem at_any {i : Int} {n : Nat} {k : Nat → Prop} (h0 : -(n : Int) ≤ i) (h1 : i < n) (hn : n ≤ 65536) (h : ∀ j, j < n → k j) : at' i n k := by
  have e : 0 ≤ idx i n ∧ idx i n < n := by unfold idx; split <;> lia
  exact ⟨⟨by lia, by lia⟩, e.1, e.2, h _ (by lia)⟩
noncomputable def toD (s : St) : D := .tup [.int s.1, .int s.2]
section
variable {n : Nat} {xs nums : List Int} {K : KS}
theorem turns_nil {i : Nat} {loc : Loc} {hs : Hs} {g : Option (Nat × D)} : turns n i g K [] loc hs = (stays g hs ∧ K .next loc hs) := rfl
theorem app0_ok {l : List D} {x : D} {k : Hs → Prop} (hl : l.length ≤ 1000) (h : k ⟨[.list (l ++ [x])], none⟩) : app0 x ⟨[.list l], none⟩ k := by
  have : (l ++ [x]).length ≤ lim := by rw [List.length_append, lim_is]; simp; lia
  cases x <;> exact ⟨this, h⟩
theorem body2_ok {t v : Int} {ps : List St} {k : KS} (h0 : 0 ≤ t) (h1 : t < (nums.length : Nat)) (h12 : nums.length ≤ 12) (hp : ps.length ≤ 100) (h : ∀ s w, okS s → k .next (locA xs nums (tn t v w)) ⟨[.list ((ps ++ [s]).map toD)], none⟩) :
    body2 n xs nums t v ⟨[.list (ps.map toD)], none⟩ k := by
  refine ⟨⟨by decide, by decide⟩, at_any (by lia) (by lia) (by lia) fun j hj => ⟨by decide, by decide, ?_⟩⟩
  have h7 : 0 ≤ v.fmod 7 ∧ v.fmod 7 < 7 := by rw [fmod_pos (by decide)]; lia
  have fin : ∀ u, 0 ≤ u → u < 256 → (v.fmod 7 = 6 → u < 4) → app0 (.tup [.int (v.fmod 7), .int u]) ⟨[.list (ps.map toD)], none⟩ fun hs => k .next (locA xs nums (tn t v (v.fdiv 7 + nums.getD j 0))) hs := fun u u0 u1 u2 => by
    refine app0_ok (by rw [List.length_map]; lia) ?_
    have := h (v.fmod 7, u) (v.fdiv 7 + nums.getD j 0) ⟨h7.1, by dsimp only; lia, u0, u1, u2⟩
    rw [List.map_append] at this
    exact this
  by_cases e : v.fmod 7 = 6
  · have : (v.fmod 7 == 6) = true := by rw [e]; rfl
    rw [this]
    exact brT ⟨by decide, fin _ (by rw [fmod_pos (a := v.fdiv 7 + nums.getD j 0) (by decide)]; lia) (by rw [fmod_pos (a := v.fdiv 7 + nums.getD j 0) (by decide)]; lia) fun _ => by rw [fmod_pos (a := v.fdiv 7 + nums.getD j 0) (by decide)]; lia⟩
  · have : (v.fmod 7 == 6) = false := by simpa using e
    rw [this]
    exact brF ⟨by decide, fin _ (by rw [fmod_pos (a := v.fdiv 7 + nums.getD j 0) (by decide)]; lia) (by rw [fmod_pos (a := v.fdiv 7 + nums.getD j 0) (by decide)]; lia) fun q => absurd q e⟩
theorem loop2 (h12 : nums.length ≤ 12) : ∀ (rs : List Int) (i : Nat) (ps : List St) (t v w : Int), i + rs.length = nums.length → ps.length = i → (∀ s ∈ ps, okS s) →
    (∀ (ps' : List St) (t v w : Int), (∀ s ∈ ps', okS s) → ps'.length = nums.length → K .next (locA xs nums (tn t v w)) ⟨[.list (ps'.map toD)], none⟩) → turns n 2 none K (enumFrom i (rs.map .int)) (locA xs nums (tn t v w)) ⟨[.list (ps.map toD)], none⟩
  | [], i, ps, t, v, w, hi, hp, ok, h => ⟨trivial, h ps t v w ok (by simp at hi; lia)⟩
  | x :: rs, i, ps, t, v, w, hi, hp, ok, h => by
    rw [List.length_cons] at hi
    show turns n 2 none K (.tup [.int i, .int x] :: enumFrom (i + 1) (rs.map .int)) _ _
    rw [l2c]
    refine ⟨trivial, body2_ok (by lia) (by lia) h12 (by lia) fun s w' hs => ?_⟩
    exact loop2 h12 rs (i + 1) (ps ++ [s]) _ _ _ (by lia) (by rw [List.length_append, hp]; rfl) (fun s' h' => (List.mem_append.mp h').elim (ok s') fun h' => by rw [List.mem_singleton.mp h']; exact hs) h
/-- the same from the first item on -/
theorem loop2_first {x : Int} {rs : List Int} (hn : nums = x :: rs) (h12 : nums.length ≤ 12)
    (h : ∀ (ps' : List St) (t v w : Int), (∀ s ∈ ps', okS s) → ps'.length = nums.length → K .next (locA xs nums (tn t v w)) ⟨[.list (ps'.map toD)], none⟩) : turns n 2 none K (enumFrom 0 (nums.map .int)) (locA xs nums []) ⟨[.ints []], none⟩ := by
  have hl : nums.length = rs.length + 1 := by rw [hn]; rfl
  rw [show nums.map D.int = .int x :: rs.map .int by rw [hn]; rfl]
  show turns n 2 none K (.tup [.int (0 : Nat), .int x] :: enumFrom (0 + 1) (rs.map .int)) _ _
  rw [l2b]
  refine ⟨trivial, ?_⟩
  have := body2_ok (n := n) (xs := xs) (nums := nums) (t := (0 : Nat)) (v := x) (ps := []) (k := turnK n 2 none K (enumFrom (0 + 1) (rs.map .int))) (by decide) (by lia) h12 (by decide) fun s w' hs =>
    loop2 (n := n) (xs := xs) (K := K) h12 rs 1 [s] _ _ _ (by lia) rfl (fun s' h' => by rw [List.mem_singleton.mp h']; exact hs) h
  exact this
theorem sizes_ok {t u w : Int} {sd : D} {KD : List D → Hs → Prop} {hs : Hs} : ∀ (l : List St) (acc : List D) (tl : Loc), (tl = [] ∨ ∃ d, tl = ([("later", .d d)] : Loc)) → KD (acc.reverse ++ l.map fun s => .int (size s.1 : Nat)) hs → sizes (n + 1) KD (l.map toD) (lat xs nums t u w sd tl) hs acc
  | [], acc, tl, _, h => ⟨trivial, by simpa using h⟩
  | (k, v) :: l, acc, tl, ht, h => by
    have nxt : ∀ z : Int, z = (size k : Nat) → sizes (n + 1) KD (l.map toD) (lat xs nums t u w sd [("later", .d (.tup [.int k, .int v]))]) hs (.int z :: acc) := fun z hz =>
      sizes_ok l (.int z :: acc) _ (.inr ⟨_, rfl⟩) (by rw [hz, List.reverse_cons, List.append_assoc]; exact h)
    have body : True ∧ ok1 0 2 (size1 k fun z => sizes (n + 1) KD (l.map toD) (lat xs nums t u w sd [("later", .d (.tup [.int k, .int v]))]) hs (.int z :: acc)) := by
      refine ⟨trivial, ok1_ok (by decide) (by decide) (by decide) ?_⟩
      unfold size1
      by_cases h0 : k = 0
      · have e : (k == 0) = true := by rw [h0]; rfl
        rw [e]
        exact brT (brT (nxt 2 (by unfold size; rw [if_pos (.inl h0)]; rfl)))
      · have e : (k == 0) = false := by simpa using h0
        rw [e]
        refine brF ?_
        by_cases h6 : k = 6
        · have e : (k == 6) = true := by rw [h6]; rfl
          rw [e]
          exact brT (nxt 2 (by unfold size; rw [if_pos (.inr h6)]; rfl))
        · have e : (k == 6) = false := by simpa using h6
          rw [e]
          exact brF (nxt 1 (by unfold size; rw [if_neg fun q => q.elim h0 h6]; rfl))
    rcases ht with rfl | ⟨d, rfl⟩
    · exact (sz1 n xs nums t u w k v sd KD (l.map toD) hs acc).mpr body
    · exact (sz2 n xs nums t u w k v sd d KD (l.map toD) hs acc).mpr body
end
end Mine
set_option genSizeOf false
set_option genInjectivity false
set_option maxRecDepth 100000
namespace Mine
open PySem PySem.W PySem.Calls PyProof.Rows

theorem toInts_map : ∀ l : List Int, toInts (l.map .int) = some l
  | [] => rfl
  | x :: l => by
    have ih := toInts_map l
    show (optB (some x) fun i => optB (toInts (l.map .int)) fun l => some (i :: l)) = _
    rw [ih]; rfl
theorem mkList_ints (l : List Int) : mkList (l.map .int) = .ints l := by unfold mkList; rw [toInts_map]
theorem sizes_sum : ∀ l : List St, (l.map fun s => ((size s.1 : Nat) : Int)).sum = (sizes' l : Int)
  | [] => rfl
  | s :: l => by
    have ih := sizes_sum l
    rw [List.map_cons, List.sum_cons, ih]
    show _ = ((size s.1 + sizes' l : Nat) : Int)
    lia
theorem clip_nat {n j : Nat} (h : j ≤ n) : clipAt n (j : Int) = j := by unfold clipAt; rw [if_neg (by lia)]; lia
theorem clip_min {n : Nat} {i : Int} (h : 0 ≤ i) : clipAt n i = min i.toNat n := by unfold clipAt; rw [if_neg (by lia)]; lia
theorem cutD_suf {pre suf : List St} {s : St} {v : Int} (h0 : 0 ≤ v) : cutD ((pre ++ s :: suf).map toD) ((pre.length : Int) + 1) ((pre.length : Int) + 1 + v) = (suf.take v.toNat).map toD := by
  have e1 : clipAt ((pre ++ s :: suf).map toD).length ((pre.length : Int) + 1) = pre.length + 1 := by
    rw [clip_min (by lia), List.length_map, List.length_append, List.length_cons]; lia
  have e2 : clipAt ((pre ++ s :: suf).map toD).length ((pre.length : Int) + 1 + v) = pre.length + 1 + min v.toNat suf.length := by
    rw [clip_min (by lia), List.length_map, List.length_append, List.length_cons]; lia
  unfold cutD cut
  simp only [Option.elim_some]
  rw [e1, e2, List.map_append, List.map_cons, List.drop_append, List.drop_eq_nil_of_le (by rw [List.length_map]; lia), List.length_map]
  have e3 : pre.length + 1 - pre.length = 1 := by lia
  have e4 : pre.length + 1 + min v.toNat suf.length - (pre.length + 1) = min v.toNat suf.length := by lia
  rw [e3, e4]
  show (suf.map toD).take _ = _
  rw [← List.map_take]
  congr 1
  rw [← List.take_eq_take_min]
theorem app1_int {os : List Int} {sD : D} {i : Int} {k : Hs → Prop} (hl : os.length ≤ 1000) (h : k ⟨[sD, .ints (os ++ [i])], none⟩) : app1 (.int i) ⟨[sD, .ints os], none⟩ k :=
  ⟨by show (os ++ [i]).length ≤ lim; rw [List.length_append, lim_is]; simp; lia, h⟩
noncomputable def piece (k v : Int) (r : List St) : List Int := (241 + 2 * k) :: (if k = 0 then [v] else if k = 6 then [(sizes' (r.take v.toNat) : Int)] else [])
theorem enc_piece (k v : Int) (r : List St) : enc ((k, v) :: r) = piece k v r ++ enc r := by
  unfold piece
  show (_ :: (if k = 0 then v :: enc r else if k = 6 then (sizes' (r.take v.toNat) : Int) :: enc r else enc r) : List Int) = _
  by_cases h0 : k = 0
  · rw [if_pos h0, if_pos h0]; rfl
  · by_cases h6 : k = 6
    · rw [if_neg h0, if_pos h6, if_neg h0, if_pos h6]; rfl
    · rw [if_neg h0, if_neg h6, if_neg h0, if_neg h6]; rfl
section
variable {n : Nat} {xs nums : List Int} {K : KS}
theorem body4_ok {u w k v : Int} {pre suf : List St} {os : List Int} {KL : KS} (hl : os.length ≤ 900) (hz : suf.length ≤ 100) (hp : pre.length ≤ 100) (hv : 0 ≤ v)
    (h : KL .next (locB xs nums pre.length u w [("step", .d (toD (k, v)))]) ⟨[.list ((pre ++ (k, v) :: suf).map toD), .ints (os ++ piece k v suf)], none⟩) :
    body4 (n + 1) xs nums pre.length u w k v ((pre ++ (k, v) :: suf).map toD) ⟨[.list ((pre ++ (k, v) :: suf).map toD), .ints os], none⟩ KL := by
  unfold piece at h
  have hlen : ((pre ++ (k, v) :: suf).map toD).length ≤ lim := by rw [List.length_map, List.length_append, List.length_cons, lim_is]; lia
  refine ok1_ok (by decide) (by decide) (by decide) ⟨.inl (by decide), app1_int (by lia) (ok1_ok (by decide) (by decide) (by decide) ?_)⟩
  by_cases h0 : k = 0
  · have e : (k == 0) = true := by rw [h0]; rfl
    rw [e]
    rw [if_pos h0] at h
    refine brT (ok1_ok (by decide) (by decide) (by decide) (app1_int (by rw [List.length_append]; simp; lia) ?_))
    rw [List.append_assoc]; exact h
  · have e : (k == 0) = false := by simpa using h0
    rw [e]
    rw [if_neg h0] at h
    refine brF (ok1_ok (by decide) (by decide) (by decide) ?_)
    by_cases h6 : k = 6
    · have e : (k == 6) = true := by rw [h6]; rfl
      rw [e]
      rw [if_pos h6] at h
      have ec := cutD_suf (pre := pre) (suf := suf) (s := (k, v)) hv
      have hc : (cutD ((pre ++ (k, v) :: suf).map toD) ((pre.length : Int) + 1) ((pre.length : Int) + 1 + v)).length ≤ lim := by rw [ec, List.length_map, List.length_take, lim_is]; lia
      refine brT (ok1_ok (by decide) (by decide) (by decide) ⟨hlen, trivial, hc, ?_⟩)
      rw [ec]
      have em : (([] : List D).reverse ++ (suf.take v.toNat).map fun s => D.int (size s.1 : Nat)) = ((suf.take v.toNat).map fun s => ((size s.1 : Nat) : Int)).map .int := by
        rw [List.map_map]; rfl
      refine sizes_ok (n := n) (xs := xs) (nums := nums) (t := pre.length) (u := u) (w := w) (sd := toD (k, v)) (suf.take v.toNat) [] [] (.inl rfl) ?_
      rw [em, mkList_ints]
      refine ⟨by rw [List.length_map, List.length_take, lim_is]; lia, ?_⟩
      rw [sizes_sum]
      refine app1_int (by rw [List.length_append]; simp; lia) ?_
      rw [List.append_assoc]; exact h
    · have e : (k == 6) = false := by simpa using h6
      rw [e]
      rw [if_neg h6] at h
      exact brF h
end
end Mine
set_option genSizeOf false
set_option genInjectivity false
set_option maxRecDepth 100000
namespace Mine
open PySem PySem.W PySem.Calls PyProof.Rows

section
variable {n : Nat} {xs nums : List Int} {K : KS}
theorem piece_len (k v : Int) (r : List St) : (piece k v r).length ≤ 2 := by
  unfold piece
  rw [List.length_cons]
  by_cases h0 : k = 0
  · rw [if_pos h0]; simp
  · rw [if_neg h0]
    by_cases h6 : k = 6
    · rw [if_pos h6]; simp
    · rw [if_neg h6]; simp
theorem loop4 {ps : List St} (hps : ps.length ≤ 12) (ok : ∀ s ∈ ps, okS s) {u w : Int} : ∀ (suf pre : List St) (os : List Int) (t₀ : Int) (tl : Loc), ps = pre ++ suf → (tl = [] ∧ suf ≠ [] ∨ ∃ d : D, tl = ([("step", .d d)] : Loc)) → os.length ≤ 2 * pre.length →
    (∀ (t : Int) (sd : D), K .next (locF xs nums t u w sd []) ⟨[.list (ps.map toD), .ints (os ++ enc suf)], none⟩) → turns (n + 1) 4 (some (0, .list (ps.map toD))) K (enumFrom pre.length (suf.map toD)) (locB xs nums t₀ u w tl) ⟨[.list (ps.map toD), .ints os], none⟩
  | [], pre, os, t₀, tl, hp, ht, hl, h => by
    rcases ht with ⟨_, h'⟩ | ⟨d, rfl⟩
    · exact absurd rfl h'
    · refine ⟨rfl, ?_⟩
      have := h t₀ d
      rw [show os ++ enc [] = os by exact List.append_nil os] at this
      exact this
  | (k, v) :: suf, pre, os, t₀, tl, hp, ht, hl, h => by
    have hlen : pre.length + suf.length + 1 = ps.length := by rw [hp, List.length_append, List.length_cons]; lia
    have o := ok (k, v) (by rw [hp]; exact List.mem_append_right _ (.head _))
    have body : D.list (ps.map toD) = .list (ps.map toD) ∧ body4 (n + 1) xs nums pre.length u w k v (ps.map toD) ⟨[.list (ps.map toD), .ints os], none⟩ (turnK (n + 1) 4 (some (0, .list (ps.map toD))) K (enumFrom (pre.length + 1) (suf.map toD))) := by
      refine ⟨rfl, ?_⟩
      have pl := piece_len k v suf
      have := loop4 hps ok (u := u) (w := w) suf (pre ++ [(k, v)]) (os ++ piece k v suf) pre.length [("step", .d (toD (k, v)))] (by rw [hp, List.append_assoc]; rfl) (.inr ⟨_, rfl⟩) (by rw [List.length_append, List.length_append]; simp; lia)
        fun t sd => by rw [List.append_assoc, ← enc_piece]; exact h t sd
      rw [List.length_append] at this
      subst hp
      exact body4_ok (by lia) (by lia) (by lia) o.2.2.1 this
    show turns (n + 1) 4 (some (0, .list (ps.map toD))) K (.tup [.int pre.length, .tup [.int k, .int v]] :: enumFrom (pre.length + 1) (suf.map toD)) _ _
    rcases ht with ⟨rfl, _⟩ | ⟨d, rfl⟩
    · exact (l4b (n + 1) xs nums pre.length u w t₀ k v (ps.map toD) (enumFrom (pre.length + 1) (suf.map toD)) (.ints os) K).mpr body
    · exact (l4c (n + 1) xs nums pre.length u w t₀ k v (ps.map toD) (enumFrom (pre.length + 1) (suf.map toD)) (.ints os) d K).mpr body
end

/-! ### the memory, told by its octets -/
structure IsM (m : List Int) (f : Nat → Int) : Prop where
  len : m.length = 4096
  get : ∀ j, j < 4096 → m.getD j 0 = f j
noncomputable def updN (f : Nat → Int) (i : Nat) (v : Int) : Nat → Int := fun j => if j = i then v else f j
theorem IsM.set {m : List Int} {f : Nat → Int} (I : IsM m f) {i : Nat} (hi : i < 4096) (v : Int) : IsM (m.set i v) (updN f i v) :=
  ⟨by rw [List.length_set]; exact I.len, fun j hj => by
    rw [getD_set (by rw [I.len]; exact hi)]
    unfold updN
    by_cases q : j = i
    · rw [if_pos q, if_pos q]
    · rw [if_neg q, if_neg q]; exact I.get j hj⟩
theorem wrM_ok {m : List Int} {f : Nat → Int} (I : IsM m f) {i v : Int} (i0 : 0 ≤ i) (i1 : i < 4096) {k : List Int → Prop} (h : ∀ m', IsM m' (updN f i.toNat v) → k m') : wrM m i v k :=
  at_ok i0 (by rw [I.len]; exact i1) (by rw [I.len]; decide) (h _ (I.set (by lia) v))
theorem splice_ok {m : List Int} {f : Nat → Int} (I : IsM m f) : IsM (splice m (some 3948) (some 3951) [76, 108, 15]) (updN (updN (updN f 3948 76) 3949 108) 3950 15) := by
  have e : splice m (some 3948) (some 3951) [76, 108, 15] = ((m.set 3948 76).set 3949 108).set 3950 15 := by
    unfold splice
    have l := I.len
    simp only [Option.elim_some]
    have c1 : clipAt m.length 3948 = 3948 := by rw [clip_min (by decide), l]; rfl
    have c2 : clipAt m.length 3951 = 3951 := by rw [clip_min (by decide), l]; rfl
    rw [c1, c2]
    apply List.ext_getElem?
    intro j
    simp only [List.getElem?_append, List.getElem?_set, List.getElem?_drop, List.getElem?_take, List.length_append, List.length_take, List.length_cons, List.length_nil, List.length_set, l]
    by_cases h1 : j < 3948
    · have : j < min 3948 4096 + (0 + 1 + 1 + 1) := by lia
      have : j < min 3948 4096 := by lia
      simp [*]
      have : ¬ 3950 = j := by lia
      have : ¬ 3949 = j := by lia
      have : ¬ 3948 = j := by lia
      simp [*]
      intro q
      exact absurd q (by lia)
    · by_cases h2 : j = 3948
      · subst h2; rfl
      · by_cases h3 : j = 3949
        · subst h3; rfl
        · by_cases h4 : j = 3950
          · subst h4; rfl
          · have : ¬ j < min 3948 4096 + (0 + 1 + 1 + 1) := by lia
            rw [if_neg this]
            have : ¬ 3950 = j := by lia
            have : ¬ 3949 = j := by lia
            have : ¬ 3948 = j := by lia
            simp [*]
            congr 1
            lia
  rw [e]
  exact ((I.set (by decide) 76).set (by decide) 108).set (by decide) 15
end Mine
set_option genSizeOf false
set_option genInjectivity false
set_option maxRecDepth 100000
namespace Mine
open PySem PySem.W PySem.Calls PyProof.Rows

theorem rep_length (n : Int) (l : List Int) : (rep n l).length = n.toNat * l.length := by
  unfold rep
  rw [List.length_flatten, List.map_replicate, List.sum_replicate_nat]
theorem rep_mem {n : Int} {l : List Int} {x : Int} (h : x ∈ rep n l) : x ∈ l := by
  unfold rep at h
  obtain ⟨l', h1, h2⟩ := List.mem_flatten.mp h
  rw [(List.mem_replicate.mp h1).2] at h2
  exact h2
theorem m0_eq : m0L = (rep 820 [9, 6, 12, 3, 0]).take 4096 := by
  unfold m0L cut
  simp only [Option.elim_none, Option.elim_some, List.drop_zero, Nat.sub_zero]
  rw [clip_min (by decide), rep_length]
  rfl
theorem m0_len : m0L.length = 4096 := by rw [m0_eq, List.length_take, rep_length]; rfl
noncomputable def f0 : Nat → Int := fun j => m0L.getD j 0
theorem m0_is : IsM m0L f0 := ⟨m0_len, fun _ _ => rfl⟩
theorem f0_oct (j : Nat) : oct? (f0 j) := by
  unfold f0
  by_cases h : j < m0L.length
  · have hm : m0L.getD j 0 ∈ m0L := by rw [List.getD_eq_getElem?_getD, List.getElem?_eq_getElem h]; exact List.getElem_mem h
    have h2 : m0L.getD j 0 ∈ [(9 : Int), 6, 12, 3, 0] := rep_mem (List.mem_of_mem_take (m0_eq ▸ hm))
    simp only [List.mem_cons, List.not_mem_nil, or_false] at h2
    rcases h2 with e | e | e | e | e <;> rw [e] <;> exact ⟨by decide, by decide⟩
  · rw [List.getD_eq_getElem?_getD, List.getElem?_eq_none (by lia)]
    exact ⟨by decide, by decide⟩
/-- the memory as it is built, without the code and the program -/
noncomputable def fB (base top : Int) : Nat → Int :=
  updN (updN (updN (updN (updN (updN (updN (updN (updN (updN (updN (updN (updN (updN (updN (updN (updN (updN (updN (updN (updN (updN (updN (updN f0 128 (base.fmod 256)) 129 (base.fdiv 256)) 1278 162) 1279 top) 1009 16) 1010 5) 1011 30) 1012 5) 1013 41) 1014 5) 1015 52) 1016 5) 1017 60) 1018 5) 1019 71) 1020 5) 1021 81) 1022 5)
    1023 108) 768 5) 1024 15) 3948 76) 3949 108) 3950 15
theorem len_lim {l : List Int} (h : l.length ≤ 1000) : l.length ≤ lim := by rw [lim_is]; lia
theorem build_ok {nums os : List Int} {k : Int → Int → List Int → List Int → Prop} (hn : nums.length ≤ 12) (ho : os.length ≤ 100)
    (h : ∀ i j m, i < 7 → j < 7 → IsM m (fB (2048 + lowsL.getD i 0) (topsL.getD j 0)) → k (2048 + lowsL.getD i 0) (topsL.getD j 0) codeL m) : buildW nums os k := by
  have m7 : ∀ x : Int, 0 ≤ x.fmod 7 ∧ x.fmod 7 < 7 := fun x => by rw [fmod_pos (by decide)]; lia
  have a := m7 (nums.sum + (nums.length : Nat))
  have b := m7 nums.sum
  refine ⟨len_lim (by rw [List.length_append]; simp; lia), len_lim (by lia), by lia, by decide, at_any (by lia) (by lia) (by decide) fun i hi => ⟨len_lim (by lia), by decide, at_any (by lia) (by lia) (by decide) fun j hj => ?_⟩⟩
  refine ⟨⟨by decide, by decide, by decide⟩, by rw [rep_length]; decide, by decide, ⟨by decide, by decide⟩, ?_⟩
  refine wrM_ok m0_is (by decide) (by decide) fun m1 I1 => wrM_ok I1 (by decide) (by decide) fun m2 I2 => wrM_ok I2 (by decide) (by decide) fun m3 I3 => wrM_ok I3 (by decide) (by decide) fun m4 I4 => ⟨by decide, ?_⟩
  refine ⟨trivial, by decide, .inl (by decide), wrM_ok I4 (by decide) (by decide) fun m5 I5 => ⟨.inl (by decide), wrM_ok I5 (by decide) (by decide) fun m6 I6 => ⟨by decide, by decide, ?_⟩⟩⟩
  refine ⟨trivial, by decide, .inl (by decide), wrM_ok I6 (by decide) (by decide) fun m7 I7 => ⟨.inl (by decide), wrM_ok I7 (by decide) (by decide) fun m8 I8 => ⟨by decide, by decide, ?_⟩⟩⟩
  refine ⟨trivial, by decide, .inl (by decide), wrM_ok I8 (by decide) (by decide) fun m9 I9 => ⟨.inl (by decide), wrM_ok I9 (by decide) (by decide) fun m10 I10 => ⟨by decide, by decide, ?_⟩⟩⟩
  refine ⟨trivial, by decide, .inl (by decide), wrM_ok I10 (by decide) (by decide) fun m11 I11 => ⟨.inl (by decide), wrM_ok I11 (by decide) (by decide) fun m12 I12 => ⟨by decide, by decide, ?_⟩⟩⟩
  refine ⟨trivial, by decide, .inl (by decide), wrM_ok I12 (by decide) (by decide) fun m13 I13 => ⟨.inl (by decide), wrM_ok I13 (by decide) (by decide) fun m14 I14 => ⟨by decide, by decide, ?_⟩⟩⟩
  refine ⟨trivial, by decide, .inl (by decide), wrM_ok I14 (by decide) (by decide) fun m15 I15 => ⟨.inl (by decide), wrM_ok I15 (by decide) (by decide) fun m16 I16 => ⟨by decide, by decide, ?_⟩⟩⟩
  refine ⟨trivial, by decide, .inl (by decide), wrM_ok I16 (by decide) (by decide) fun m17 I17 => ⟨.inl (by decide), wrM_ok I17 (by decide) (by decide) fun m18 I18 => ⟨by decide, by decide, ?_⟩⟩⟩
  refine ⟨trivial, by decide, wrM_ok I18 (by decide) (by decide) fun m19 I19 => wrM_ok I19 (by decide) (by decide) fun m20 I20 => wrM_ok I20 (by decide) (by decide) fun m21 I21 => ⟨?_, ?_⟩⟩
  · rw [I21.len]; decide
  · exact h i j _ hi hj (splice_ok I21)
end Mine
set_option genSizeOf false
set_option genInjectivity false
set_option maxRecDepth 100000
namespace Mine
open PySem PySem.W PySem.Calls PyProof.Rows

noncomputable def laid (f : Nat → Int) (a : Nat) (l : List Int) : Nat → Int := fun j => if a ≤ j ∧ j < a + l.length then l.getD (j - a) 0 else f j
theorem laid_nil (f : Nat → Int) (a : Nat) : laid f a [] = f := by
  funext j
  unfold laid
  rw [if_neg (by simp)]
theorem laid_snoc (f : Nat → Int) (a : Nat) (l : List Int) (x : Int) : updN (laid f a l) (a + l.length) x = laid f a (l ++ [x]) := by
  funext j
  unfold updN laid
  rw [List.length_append]
  by_cases h : j = a + l.length
  · subst h
    rw [if_pos rfl, if_pos (by simp), List.getD_eq_getElem?_getD, List.getElem?_append_right (by lia)]
    simp
  · rw [if_neg h]
    by_cases h1 : a ≤ j ∧ j < a + l.length
    · rw [if_pos h1, if_pos (by simp; lia), List.getD_eq_getElem?_getD, List.getD_eq_getElem?_getD, List.getElem?_append_left (by lia)]
    · rw [if_neg h1, if_neg (by simp; lia)]
section
variable {n c : Nat} {g : Option (Nat × D)} {K : KS} {sD : D} {os code : List Int} {f : Nat → Int}
theorem lay_all {A : Prop} {base : Int} {a : Nat} (ea : base = (a : Int)) (L : Int → Int → Loc) (hA : A) (hst : ∀ m, stays g (hsC sD os m code))
    (step : ∀ (m : List Int) (i o t₀ o₀ : Int) (r : List D), turns n c g K (.tup [.int i, .int o] :: r) (L t₀ o₀) (hsC sD os m code) = (A ∧ wrM m (base + i) o fun m => turns n c g K r (L i o) (hsC sD os m code))) :
    ∀ (suf pre : List Int) (t o : Int) (m : List Int), IsM m (laid f a pre) → a + pre.length + suf.length ≤ 4096 → (∀ t o m, IsM m (laid f a (pre ++ suf)) → K .next (L t o) (hsC sD os m code)) → turns n c g K (enumFrom pre.length (suf.map .int)) (L t o) (hsC sD os m code)
  | [], pre, t, o, m, I, hl, h => ⟨hst m, h t o m (by rw [List.append_nil]; exact I)⟩
  | x :: suf, pre, t, o, m, I, hl, h => by
    rw [List.length_cons] at hl
    show turns n c g K (.tup [.int pre.length, .int x] :: enumFrom (pre.length + 1) (suf.map .int)) _ _
    rw [step]
    refine ⟨hA, wrM_ok I (by lia) (by lia) fun m' I' => ?_⟩
    have e : (base + (pre.length : Int)).toNat = a + pre.length := by lia
    rw [e, laid_snoc] at I'
    have := lay_all ea L hA hst step suf (pre ++ [x]) pre.length x m' I' (by rw [List.length_append]; simp; lia) (by rw [List.append_assoc]; exact h)
    rw [List.length_append] at this
    exact this
variable {KD : List D → Hs → Prop} {m : List Int} {top : Int}
theorem found_all (hm : m.length = 4096) (H : Hs) (L : Option Int → Loc) (step : ∀ (o : Option Int) (t : Int) (r acc : List D), found n KD (.int t :: r) (L o) H acc = (True ∧ findW m (top + t) fun z => found n KD r (L (some t)) H (.int z :: acc))) :
    ∀ (k s : Nat) (o : Option Int) (acc : List D), KD (acc.reverse ++ (List.range' s k).map fun (i : Nat) => .int (m.getD ((top + (i : Int)) % 256).toNat 0)) H → found n KD ((List.range' s k).map fun (i : Nat) => D.int i) (L o) H acc
  | 0, s, o, acc, h => ⟨trivial, by simpa using h⟩
  | k + 1, s, o, acc, h => by
    rw [List.range'_succ, List.map_cons]
    rw [step]
    refine ⟨trivial, by decide, ?_⟩
    rw [fmod_pos (by decide)]
    refine at_ok (by lia) (by rw [hm]; lia) (by rw [hm]; decide) ?_
    refine found_all hm H L step k (s + 1) _ _ ?_
    rw [List.range'_succ, List.map_cons] at h
    rw [List.reverse_cons, List.append_assoc]
    exact h
theorem range_eq (k : Nat) : rangeD k = (List.range' 0 k).map fun (i : Nat) => D.int i := by unfold rangeD; rw [List.range_eq_range']
end
end Mine
set_option genSizeOf false
set_option genInjectivity false
set_option maxRecDepth 100000
namespace Mine
open PySem PySem.W PySem.Calls PyProof.Rows

theorem cut_from {S : List Int} {d : Nat} (h : d ≤ S.length) : cut S (some (d : Nat)) none = S.drop d := by
  unfold cut
  simp only [Option.elim_some, Option.elim_none]
  rw [clip_nat h, List.take_of_length_le (by rw [List.length_drop]; lia)]
theorem cut_two : ∀ {S : List Int}, 2 ≤ S.length → cut S none (some 2) = [S.getD 0 0, S.getD 1 0]
  | a :: b :: S, _ => by
    unfold cut
    simp only [Option.elim_some, Option.elim_none, List.drop_zero, Nat.sub_zero]
    rw [clip_min (by decide)]
    have : min (2 : Int).toNat (a :: b :: S).length = 2 := by simp
    rw [this]; rfl
  | [], h => absurd h (by decide)
  | [_], h => absurd h (by simp)
section
variable {n : Nat} {xs nums os m code S b : List Int} {t v w base top o a k x : Int} {sd : D} {K KL : KS} {ss : List D} {F : List Int → Int → Prop}
theorem kind_ok (hv : okS (k, v)) (h2 : 2 ≤ S.length) (h9 : S.length ≤ 1000) (h : F (stk k v S) (a + 1 + if k = 6 ∧ S.getD 0 0 = 0 then v else 0)) : kindW S k v a F := by
  have e2 : cut S (some 2) none = S.drop 2 := cut_from (d := 2) h2
  have e1 : cut S (some 1) none = S.drop 1 := cut_from (d := 1) (by lia)
  have l0 : ∀ {P : Nat → Prop}, P 0 → at' 0 S.length P := fun hp => at_ok (by decide) (by lia) (by lia) hp
  have l1 : ∀ {P : Nat → Prop}, P 1 → at' 1 S.length P := fun hp => at_ok (by decide) (by lia) (by lia) hp
  have hl : S.length ≤ lim := len_lim h9
  have hk : k = 0 ∨ k = 1 ∨ k = 2 ∨ k = 3 ∨ k = 4 ∨ k = 5 ∨ k = 6 := by
    have h1 := hv.1; have h2 := hv.2.1
    dsimp only at h1 h2
    lia
  have ld : (S.drop 2).length ≤ 1000 := by rw [List.length_drop]; lia
  unfold kindW two
  rw [e2, e1]
  rcases hk with rfl | rfl | rfl | rfl | rfl | rfl | rfl
  · rw [if_neg (by simp), Int.add_zero] at h
    exact brT ⟨by rw [lim_is]; simp; lia, h⟩
  · rw [if_neg (by simp), Int.add_zero] at h
    refine brF (brT (l1 (l0 ⟨by decide, hl, by rw [lim_is]; simp; lia, ?_⟩)))
    rw [fmod_pos (by decide)]
    exact h
  · rw [if_neg (by simp), Int.add_zero] at h
    refine brF (brF (brT (l1 (l0 ⟨by decide, hl, by rw [lim_is]; simp; lia, ?_⟩))))
    rw [fmod_pos (by decide)]
    exact h
  · rw [if_neg (by simp), Int.add_zero] at h
    exact brF (brF (brF (brT (l0 ⟨by rw [lim_is]; simp; lia, h⟩))))
  · rw [if_neg (by simp), Int.add_zero] at h
    exact brF (brF (brF (brF (brT (l1 (l0 ⟨hl, by rw [lim_is]; simp; lia, h⟩))))))
  · rw [if_neg (by simp), Int.add_zero] at h
    exact brF (brF (brF (brF (brF (brT (l1 (l0 ⟨hl, by rw [lim_is]; simp; lia, h⟩)))))))
  · refine brF (brF (brF (brF (brF (brF (l0 ?_))))))
    by_cases e : S.getD 0 0 = 0
    · rw [if_pos ⟨rfl, e⟩] at h
      rw [eq0T e]
      exact brT ⟨hl, h⟩
    · rw [if_neg fun q => e q.2] at h
      rw [eq0F e]
      exact brF ⟨hl, h⟩
theorem fin_ok {S : List Int} {a : Int} (hb : b.length = 4096) (h2 : 2 ≤ S.length) (h9 : S.length ≤ 1000) (h : KL .next (fK xs nums t v w sd base top k o (tlS S a [("x", .d (.int (xOf top S)))])) (hsB (.list ss) os m code (putB top S b))) :
    fin n xs nums t v w sd base top k o S a (hsB (.list ss) os m code b) KL := by
  have ox := xOf_oct top S
  have x0 := ox.1; have x1 := ox.2
  refine ⟨by lia, by decide, len_lim h9, ?_⟩
  rw [cut_two h2, w3, fmod_pos (by decide)]
  show at' (xOf top S) b.length _
  refine at_ok x0 (by lia) (by lia) ⟨by decide, ?_⟩
  rw [fmod_pos (by decide)]
  exact at_ok (by lia) (by rw [List.length_set]; lia) (by rw [List.length_set]; lia) h
end
section
variable {n : Nat} {xs nums os m code : List Int} {t v base top o : Int} {sd : D} {K : KS} {ps : List St}
theorem stk_len {k v : Int} {S : List Int} (h : 2 ≤ S.length) : (stk k v S).length ≤ S.length + 1 ∧ S.length ≤ (stk k v S).length + 1 := by
  have hd : (S.drop 2).length + 2 = S.length := by rw [List.length_drop]; lia
  have hd1 : (S.drop 1).length + 1 = S.length := by rw [List.length_drop]; lia
  unfold stk
  repeat' split
  all_goals first | (simp only [List.length_cons]; lia) | lia
theorem while_all (ok : ∀ s ∈ ps, okS s) (hps : ps.length ≤ 12) : ∀ (f : Nat) (r : List St) (a : Nat) (S b : List Int) (k w : Int) (tl : Loc), ps.drop a = r → a ≤ 100 → r.length ≤ f → b.length = 4096 → 28 + r.length ≤ S.length → S.length + r.length ≤ 52 → (tl = [] ∧ r ≠ [] ∨ tl = ([("x", .d (.int (xOf top S)))] : Loc)) →
    (∀ (a' k' w' : Int), K .next (fK xs nums t v w' sd base top k' o (tlS (interp top f r S b).1 a' [("x", .d (.int (xOf top (interp top f r S b).1)))])) (hsB (.list (ps.map toD)) os m code (interp top f r S b).2)) →
    whileW n K (f + 1) (fK xs nums t v w sd base top k o (tlS S a tl)) (hsB (.list (ps.map toD)) os m code b)
  | f, [], a, S, b, k, w, tl, hr, ha, hf, hb, l0, l1, ht, h => by
    rw [interp_nil] at h
    rcases ht with ⟨_, h'⟩ | rfl
    · exact absurd rfl h'
    · have hl : ps.length ≤ a := List.drop_eq_nil_iff.mp hr
      rw [w1x]
      refine ⟨by rw [List.length_map]; lia, ?_⟩
      rw [decide_eq_false (by rw [List.length_map]; lia)]
      exact brF (h a k w)
  | 0, _ :: _, _, _, _, _, _, _, _, _, hf, _, _, _, _, _ => absurd hf (by simp)
  | f + 1, (k', v') :: r, a, S, b, k, w, tl, hr, ha, hf, hb, l0, l1, ht, h => by
    rw [List.length_cons] at l0 l1 hf
    have hlt : a < ps.length := by
      by_cases q : a < ps.length
      · exact q
      · rw [List.drop_eq_nil_of_le (by lia)] at hr; exact nomatch hr
    have hg : ps[a]? = some (k', v') := by
      have := List.getElem?_drop (xs := ps) (i := a) (j := 0)
      rw [hr] at this
      exact this.symm
    have hd : ps.drop (a + 1) = r := by
      rw [← List.drop_drop, hr]; rfl
    have ho := ok (k', v') (List.mem_of_getElem? hg)
    have e : (ps.map toD).getD a .none = .tup [.int k', .int v'] := by
      rw [List.getD_eq_getElem?_getD, List.getElem?_map, hg]; rfl
    have sl := stk_len (k := k') (v := v') (S := S) (by lia)
    have rl := rest_len k' v' S r
    have cont : ∀ w₀ : Int, kindW S k' v' a fun S' a' => fin n xs nums t v v' sd base top k' o S' a' (hsB (.list (ps.map toD)) os m code b) (whileK n K (f + 1)) := fun _ => by
      refine kind_ok ho (by lia) (by lia) (fin_ok hb (by lia) (by lia) ?_)
      have v0 := ho.2.2.1
      have v6 := ho.2.2.2.2
      dsimp only at v0 v6
      have := while_all ok hps f (rest k' v' S r) (a + 1 + if k' = 6 ∧ S.getD 0 0 = 0 then v'.toNat else 0) (stk k' v' S) (putB top (stk k' v' S) b) k' v' [("x", .d (.int (xOf top (stk k' v' S))))] (by
          unfold rest
          by_cases q : k' = 6 ∧ S.getD 0 0 = 0
          · rw [if_pos q, if_pos q, ← List.drop_drop, hd]
          · rw [if_neg q, if_neg q]; exact hd) (by
          by_cases q : k' = 6 ∧ S.getD 0 0 = 0
          · rw [if_pos q]; have := v6 q.1; lia
          · rw [if_neg q]; lia) (by lia) (putB_len.trans hb) (by lia) (by lia) (.inr rfl) h
      have ea : (((a + 1 + if k' = 6 ∧ S.getD 0 0 = 0 then v'.toNat else 0 : Nat)) : Int) = (a : Int) + 1 + if k' = 6 ∧ S.getD 0 0 = 0 then v' else 0 := by
        by_cases q : k' = 6 ∧ S.getD 0 0 = 0
        · rw [if_pos q, if_pos q]; lia
        · rw [if_neg q, if_neg q]; lia
      rw [ea] at this
      exact this
    have hlen : (ps.map toD).length < 2 ^ 62 := by rw [List.length_map]; lia
    rcases ht with ⟨rfl, _⟩ | rfl
    · rw [w1]
      refine ⟨hlen, ?_⟩
      rw [decide_eq_true (by rw [List.length_map]; lia)]
      refine brT (at_ok (by lia) (by rw [List.length_map]; lia) (by rw [List.length_map]; lia) ?_)
      rw [show ((a : Int)).toNat = a from rfl, e, w2]
      exact cont w
    · rw [w1x]
      refine ⟨hlen, ?_⟩
      rw [decide_eq_true (by rw [List.length_map]; lia)]
      refine brT (at_ok (by lia) (by rw [List.length_map]; lia) (by rw [List.length_map]; lia) ?_)
      rw [show ((a : Int)).toNat = a from rfl, e, w2x]
      exact cont w
end
end Mine
set_option genSizeOf false
set_option genInjectivity false
set_option maxRecDepth 100000
namespace Mine
open PySem PySem.W PySem.Calls PyProof.Rows
theorem tab_st {op : Int} {i : Op} (h : (op, i) ∈ ops) (d : Nat) (e o c b : D) (σ : Cpu) (K : KE) : stepR PX3 d (hs3 e o c b σ) op K = i σ fun σ => K (.d .mpu) (hs3 e o c b σ) := by
  unfold ops at h
  simp only [List.mem_cons, Prod.mk.injEq, List.not_mem_nil, or_false] at h
  rcases h with ⟨rfl, rfl⟩ | ⟨rfl, rfl⟩ | ⟨rfl, rfl⟩ | ⟨rfl, rfl⟩ | ⟨rfl, rfl⟩ | ⟨rfl, rfl⟩ | ⟨rfl, rfl⟩ | ⟨rfl, rfl⟩ | ⟨rfl, rfl⟩ | ⟨rfl, rfl⟩ | ⟨rfl, rfl⟩ | ⟨rfl, rfl⟩ | ⟨rfl, rfl⟩ | ⟨rfl, rfl⟩ | ⟨rfl, rfl⟩ | ⟨rfl, rfl⟩ | ⟨rfl, rfl⟩ | ⟨rfl, rfl⟩ | ⟨rfl, rfl⟩ | ⟨rfl, rfl⟩ | ⟨rfl, rfl⟩ | ⟨rfl, rfl⟩ | ⟨rfl, rfl⟩ | ⟨rfl, rfl⟩
  · exact st3_160 d e o c b σ K
  · exact st3_177 d e o c b σ K
  · exact st3_230 d e o c b σ K
  · exact st3_208 d e o c b σ K
  · exact st3_144 d e o c b σ K
  · exact st3_141 d e o c b σ K
  · exact st3_108 d e o c b σ K
  · exact st3_202 d e o c b σ K
  · exact st3_232 d e o c b σ K
  · exact st3_168 d e o c b σ K
  · exact st3_152 d e o c b σ K
  · exact st3_149 d e o c b σ K
  · exact st3_148 d e o c b σ K
  · exact st3_133 d e o c b σ K
  · exact st3_181 d e o c b σ K
  · exact st3_180 d e o c b σ K
  · exact st3_117 d e o c b σ K
  · exact st3_101 d e o c b σ K
  · exact st3_245 d e o c b σ K
  · exact st3_85 d e o c b σ K
  · exact st3_24 d e o c b σ K
  · exact st3_56 d e o c b σ K
  · exact st3_76 d e o c b σ K
  · exact st3_162 d e o c b σ K
section
variable {n : Nat} {e o c b : D} {K : KS} {en : Int}
theorem step_ok {σ : Cpu} {q q₁ : Q} {K : KE} (A : Abs 4096 σ q) (G : Goes 4096 q q₁) (h : ∀ σ', Abs 4096 σ' q₁ → K (.d .mpu) (hs3 e o c b σ')) : callN PX3 (n + 8) false true "step" [.d .mpu] (hs3 e o c b σ) K := by
  obtain ⟨op, hm, g, b0, b1⟩ := G
  rw [st3_0, A.pc]
  refine A.rd (by decide) b0 b1 ?_
  rw [tab_st hm]
  exact g σ A _ h
theorem loopM (L : Int → Loc) (step : ∀ (u i : Int) (r : List D) (σ : Cpu), turns (n + 8) 23 none K (.int u :: r) (L i) (hs3 e o c b σ) = (True ∧ br (σ.pc == 1388) (K .next (L u) (hs3 e o c b σ))
      (callN PX3 (n + 8) false true "step" [.d .mpu] (hs3 e o c b σ) fun _ hs => turns (n + 8) 23 none K r (L u) hs))) {q' : Q} (hq : q'.pc = 1388) (h : ∀ u σ', Abs 4096 σ' q' → K .next (L u) (hs3 e o c b σ')) :
    ∀ (k s l : Nat) (i : Int) (σ : Cpu) (q : Q), Abs 4096 σ q → Run 4096 1388 k q q' → k < l → turns (n + 8) 23 none K ((List.range' s l).map fun (i : Nat) => D.int i) (L i) (hs3 e o c b σ)
  | k, s, 0, i, σ, q, A, R, hk => absurd hk (Nat.not_lt_zero _)
  | 0, s, l + 1, i, σ, q, A, R, hk => by
    have R : q = q' := R
    subst R
    rw [List.range'_succ, List.map_cons, step]
    have : (σ.pc == 1388) = true := by rw [A.pc, hq]; rfl
    rw [this]
    exact ⟨trivial, brT (h _ σ A)⟩
  | k + 1, s, l + 1, i, σ, q, A, R, hk => by
    obtain ⟨hlt, q₁, G, R⟩ := R
    rw [List.range'_succ, List.map_cons, step]
    have : (σ.pc == 1388) = false := by rw [A.pc]; simp; lia
    rw [this]
    exact ⟨trivial, brF (step_ok A G fun σ' A' => loopM L step hq h k (s + 1) l _ σ' q₁ A' R (by lia))⟩
end
end Mine
set_option genSizeOf false
set_option genInjectivity false
set_option maxRecDepth 100000
namespace Mine
open PySem PySem.W PySem.Calls PyProof.Rows

section
variable {base top : Int} {ps : List St} {m : List Int}
theorem fB_lo {j : Nat} (hj : j < 256) (h1 : j ≠ 128) (h2 : j ≠ 129) : fB base top j = f0 j := by
  unfold fB updN
  iterate 24 rw [if_neg (by lia)]
theorem fB_tab : ∀ k : Nat, k < 7 → fB base top (1009 + 2 * k) = ents.getD k 0 ∧ fB base top (1010 + 2 * k) = 5
  | 0, _ => ⟨rfl, rfl⟩
  | 1, _ => ⟨rfl, rfl⟩
  | 2, _ => ⟨rfl, rfl⟩
  | 3, _ => ⟨rfl, rfl⟩
  | 4, _ => ⟨rfl, rfl⟩
  | 5, _ => ⟨rfl, rfl⟩
  | 6, _ => ⟨rfl, rfl⟩
  | k + 7, h => absurd h (by lia)
noncomputable abbrev fAll (base top : Int) (ps : List St) : Nat → Int := laid (laid (fB base top) 1280 codeL) base.toNat (enc ps ++ [255])
theorem sizes_le : ∀ l : List St, sizes' l ≤ 2 * l.length
  | [] => by decide
  | s :: l => by
    have ih := sizes_le l
    have : size s.1 ≤ 2 := by unfold size; split <;> decide
    show size s.1 + sizes' l ≤ 2 * (l.length + 1)
    lia
theorem all_low (hb : 2048 ≤ base) {j : Nat} (hj : j < 1280) : fAll base top ps j = fB base top j := by
  unfold fAll laid
  rw [if_neg (by lia), if_neg (by lia)]
theorem all_code (hb : 2048 ≤ base) {i : Nat} {y : Int} (e : codeL[i]? = some y) : fAll base top ps (1280 + i) = y := by
  have hi : i < 108 := (List.getElem?_eq_some_iff.mp e).1
  unfold fAll laid
  rw [if_neg (by lia), if_pos ⟨by lia, by show 1280 + i < 1280 + 108; lia⟩, show 1280 + i - 1280 = i by lia, List.getD_eq_getElem?_getD, e]
  rfl
theorem all_oct (hb : 2048 ≤ base ∧ base ≤ 2303) {j : Nat} (hj : j < 256) : oct? (fAll base top ps j) := by
  rw [all_low hb.1 (by lia)]
  by_cases h1 : j = 128
  · subst h1
    show oct? (base.fmod 256)
    rw [fmod_pos (by decide)]
    exact om
  · by_cases h2 : j = 129
    · subst h2
      show oct? (base.fdiv 256)
      rw [fdiv_pos (by decide)]
      exact ⟨by lia, by lia⟩
    · rw [fB_lo hj h1 h2]; exact f0_oct j
noncomputable def S0 (top : Int) (m : List Int) : List Int := (List.range' 0 40).map fun (i : Nat) => m.getD ((top + (i : Int)) % 256).toNat 0
theorem S0_len : (S0 top m).length = 40 := by unfold S0; rw [List.length_map, List.length_range']
theorem S0_get {i : Nat} (h : i < 40) : (S0 top m).getD i 0 = m.getD ((top + (i : Int)) % 256).toNat 0 := by
  unfold S0
  rw [List.getD_eq_getElem?_getD, List.getElem?_map, List.getElem?_range' h]
  simp
theorem inv0 (hb : 2048 ≤ base ∧ base ≤ 2303) (ht : okTop3 top) (ok : ∀ s ∈ ps, okS s) (hps : ps.length ≤ 12) (I : IsM m (fAll base top ps)) : Inv top base ps (S0 top m) m (fun i => m.getD i.toNat 0) := by
  have sl := sizes_le ps
  have ex : xOf top (S0 top m) = top % 256 := by unfold xOf; rw [S0_len]; congr 1; lia
  have el := enc_len ps
  refine ⟨⟨I.len, fun i y e _ => ?_, fun k hk => ?_, ?_, ?_⟩, fun i _ _ _ _ _ => rfl, ?_, ?_, hb.1, by lia, fun i y e => ?_, fun i hi => ?_, fun i hi => ?_, by rw [S0_len]; lia, by rw [S0_len]; lia, ok⟩
  · have hi : i < 108 := (List.getElem?_eq_some_iff.mp e).1
    rw [I.get _ (by lia)]
    exact all_code hb.1 e
  · have t := fB_tab (base := base) (top := top) k hk
    rw [I.get _ (by lia), I.get _ (by lia), all_low hb.1 (by lia), all_low hb.1 (by lia)]
    exact t
  · rw [I.get _ (by decide), all_low hb.1 (by decide)]; rfl
  · rw [I.get _ (by decide), all_low hb.1 (by decide)]; rfl
  · show m.getD 128 0 = _
    rw [I.get _ (by decide), all_low hb.1 (by decide)]
    show base.fmod 256 = _
    exact fmod_pos (by decide)
  · show m.getD 129 0 = _
    rw [I.get _ (by decide), all_low hb.1 (by decide)]
    show base.fdiv 256 = _
    exact fdiv_pos (by decide)
  · have hi : i < (enc ps ++ [255]).length := (List.getElem?_eq_some_iff.mp e).1
    have hi2 := hi
    rw [List.length_append] at hi2
    simp at hi2
    rw [I.get _ (by lia)]
    unfold fAll laid
    rw [if_pos ⟨by lia, by lia⟩, show base.toNat + i - base.toNat = i by lia, List.getD_eq_getElem?_getD, e]
    rfl
  · rw [S0_len] at hi
    rw [S0_get hi, ex]
    congr 2
    lia
  · rw [S0_len] at hi
    rw [S0_get hi, I.get _ (by lia)]
    exact all_oct hb (by lia)
end
end Mine
set_option genSizeOf false
set_option genInjectivity false
set_option maxRecDepth 100000
namespace Mine
open PySem PySem.W PySem.Calls PyProof.Rows

section
variable {n : Nat} {base top : Int} {ps : List St} {m : List Int} {e o c b : D} {K : KS}
theorem interp_len : ∀ (f : Nat) (r : List St) (S b : List Int), f + 2 ≤ S.length → (interp top f r S b).1.length ≤ S.length + f
  | 0, _, S, b, _ => Nat.le_refl _
  | f + 1, [], S, b, _ => Nat.le_add_right _ _
  | f + 1, (k, v) :: r, S, b, h => by
    have sl := stk_len (k := k) (v := v) (S := S) (by lia)
    have := interp_len f (rest k v S r) (stk k v S) (putB top (stk k v S) b) (by lia)
    show (interp top f (rest k v S r) (stk k v S) (putB top (stk k v S) b)).1.length ≤ _
    lia
theorem pok48 : Pok 48 false false false false := ⟨by decide, by decide, by decide +kernel, by decide +kernel⟩
theorem mach (hb : 2048 ≤ base ∧ base ≤ 2303) (ht : okTop3 top) (ok : ∀ s ∈ ps, okS s) (hps : ps.length ≤ 12) (I : IsM m (fAll base top ps)) (L : Int → Loc)
    (step : ∀ (u i : Int) (r : List D) (σ : Cpu), turns (n + 8) 23 none K (.int u :: r) (L i) (hs3 e o c b σ) = (True ∧ br (σ.pc == 1388) (K .next (L u) (hs3 e o c b σ))
      (callN PX3 (n + 8) false true "step" [.d .mpu] (hs3 e o c b σ) fun _ hs => turns (n + 8) 23 none K r (L u) hs))) (i : Int)
    (h : ∀ u σ q, Abs 4096 σ q → End (base + (sizes' ps : Int)) (interp top 12 ps (S0 top m) m).1 (interp top 12 ps (S0 top m) m).2 top q → K .next (L u) (hs3 e o c b σ)) : turns (n + 8) 23 none K (rangeD 320) (L i) (hs3 e o c b (cpu0 m)) := by
  have I0 := inv0 hb ht ok hps I
  have ot : oct? top := by unfold okTop3 at ht; exact ⟨by lia, by lia⟩
  have t0 := ot.1; have t1 := ot.2
  have ex : xOf top (S0 top m) = top := by unfold xOf; rw [S0_len]; lia
  have A0 : Abs 4096 (cpu0 m) ⟨fun i => m.getD i.toNat 0, 1278, 255, 0, 0, 0, false, false, false, false⟩ := ⟨I.len, fun i hi => rfl, rfl, rfl, rfl, rfl, rfl, pok48⟩
  have R : R3 (22 * 12 + 7 + 1) ⟨fun i => m.getD i.toNat 0, 1278, 255, 0, 0, 0, false, false, false, false⟩ (End (base + (sizes' ps : Int)) (interp top 12 ps (S0 top m) m).1 (interp top 12 ps (S0 top m) m).2 top) := by
    refine r_ldxI (u := top) (npc := 1280) hL3 (by decide) (by decide) h53 (by decide) ?_ ?_ ot (by decide) ?_
    · show m.getD 1278 0 = _
      rw [I.get _ (by decide), all_low hb.1 (by decide)]; rfl
    · show m.getD 1279 0 = _
      rw [I.get _ (by decide), all_low hb.1 (by decide)]; rfl
    · have := run_all (E := base + (sizes' ps : Int)) ht 12 ps (S0 top m) m hps base (fun i => m.getD i.toNat 0) 0 0 false (top == 0) (decide (128 ≤ top)) false I0 rfl
      rw [ex] at this
      exact this
  obtain ⟨k, hk, q', R, G⟩ := R
  rw [range_eq]
  exact loopM L step G.pc (fun u σ' A => h u σ' q' A G) k 0 320 i _ _ A0 R (by lia)
theorem last_ok {σ : Cpu} {q : Q} {E : Int} {S os b : List Int} {kf : Prop} {kt : List Int → Prop} (A : Abs 4096 σ q) (G : End E S b top q) (hE : base + (os.length : Int) = E + 1) (ho : os.length ≤ 100) (hS : S.length ≤ 100) (h : kt σ.m) : lastW σ S os b base top 1388 kf kt := by
  have Ib : IsM b (fun j => b.getD j 0) := ⟨G.len, fun _ _ => rfl⟩
  refine ⟨by lia, by decide, ?_⟩
  have e1 : decide ([σ.pc, σ.sp, σ.x, σ.y, σ.a] = [1388, 255, (top + 40 - (S.length : Nat)).fmod 256, 0, 255]) = true := decide_eq_true (by
    rw [A.pc, A.sp, A.x, A.y, A.a, G.pc, G.sp, G.x, G.y, G.a, fmod_pos (by decide)]; rfl)
  rw [e1]
  refine brF ⟨by lia, by decide, by lia, ⟨by decide, by decide⟩, ?_⟩
  refine wrM_ok Ib (by decide) (by decide) fun b1 I1 => wrM_ok I1 (by decide) (by decide) fun b2 I2 => wrM_ok I2 (by decide) (by decide) fun b3 I3 => ?_
  have e2 : b3 = σ.m := by
    apply List.ext_getElem?
    intro j
    by_cases hj : j < 4096
    · have e3 := I3.get j hj
      have e4 := A.mem j hj
      rw [List.getD_eq_getElem?_getD, List.getElem?_eq_getElem (by rw [I3.len]; exact hj)] at e3
      rw [List.getD_eq_getElem?_getD, List.getElem?_eq_getElem (by rw [A.len]; exact hj)] at e4
      rw [List.getElem?_eq_getElem (by rw [I3.len]; exact hj), List.getElem?_eq_getElem (by rw [A.len]; exact hj)]
      simp only [Option.getD_some] at e3 e4
      rw [e3, e4]
      congr 1
      rw [hE, fmod_pos (by decide), fdiv_pos (by decide)]
      show updN (updN (updN (fun j => b.getD j 0) 128 _) 129 _) 1294 255 j = _
      unfold updN
      by_cases h1 : j = 1294
      · rw [if_pos h1]; subst h1; exact G.m2.symm
      · rw [if_neg h1]
        by_cases h2 : j = 129
        · rw [if_pos h2]; subst h2; exact G.m1.symm
        · rw [if_neg h2]
          by_cases h3 : j = 128
          · rw [if_pos h3]; subst h3; exact G.m0.symm
          · rw [if_neg h3, G.mem j (by lia) (by lia) (by lia) (by lia) (by lia)]; rfl
    · rw [List.getElem?_eq_none (by rw [I3.len]; lia), List.getElem?_eq_none (by rw [A.len]; lia)]
  rw [e2]
  exact h
end
end Mine
set_option genSizeOf false
set_option genInjectivity false
set_option maxRecDepth 100000
namespace Mine
open PySem PySem.W PySem.Calls PyProof.Rows

noncomputable def codeT : List Int := codeL.drop 1
theorem code_split : codeL = 160 :: codeT := rfl
theorem cut_all (m : List Int) : cut m none none = m := by unfold cut; simp
theorem tops_ok (j : Nat) (hj : j < 7) : okTop3 (topsL.getD j 0) := by
  have : j = 0 ∨ j = 1 ∨ j = 2 ∨ j = 3 ∨ j = 4 ∨ j = 5 ∨ j = 6 := by lia
  rcases this with rfl | rfl | rfl | rfl | rfl | rfl | rfl <;> (unfold okTop3; decide)
theorem lows_ok (i : Nat) (hi : i < 7) : 2048 ≤ 2048 + lowsL.getD i 0 ∧ 2048 + lowsL.getD i 0 ≤ 2303 := by
  have : i = 0 ∨ i = 1 ∨ i = 2 ∨ i = 3 ∨ i = 4 ∨ i = 5 ∨ i = 6 := by lia
  rcases this with rfl | rfl | rfl | rfl | rfl | rfl | rfl <;> decide
theorem s0_list {top : Int} {m : List Int} : (([] : List D).reverse ++ (List.range' 0 40).map fun (i : Nat) => D.int (m.getD ((top + (i : Int)) % 256).toNat 0)) = (S0 top m).map .int := by
  unfold S0
  rw [List.map_map]; rfl
theorem first_is {m : List Int} {f : Nat → Int} (I : IsM m (updN f (1280 + 0 : Int).toNat 160)) : IsM m (laid f 1280 [160]) := by
  have e := laid_snoc f 1280 [] 160
  rw [laid_nil] at e
  rw [List.nil_append] at e
  rw [← e]
  exact I
section
variable {xs nums : List Int} {base top : Int} {m : List Int} {KK : KE} {ps : List St}
theorem tailE (hb : 2048 ≤ base ∧ base ≤ 2303) (ht : okTop3 top) (I : IsM m (fB base top)) : exL (rsL 19 12) (fnL.body.drop 15) (locE xs nums (tlC base top [])) (hsC (.ints []) (enc [] ++ [255]) m codeL) (outL fun v _ => v = .d (.bool true)) := by
  rw [l15e]
  show turns 19 15 (some (3, .ints codeL)) _ (.tup [.int 0, .int 160] :: enumFrom 1 (codeT.map .int)) _ _
  rw [s15e]
  refine ⟨rfl, wrM_ok I (by decide) (by decide) fun m1 I1 => ?_⟩
  refine lay_all (base := 1280) (a := 1280) rfl (fun t o => locE xs nums (tlD base top t o [])) rfl (fun _ => by rfl) (fun m i o t₀ o₀ r => s15e' ..) codeT [160] 0 160 m1 (first_is I1) (by decide) fun t o m2 I2 => ?_
  show exL (rsL 19 12) (fnL.body.drop 16) (locE xs nums (tlD base top t o [])) (hsC (.ints []) (enc [] ++ [255]) m2 codeL) _
  rw [l16e]
  refine lay_all (base := base) (a := base.toNat) (by lia) (fun t o => locE xs nums (tlD base top t o [])) rfl (fun _ => by rfl) (fun m i o t₀ o₀ r => s16e ..) (enc [] ++ [255]) [] t o m2 (by rw [laid_nil]; exact I2) (by show base.toNat + 0 + 1 ≤ 4096; lia) fun t o m3 I3 => ?_
  show exL (rsL 19 12) (fnL.body.drop 17) (locE xs nums (tlD base top t o [])) (hsC (.ints []) (enc [] ++ [255]) m3 codeL) _
  rw [l17e]
  refine ⟨⟨by decide, by decide⟩, ⟨by decide, by decide⟩, by decide, ?_⟩
  rw [range_eq]
  refine found_all (m := m3) (top := top) I3.len _ (fun s => match s with
    | none => dropS (locE xs nums (tlD base top t o []))
    | some s => dropS (locE xs nums (tlD base top t o [])) ++ spot s) (fun s u r acc => ?_) 40 0 none [] ?_
  · cases s with
    | none => exact s17e ..
    | some s => exact s17e' ..
  rw [s0_list, mkList_ints]
  show exL (rsL 19 12) (fnL.body.drop 18) (fE xs nums base top t o [("stack", .d (.ints (S0 top m3)))]) (hsC (.ints []) (enc [] ++ [255]) m3 codeL) _
  rw [l18e]
  refine ⟨by rw [I3.len]; decide, 0 + 1, ?_⟩
  rw [cut_all, w0]
  refine ⟨by decide, ?_⟩
  show exL (rsL (11 + 8) 12) (fnL.body.drop 21) (fE xs nums base top t o (tlS (S0 top m3) 0 [])) (hsB (.ints []) (enc [] ++ [255]) m3 codeL m3) _
  rw [l21e]
  refine ⟨by decide, ⟨by decide, by decide, by decide⟩, ⟨by decide, by decide, by decide⟩, ⟨by decide, by decide, by decide⟩, ⟨by decide, by decide, by decide⟩, ⟨by decide, by decide⟩, ⟨by decide, by decide⟩, ?_⟩
  refine mach (ps := []) hb ht (fun _ h => nomatch h) (by decide) I3 (fun u => fE xs nums base top u o (tlS (S0 top m3) 0 (tlM 1388 []))) (fun u i r σ => s23e ..) t fun u σ q A G => ?_
  rw [interp_nil] at G
  show behind (rsL 19 12) (fnL.body.drop 24) (outL _) .next (fE xs nums base top u o (tlS (S0 top m3) 0 (tlM 1388 []))) _
  rw [l24e]
  refine last_ok A G (by show base + 1 = base + 0 + 1; lia) (by decide) (by rw [S0_len]; decide) ?_
  rw [decide_eq_true rfl]
theorem tailF {t v w : Int} {sd : D} (hb : 2048 ≤ base ∧ base ≤ 2303) (ht : okTop3 top) (ok : ∀ s ∈ ps, okS s) (hps : ps.length ≤ 12) (hne : ps ≠ []) (I : IsM m (fB base top)) :
    exL (rsL 19 12) (fnL.body.drop 15) (locF xs nums t v w sd (tlC base top [])) (hsC (.list (ps.map toD)) (enc ps ++ [255]) m codeL) (outL fun v _ => v = .d (.bool true)) := by
  have sl := sizes_le ps
  have el := enc_len ps
  have ol : (enc ps ++ [255]).length = sizes' ps + 1 := by rw [List.length_append, el]; rfl
  rw [l15f]
  show turns 19 15 (some (3, .ints codeL)) _ (.tup [.int 0, .int 160] :: enumFrom 1 (codeT.map .int)) _ _
  rw [s15f]
  refine ⟨rfl, wrM_ok I (by decide) (by decide) fun m1 I1 => ?_⟩
  refine lay_all (base := 1280) (a := 1280) rfl (fun t o => locF xs nums t v w sd (tlF base top o [])) rfl (fun _ => by rfl) (fun m i o t₀ o₀ r => s15f' ..) codeT [160] 0 160 m1 (first_is I1) (by decide) fun t o m2 I2 => ?_
  show exL (rsL 19 12) (fnL.body.drop 16) (locF xs nums t v w sd (tlF base top o [])) (hsC (.list (ps.map toD)) (enc ps ++ [255]) m2 codeL) _
  rw [l16f]
  refine lay_all (base := base) (a := base.toNat) (by lia) (fun t o => locF xs nums t v w sd (tlF base top o [])) rfl (fun _ => by rfl) (fun m i o t₀ o₀ r => s16f ..) (enc ps ++ [255]) [] t o m2 (by rw [laid_nil]; exact I2) (by rw [ol]; simp; lia) fun t o m3 I3 => ?_
  show exL (rsL 19 12) (fnL.body.drop 17) (locF xs nums t v w sd (tlF base top o [])) (hsC (.list (ps.map toD)) (enc ps ++ [255]) m3 codeL) _
  rw [l17f]
  refine ⟨⟨by decide, by decide⟩, ⟨by decide, by decide⟩, by decide, ?_⟩
  rw [range_eq]
  refine found_all (m := m3) (top := top) I3.len _ (fun s => match s with
    | none => dropS (locF xs nums t v w sd (tlF base top o []))
    | some s => dropS (locF xs nums t v w sd (tlF base top o [])) ++ spot s) (fun s u r acc => ?_) 40 0 none [] ?_
  · cases s with
    | none => exact s17f ..
    | some s => exact s17f' ..
  rw [s0_list, mkList_ints]
  show exL (rsL 19 12) (fnL.body.drop 18) (fF xs nums t v w sd base top o [("stack", .d (.ints (S0 top m3)))]) (hsC (.list (ps.map toD)) (enc ps ++ [255]) m3 codeL) _
  rw [l18f]
  refine ⟨by rw [I3.len]; decide, 12 + 1, ?_⟩
  rw [cut_all, fK6]
  refine while_all ok hps 12 ps 0 (S0 top m3) m3 6 w [] rfl (by decide) hps I3.len (by rw [S0_len]; lia) (by rw [S0_len]; lia) (.inl ⟨rfl, hne⟩) fun a' k' w' => ?_
  show exL (rsL (11 + 8) 12) (fnL.body.drop 21) (fK xs nums t v w' sd base top k' o (tlS _ a' _)) (hsB (.list (ps.map toD)) (enc ps ++ [255]) m3 codeL _) _
  rw [l21f]
  refine ⟨by decide, ⟨by decide, by decide, by decide⟩, ⟨by decide, by decide, by decide⟩, ⟨by decide, by decide, by decide⟩, ⟨by decide, by decide, by decide⟩, ⟨by decide, by decide⟩, ⟨by decide, by decide⟩, ?_⟩
  refine mach (ps := ps) hb ht ok hps I3 (fun u => fK xs nums u v w' sd base top k' o (tlS (interp top 12 ps (S0 top m3) m3).1 a' (("x", .d (.int (xOf top (interp top 12 ps (S0 top m3) m3).1))) :: tlM 1388 []))) (fun u i r σ => s23f ..) t fun u σ q A G => ?_
  show behind (rsL 19 12) (fnL.body.drop 24) (outL _) .next (fK xs nums u v w' sd base top k' o (tlS _ a' (("x", .d (.int _)) :: tlM 1388 []))) _
  rw [l24f]
  have il := interp_len (top := top) 12 ps (S0 top m3) m3 (by rw [S0_len]; decide)
  rw [S0_len] at il
  refine last_ok A G (by rw [ol]; lia) (by rw [ol]; lia) (by lia) ?_
  rw [decide_eq_true rfl]
end
end Mine
set_option genSizeOf false
set_option genInjectivity false
set_option maxRecDepth 100000
namespace Mine
open PySem PySem.W PySem.Calls PyProof.Rows
theorem cut12 (xs : List Int) : (cut xs none (some 12)).length ≤ 12 := by
  unfold cut
  simp only [Option.elim_none, Option.elim_some, List.drop_zero, Nat.sub_zero, List.length_take]
  rw [clip_min (by decide)]
  lia
theorem hev3 : ∀ xs : List Int, xs.length ≤ 63 → callN PX3 20 false false nm3 [.d (.arg xs)] ⟨[], none⟩ fun v _ => v = .d (.bool true) := by
  intro xs hx
  show callN PX3 (19 + 1) false false nm3 [.d (.arg xs)] ⟨[], none⟩ fun v _ => v = .d (.bool true)
  rw [l1]
  refine ⟨len_lim (by lia), ?_⟩
  have h12 := cut12 xs
  generalize cut xs none (some 12) = nums at *
  dsimp only
  rw [l2a]
  cases hn : nums with
  | nil =>
    refine ⟨trivial, ?_⟩
    show exL (rsL 19 12) (fnL.body.drop 3) (locA xs [] []) ⟨[.ints []], none⟩ _
    rw [l3e]
    refine ⟨rfl, ?_⟩
    show exL (rsL (18 + 1) 12) (fnL.body.drop 5) (locE xs [] []) ⟨[.ints [], .ints []], none⟩ _
    rw [l5e]
    exact build_ok (by decide) (by decide) fun i j m hi hj I => tailE (lows_ok i hi) (tops_ok j hj) I
  | cons x rs =>
    rw [← hn]
    refine loop2_first hn h12 fun ps t v w ok hl => ?_
    show exL (rsL 19 12) (fnL.body.drop 3) (locA xs nums (tn t v w)) ⟨[.list (ps.map toD)], none⟩ _
    rw [l3]
    have hne : ps ≠ [] := fun q => by rw [q, hn] at hl; exact nomatch hl
    have sl := sizes_le ps
    have el := enc_len ps
    refine loop4 (n := 18) (ps := ps) (by lia) ok ps [] [] t [] rfl (.inl ⟨rfl, hne⟩) (by decide) fun t sd => ?_
    show exL (rsL (18 + 1) 12) (fnL.body.drop 5) (locF xs nums t v w sd []) ⟨[.list (ps.map toD), .ints (enc ps)], none⟩ _
    rw [l5f]
    exact build_ok h12 (by lia) fun i j m hi hj I => tailF (lows_ok i hi) (tops_ok j hj) ok (by lia) hne I
end Mine
set_option genSizeOf false
set_option genInjectivity false
set_option maxRecDepth 100000
namespace Mine
open PySem PySem.W
set_option maxHeartbeats 0
noncomputable abbrev RW3 : Program := PySem.Challenge.rw_im0096_03.row.prog
theorem look3a : (sreFenced RW3.main && ((moduleNames RW3.main.body).isEmpty || lookedIntoSs (moduleNames RW3.main.body) RW3.main.body)) = true := by kernel_rfl
theorem look3b : namesResolve RW3 = true := by kernel_rfl
theorem look3c : RW3.boundNames.all (fun n => !worldNames.contains n) = true := by kernel_rfl
theorem look3d : noRoadLSs { strict := !(importedModules RW3.main.body).all cThrough.contains, foot := none, bare := (["vars", "dir", "locals"] : List Str).filter (readsOut RW3 RW3.main.body) } RW3.main.body = true := by kernel_rfl
theorem look3e : (namesMeet RW3 RW3.main.body fun _ n => attrL n) = true := by kernel_rfl
theorem looks3 : looksOpen RW3 = true := look_both (look_both (look_both (look_both look3a look3b) look3c) look3d) look3e
theorem start3 : (!startupNames.contains PySem.Challenge.rw_im0096_03.row.name) = true := by rw [PySem.W.Fast.te12749700546528644094]; kernel_rfl
theorem row3 : PySem.Challenge.rw_im0096_03.row.wellSaid = true := by
  delta OpenRow.wellSaid OpenRow.partSaid
  repeat' (with_reducible refine look_both ?_ ?_)
  all_goals with_reducible first | exact looks3 | exact start3 | kernel_rfl
theorem wsaid3 : PySem.Challenge.rw_im0096_03.wellSaid = true := by
  delta OpenLaw.wellSaid
  repeat' (with_reducible refine look_both ?_ ?_)
  all_goals with_reducible first | exact row3 | kernel_rfl
end Mine
set_option genSizeOf false
set_option genInjectivity false
set_option maxRecDepth 100000
open PySem PySem.W
theorem PySem.Challenge.cw_im0096_03_holds : PySem.Challenge.rw_im0096_03.Holds :=
  ⟨Mine.wsaid3, Mine.law3 Mine.row3 Mine.hev3⟩
